/-
  A row of bytes that is only read ('Lies'), what an append leaves of it ('Far'), a row of fields ('Held').
-/
import Derived.Test.YbulkblamBe
import Derived.Test.YbulkblamShelfB
namespace Go.Proofs.Ybulkblam
open Go.RowKit

/-- v holds the bytes zs (to be read). -/
def Lies (w : World) (v : Value) (zs : List Int) : Prop := ∃ p c, v = .slice p zs.length c ∧ Lib.BytesIn w p zs.length zs

theorem Row.lies {w : World} {v : Value} {zs : List Int} (h : Row w v zs) : Lies w v zs := by
  obtain ⟨ao, b, off, cap, rfl, hm, hc⟩ := h
  refine ⟨ao, cap, rfl, fun hn => ?_⟩
  have hcap : 0 < cap := by have := hc.le; omega
  obtain rfl := hc.addr hcap
  refine ⟨b, off, rfl, fun i hi => ?_⟩
  exact hc.olds i _ (by simp [hi, List.getD])

theorem Lies.src {w : World} {v : Value} {zs : List Int} (h : Lies w v zs) : Src Yba.prog 1 37 v zs.length (cells8 zs) w := by
  obtain ⟨p, c, rfl, hb⟩ := h
  by_cases hn : 0 < zs.length
  · obtain ⟨b, o, rfl, hc⟩ := hb hn
    refine Src.ofSlice w Yba.underlying37 ⟨b, o, none⟩ zs.length c (cells8 zs) (by simp) (fun j u hu => ?_) (one8 zs)
    have hj : j < zs.length := by simpa using (List.getElem?_eq_some_iff.1 hu).1
    have e := hc j hj
    simp [hj] at hu
    subst hu
    rw [Go.WideShapes.add_plain]
    simpa [List.getD, hj] using e
  · have : zs = [] := List.eq_nil_of_length_eq_zero (by omega)
    subst this
    cases p with
    | none => exact Src.ofNil w Yba.underlying37 c
    | some a => exact Src.ofSlice w Yba.underlying37 a 0 c [] rfl (fun j u h => by simp at h) (by simp)

theorem Lies.stay {w w' : World} {v : Value} {zs : List Int} {may : MemPlace → Prop} (h : Lies w v zs) (k : w.keptBut w' may)
    (hn : ∀ g off c j, v = .slice (some ⟨g, off, none⟩) zs.length c → j < zs.length → ¬ may (.cell g (off + j))) : Lies w' v zs := by
  obtain ⟨p, c, rfl, hb⟩ := h
  refine ⟨p, c, rfl, fun h0 => ?_⟩
  obtain ⟨b, o, rfl, hc⟩ := hb h0
  refine ⟨b, o, rfl, fun i hi => ?_⟩
  rw [k.cell (World.block_lt_of_cell? _ _ (hc i hi)) (hn b o c i rfl hi)]
  exact hc i hi

theorem Lies.old {w w' : World} {v : Value} {zs : List Int} (h : Lies w v zs) (k : w.keptBut w' (fun _ => False)) : Lies w' v zs := h.stay k (fun _ _ _ _ _ _ => id)

theorem Lies.of_len {w : World} {v : Value} {zs : List Int} (h : Lies w v zs) : ∃ p c, v = .slice p zs.length c := by
  obtain ⟨p, c, rfl, _⟩ := h
  exact ⟨p, c, rfl⟩

/-- The row that was appended to is as it was. -/
theorem Lies.put {w w' : World} {v v' : Value} {zs : List Int} (h : Lies w v zs) (p : Put w v w' v') : Lies w' v zs := by
  refine h.stay p.1 ?_
  rintro g off c j rfl hj ⟨g', off', len', cap', j', e, _, e'⟩
  cases e
  simp only [MemPlace.cell.injEq] at e'
  omega

theorem spare_nil {p : MemPlace} : ¬ spare (.slice none 0 0) p := by
  rintro ⟨g, off, len, cap, j, e, _, _⟩
  cases e

/-- An append to nil turns nothing. -/
theorem Put.nil {w w' : World} {v' : Value} (p : Put w (.slice none 0 0) w' v') : w.keptBut w' (fun _ => False) := World.keptBut_mono (fun _ h => spare_nil h) p.1

theorem kept_trans {a b c : World} (h : a.keptBut b (fun _ => False)) (k : b.keptBut c (fun _ => False)) : a.keptBut c (fun _ => False) := keptBut_then h k (fun _ f => f.elim)

/-- Two rows that hold the same bytes. -/
theorem equal_any {w : World} {v u : Value} {zs : List Int} (h : Lies w v zs) (k : Lies w u zs) : Calls Yba.prog 16 #[v, u] w fun e w' => e = .returned (.bool true) ∧ w' = w := by
  obtain ⟨p, c, rfl, hb⟩ := h
  obtain ⟨q, d, rfl, kb⟩ := k
  refine (Yba.bytes_Equal_all p q zs.length c zs.length d zs zs w rfl rfl hb kb).mono ?_
  rintro e w' ⟨rfl, rfl⟩
  exact ⟨by simp, rfl⟩

/-- Block b is there, and is not where v is appended to. -/
def Far (w : World) (v : Value) (b : Nat) : Prop := b < w.heap.size ∧ ∀ j, ¬ spare v (.cell b j)

theorem Far.put {w w' : World} {v v' : Value} {b : Nat} (h : Far w v b) (p : Put w v w' v') : Far w' v' b := by
  refine ⟨Nat.lt_of_lt_of_le h.1 p.1.size, ?_⟩
  rintro j ⟨g, off, len, cap, i, rfl, hi, e⟩
  cases e
  rcases p.2 with ⟨ao, l, c, l', rfl, e, hl⟩ | ⟨g', c', l', e, hg⟩
  · cases e
    exact h.2 (off + l + (len - l + i)) ⟨b, off, l, cap, len - l + i, rfl, by omega, rfl⟩
  · cases e
    exact absurd h.1 (by omega)

theorem Row.far {w w' : World} {v : Value} {zs : List Int} {b : Nat} (h : Row w v zs) (hb : w.heap.size ≤ b) (hb' : b < w'.heap.size) : Far w' v b := by
  refine ⟨hb', ?_⟩
  rintro j ⟨g, off, len, cap, i, rfl, hi, e⟩
  cases e
  obtain ⟨ao, b', off', cap', e, hm, hc⟩ := h
  cases e
  have h0 : 0 < cap := by omega
  have ha := hc.addr h0
  cases ha
  have := hc.lt h0
  omega

theorem far_nil {w : World} {b : Nat} (h : b < w.heap.size) : Far w (.slice none 0 0) b := ⟨h, fun _ => spare_nil⟩

theorem Far.grown {w w' : World} {v : Value} {b : Nat} (h : Far w v b) (hs : w.heap.size ≤ w'.heap.size) : Far w' v b := ⟨Nat.lt_of_lt_of_le h.1 hs, h.2⟩

/-- A field: its name, its value, the value's bytes. -/
abbrev Fld := ByteArray × Value × List Int

/-- Block g holds the fields from place off on. -/
def Held (w : World) (g off : Nat) (fs : List Fld) : Prop :=
  ∀ (k : Nat) (n : ByteArray) (x : Value) (ns : List Int), fs[k]? = some (n, x, ns) → w.cell? ⟨g, off + 2 * k, none⟩ = some (.string n) ∧ w.cell? ⟨g, off + 2 * k + 1, none⟩ = some x ∧ Lies w x ns

/-- They lie where v is not appended to. -/
def Clear (w : World) (v : Value) (g : Nat) (fs : List Fld) : Prop :=
  Far w v g ∧ ∀ (k : Nat) (n : ByteArray) (x : Value) (ns : List Int), fs[k]? = some (n, x, ns) → ∀ b o l c, x = Value.slice (some ⟨b, o, none⟩) l c → 0 < l → Far w v b

theorem Clear.put {w w' : World} {v v' : Value} {g : Nat} {fs : List Fld} (h : Clear w v g fs) (p : Put w v w' v') : Clear w' v' g fs :=
  ⟨h.1.put p, fun k n x ns hk b o l c e hl => (h.2 k n x ns hk b o l c e hl).put p⟩

theorem Held.put {w w' : World} {v v' : Value} {g off : Nat} {fs : List Fld} (h : Held w g off fs) (c : Clear w v g fs) (p : Put w v w' v') : Held w' g off fs := by
  intro k n x ns hk
  obtain ⟨h1, h2, h3⟩ := h k n x ns hk
  refine ⟨?_, ?_, h3.stay p.1 ?_⟩
  · rw [p.1.cell c.1.1 (c.1.2 _)]; exact h1
  · rw [p.1.cell c.1.1 (c.1.2 _)]; exact h2
  · intro b o l j e hj
    exact (c.2 k n x ns hk b o ns.length l e (by omega)).2 _

theorem Held.old {w w' : World} {g off : Nat} {fs : List Fld} (h : Held w g off fs) (k : w.keptBut w' (fun _ => False)) : Held w' g off fs := by
  intro j n x ns hj
  obtain ⟨h1, h2, h3⟩ := h j n x ns hj
  have hg : g < w.heap.size := World.block_lt_of_cell? _ _ h1
  exact ⟨by rw [k.cell hg id]; exact h1, by rw [k.cell hg id]; exact h2, h3.old k⟩

/-- Nothing is in the way of a nil. -/
theorem Held.clear {w : World} {g off : Nat} {fs : List Fld} (h : Held w g off fs) (hg : g < w.heap.size) : Clear w (.slice none 0 0) g fs := by
  refine ⟨far_nil hg, ?_⟩
  rintro k n x ns hk b o l c rfl hl
  obtain ⟨p, c', e, hb⟩ := (h k n _ ns hk).2.2
  cases e
  obtain ⟨b', o', e', hc⟩ := hb hl
  cases e'
  exact far_nil (World.block_lt_of_cell? _ _ (hc 0 hl))

end Go.Proofs.Ybulkblam
