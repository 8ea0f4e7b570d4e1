/-
  The law's second loop, in plain words: the fields are copied into a block of their own.
-/
import Derived.Test.YbulkblamLong
import Derived.Laws.MakeOwn
namespace Go.Proofs.Ybulkblam
open Go.RowKit

theorem info42_at : (Yba.prog.info? 42).map (fun i => (i.zero, i.size, i.bytes)) = some (some (.agg #[.string ByteArray.empty, .slice none 0 0]), 2, 40) := by kernel_rfl
theorem info42 : ∃ i, Yba.prog.info? 42 = some i ∧ i.zero = some (.agg #[.string ByteArray.empty, .slice none 0 0]) ∧ i.size = 2 ∧ i.bytes = 40 := by
  have h := info42_at
  cases hi : Yba.prog.info? 42 with
  | none => rw [hi] at h; simp at h
  | some i =>
    rw [hi] at h
    simp only [Option.map_some, Option.some.injEq, Prod.mk.injEq] at h
    exact ⟨i, rfl, h.1, h.2.1, h.2.2⟩

/-- make([]Field, n). -/
theorem make_fs (w : World) (n : Nat) (hn : n ≤ 1024) :
    ∃ cs : Array Value, cs.size = n * 2 ∧ (Instr.makeSlice 41 (.int .i64 n) (.int .i64 n)).run Yba.prog w = .ok (.slice (some ⟨w.heap.size, 0, none⟩) n n) (w.alloc (.cells cs 42)) := by
  obtain ⟨i, hi, hz, hsz, hby⟩ := info42
  have h := run_make (P := Yba.prog) w 41 42 i _ Yba.underlying41 hi hz .i64 .i64 n n (by omega) (Int.le_refl _) (by rw [hby]; omega) (by omega)
  rw [hsz] at h
  exact ⟨_, size_madeCells (Value.agg #[.string ByteArray.empty, .slice none 0 0]).cells (n * 2), by simpa using h⟩

/-- Block G has room for n fields. -/
def Room (w : World) (G n : Nat) : Prop := ∀ j, j < n * 2 → (w.cell? ⟨G, j, none⟩).isSome = true ∧ w.frozen? ⟨G, j, none⟩ = false

/-- gs is fs so far, copied. -/
def Copied (fs gs : List Fld) (k : Nat) : Prop := gs.length = k ∧ ∀ (j : Nat) (n : ByteArray) (x : Value) (ns : List Int), gs[j]? = some (n, x, ns) → ∃ x', fs[j]? = some (n, x', ns)

/-- No value of gs lies in block G. -/
def Beside (gs : List Fld) (G : Nat) : Prop := ∀ (j : Nat) (n : ByteArray) (ns : List Int) (b o l c : Nat), gs[j]? = some (n, Value.slice (some ⟨b, o, none⟩) l c, ns) → b ≠ G

/-- Behind k rounds. -/
def Inv2 (w : World) (fs : List Fld) (k : Nat) (wr : World) : Prop :=
  ∃ gs, Copied fs gs k ∧ Held wr w.heap.size 0 gs ∧ Beside gs w.heap.size ∧ Room wr w.heap.size fs.length ∧ w.keptBut wr (fun _ => False) ∧ w.heap.size < wr.heap.size

theorem inv2_start (w : World) (fs : List Fld) (cs : Array Value) (h : cs.size = fs.length * 2) : Inv2 w fs 0 (w.alloc (.cells cs 42)) := by
  refine ⟨[], ⟨rfl, fun j n x ns h => by simp at h⟩, fun j n x ns h => by simp at h, fun j n ns b o l c h => by simp at h, fun j hj => ⟨?_, ?_⟩, World.keptBut_alloc w _ _, by simp⟩
  · rw [cell_new, Array.getElem?_eq_getElem (by omega)]
    rfl
  · simp only [World.frozen?, alloc_new]
    simp

theorem Room.kept {w w' : World} {G n : Nat} {may : MemPlace → Prop} (h : Room w G n) (hG : G < w.heap.size) (k : w.keptBut w' may) : Room w' G n := by
  intro j hj
  obtain ⟨h1, h2⟩ := h j hj
  exact ⟨keptBut_there k _ _ hG h1, (keptBut_frozen k ⟨G, j, none⟩ hG).trans h2⟩

theorem inv2_next {w wr w1 : World} {fs : List Fld} {k : Nat} {n : ByteArray} {x v : Value} {ns : List Int} (h : Inv2 w fs k wr) (hk : k < fs.length) (hf : fs[k]? = some (n, x, ns)) (hr : Row w1 v ns) (hp : Put wr (.slice none 0 0) w1 v) :
    Inv2 w fs (k + 1) ((w1.setCell ⟨w.heap.size, k * 2, none⟩ (.string n)).setCell ⟨w.heap.size, k * 2 + 1, none⟩ v) := by
  obtain ⟨gs, ⟨hl, hc⟩, hh, hb, hro, hkp, hs⟩ := h
  have hro1 := hro.kept hs hp.1
  have hs1 : w.heap.size < w1.heap.size := Nat.lt_of_lt_of_le hs hp.1.size
  have hh1 : Held w1 w.heap.size 0 gs := hh.old hp.nil
  have k2 : w1.keptBut ((w1.setCell ⟨w.heap.size, k * 2, none⟩ (.string n)).setCell ⟨w.heap.size, k * 2 + 1, none⟩ v) (fun p => p = .cell w.heap.size (k * 2) ∨ p = .cell w.heap.size (k * 2 + 1)) :=
    World.keptBut_trans (World.keptBut_setCell w1 _ _ (.inl rfl)) (World.keptBut_setCell _ _ _ (.inr rfl))
  obtain ⟨u0, hu0⟩ := Option.isSome_iff_exists.1 (hro1 (k * 2) (by omega)).1
  obtain ⟨u1, hu1⟩ := Option.isSome_iff_exists.1 (hro1 (k * 2 + 1) (by omega)).1
  have n0 : ((w1.setCell ⟨w.heap.size, k * 2, none⟩ (.string n)).setCell ⟨w.heap.size, k * 2 + 1, none⟩ v).cell? ⟨w.heap.size, k * 2, none⟩ = some (.string n) := by
    rw [World.cell?_setCell_other]
    · exact World.cell?_setCell_same _ _ _ hu0
    · simp
  have n1 : ((w1.setCell ⟨w.heap.size, k * 2, none⟩ (.string n)).setCell ⟨w.heap.size, k * 2 + 1, none⟩ v).cell? ⟨w.heap.size, k * 2 + 1, none⟩ = some v := by
    have hu1' : (w1.setCell ⟨w.heap.size, k * 2, none⟩ (.string n)).cell? ⟨w.heap.size, k * 2 + 1, none⟩ = some u1 := by
      rw [World.cell?_setCell_other]
      · exact hu1
      · simp
    exact World.cell?_setCell_same _ _ _ hu1'
  have hvb : ∀ b o l c, v = Value.slice (some ⟨b, o, none⟩) l c → b ≠ w.heap.size := by
    rintro b o l c rfl
    rcases hp.2 with ⟨ao, l, c', l', e1, e2, _⟩ | ⟨g', c', l', e2, hg⟩
    · cases e1
      cases e2
    · cases e2
      omega
  refine ⟨gs ++ [(n, v, ns)], ⟨by simp [hl], ?_⟩, ?_, ?_, hro1.kept hs1 k2, keptBut_then (kept_trans hkp hp.nil) k2 (fun p hp => .inr ?_), Nat.lt_of_lt_of_le hs1 k2.size⟩
  · intro j n' x' ns' hj
    by_cases e : j < k
    · rw [List.getElem?_append_left (by omega)] at hj
      exact hc j n' x' ns' hj
    · rw [List.getElem?_append_right (by omega)] at hj
      have e' : j - gs.length = 0 := by
        have := (List.getElem?_eq_some_iff.1 hj).1
        simp at this
        omega
      rw [e'] at hj
      simp at hj
      obtain ⟨rfl, rfl, rfl⟩ := hj
      have : j = k := by omega
      subst this
      exact ⟨x, hf⟩
  · intro j n' x' ns' hj
    by_cases e : j < k
    · rw [List.getElem?_append_left (by omega)] at hj
      obtain ⟨a0, a1, a2⟩ := hh1 j n' x' ns' hj
      refine ⟨?_, ?_, a2.stay k2 ?_⟩
      · rw [k2.cell hs1 (by simp; omega)]; exact a0
      · rw [k2.cell hs1 (by simp; omega)]; exact a1
      · rintro b o c j' rfl hj' hm
        have := hb j n' ns' b o _ c hj
        simp [this] at hm
    · rw [List.getElem?_append_right (by omega)] at hj
      have e' : j - gs.length = 0 := by
        have := (List.getElem?_eq_some_iff.1 hj).1
        simp at this
        omega
      rw [e'] at hj
      simp at hj
      obtain ⟨rfl, rfl, rfl⟩ := hj
      have : j = k := by omega
      subst this
      rw [Nat.zero_add, Nat.mul_comm 2 j]
      refine ⟨n0, n1, hr.lies.stay k2 ?_⟩
      rintro b o c j' rfl hj' hm
      have := hvb b o _ c rfl
      simp [this] at hm
  · intro j n' ns' b o l c hj
    by_cases e : j < k
    · rw [List.getElem?_append_left (by omega)] at hj
      exact hb j n' ns' b o l c hj
    · rw [List.getElem?_append_right (by omega)] at hj
      have e' : j - gs.length = 0 := by
        have := (List.getElem?_eq_some_iff.1 hj).1
        simp at this
        omega
      rw [e'] at hj
      simp at hj
      exact hvb b o l c hj.2.1
  · rcases hp with rfl | rfl <;> exact Nat.le_refl _

/-- The copies' bytes are the fields' bytes. -/
theorem Copied.list {fs gs : List Fld} (h : Copied fs gs fs.length) : fieldsList gs = fieldsList fs := by
  have hm : gs.map (fun f => (f.1, f.2.2)) = fs.map (fun f => (f.1, f.2.2)) := by
    apply List.ext_getElem?
    intro j
    simp only [List.getElem?_map]
    cases hj : gs[j]? with
    | none =>
      have : fs[j]? = none := by
        rw [List.getElem?_eq_none_iff] at hj ⊢
        rw [h.1] at hj
        exact hj
      rw [this]
    | some f =>
      obtain ⟨x', hx⟩ := h.2 j f.1 f.2.1 f.2.2 hj
      rw [hx]
      rfl
  have e : ∀ l : List Fld, fieldsList l = (l.map (fun f => (f.1, f.2.2))).flatMap (fun p : ByteArray × List Int => encStr p.1 ++ p.2) := by
    intro l
    simp [fieldsList, List.flatMap_map]
  rw [e gs, e fs, hm]

end Go.Proofs.Ybulkblam
