import Derived.Test.YbulkbkxgMark
import Derived.Maps.AppendAt
namespace Go.Proofs.Ybulkbkxg
open Go.RowKit

/-- Step k of the script as it lies in memory: its start and the selectors of its open classes. -/
def StepAt (B : Nat) (w : World) (ao : Option Addr) (k : Nat) (s : Int) (ys : List Int) : Prop :=
  ∃ b off a c, ao = some ⟨b, off, none⟩ ∧ b < B ∧ w.cell? ⟨b, off + k * 2, none⟩ = some (.int .i64 s) ∧ w.cell? ⟨b, off + k * 2 + 1, none⟩ = some (.slice a ys.length c) ∧
    ∀ j (h : j < ys.length), ∃ b' o', a = some ⟨b', o', none⟩ ∧ b' < B ∧ w.cell? ⟨b', o' + j, none⟩ = some (.int .u8 ys[j]) ∧ 0 ≤ ys[j] ∧ ys[j] ≤ 255

theorem StepAt.later {B : Nat} {w wr : World} {ao : Option Addr} {k : Nat} {s : Int} {ys : List Int} (h : StepAt B w ao k s ys) (hb : Below B w wr) : StepAt B wr ao k s ys := by
  obtain ⟨b, off, a, c, h1, h2, h3, h4, h5⟩ := h
  refine ⟨b, off, a, c, h1, h2, (hb.cell (p := ⟨b, _, none⟩) h2).trans h3, (hb.cell (p := ⟨b, _, none⟩) h2).trans h4, fun j hj => ?_⟩
  obtain ⟨b', o', g1, g2, g3, g4⟩ := h5 j hj
  exact ⟨b', o', g1, g2, (hb.cell (p := ⟨b', _, none⟩) g2).trans g3, g4⟩

/-- The index of the owner: of the last selector; -1 where there is none. -/
def ownIdx (ys : List Int) : Int := match ys.getLast? with | none => -1 | some o => o % 5 - 1

theorem ownIdx_take (ys : List Int) (j : Nat) (h : j < ys.length) : ownIdx (ys.take (j + 1)) = ys[j] % 5 - 1 := by
  unfold ownIdx; rw [List.take_succ_eq_append_getElem h, List.getLast?_append]; simp

theorem ownIdx_bd (ys : List Int) : -1 ≤ ownIdx ys ∧ ownIdx ys ≤ 3 := by unfold ownIdx; split <;> omega

/-- The model: what the script's first k steps come to. -/
def modelTo (Z : Nat → Int) (Y : Nat → List Int) : Nat → List (Int × Int)
  | 0 => []
  | k + 1 => markL (Z k) (ownIdx (Y k)) (modelTo Z Y k)

theorem modelTo_length (Z : Nat → Int) (Y : Nat → List Int) (k : Nat) : (modelTo Z Y k).length ≤ k := by
  induction k with
  | zero => simp [modelTo]
  | succ k ih => have := markL_length (Z k) (ownIdx (Y k)) (modelTo Z Y k); simp only [modelTo]; omega

theorem markL_bd (s : Int) (o : Int) (L : List (Int × Int)) (h : ∀ p ∈ L, -1 ≤ p.2 ∧ p.2 ≤ 3) (ho : -1 ≤ o ∧ o ≤ 3) : ∀ p ∈ markL s o L, -1 ≤ p.2 ∧ p.2 ≤ 3 := by
  intro p hp
  unfold markL at hp
  split at hp
  · split at hp
    · simp at hp
      rcases hp with hp | rfl
      · exact h p (List.dropLast_subset _ hp)
      · exact ho
    · simp at hp
      rcases hp with hp | rfl
      · exact h p hp
      · exact ho
  · simp at hp; subst hp; exact ho

theorem modelTo_bd (Z : Nat → Int) (Y : Nat → List Int) (k : Nat) : ∀ p ∈ modelTo Z Y k, -1 ≤ p.2 ∧ p.2 ≤ 3 := by
  induction k with
  | zero => simp [modelTo]
  | succ k ih => exact markL_bd _ _ _ ih (ownIdx_bd _)

def spansOf (B : Nat) (M : List (Int × Int)) : List (Int × Option Addr) := M.map fun p => (p.1, ownA B p.2)

/-- What holds at the head of each round: the pool, the set with its spans, the model's two slices; nothing old has turned. -/
structure Inv (w : World) (B : Nat) (wr : World) (vS vO : Value) (M : List (Int × Int)) : Prop where
  below : Below w.heap.size w wr
  hB : w.heap.size ≤ B
  size : B + 6 ≤ wr.heap.size
  pool : Pool (B + 4) B wr
  set : ∃ vsp, wr.heap[B + 5]? = some (.cells #[.slice none 0 0, vsp] 35 (0, 0)) ∧ wr.ownsRow (B + 6) 40 2 vsp M.length (flat (spansOf B M))
  starts : wr.ownsRow (B + 6) 3 1 vS M.length (M.map fun p => .int .i64 p.1)
  owners : wr.ownsRow (B + 6) 3 1 vO M.length (M.map fun p => .int .i64 p.2)
  apart : ∀ g, vS.ownBlock = some g → vO.ownBlock ≠ some g

theorem Inv.kept {w wr w2 : World} {B : Nat} {vS vO : Value} {M : List (Int × Int)} (h : Inv w B wr vS vO M) (hk : Kept (fun _ => False) wr w2) : Inv w B w2 vS vO M := by
  obtain ⟨vsp, s1, s2⟩ := h.set
  refine ⟨h.below.trans (hk.below (by have := h.size; have := h.hB; omega) (fun _ _ e => e)), h.hB, Nat.le_trans h.size hk.size, fun i hi => hk.cell (h.pool i hi) (fun e => e), ⟨vsp, hk.heap s1 (fun e => e), hk.owns s2 (fun _ _ e => e)⟩,
    hk.owns h.starts (fun _ _ e => e), hk.owns h.owners (fun _ _ e => e), h.apart⟩

/-- Behind mark: the spans have been marked; the model's slices are as they were. -/
structure Mid (w : World) (B : Nat) (wr : World) (vS vO : Value) (M : List (Int × Int)) (N : List (Int × Int)) : Prop where
  below : Below w.heap.size w wr
  hB : w.heap.size ≤ B
  size : B + 6 ≤ wr.heap.size
  pool : Pool (B + 4) B wr
  set : ∃ vsp, wr.heap[B + 5]? = some (.cells #[.slice none 0 0, vsp] 35 (0, 0)) ∧ wr.ownsRow (B + 6) 40 2 vsp N.length (flat (spansOf B N))
  starts : wr.ownsRow (B + 6) 3 1 vS M.length (M.map fun p => .int .i64 p.1)
  owners : wr.ownsRow (B + 6) 3 1 vO M.length (M.map fun p => .int .i64 p.2)
  apart : ∀ g, vS.ownBlock = some g → vO.ownBlock ≠ some g

theorem spans_mark (B : Nat) (s : Int) (o : Int) (M : List (Int × Int)) : markL s (ownA B o) (spansOf B M) = spansOf B (markL s o M) := by
  unfold spansOf; rw [markL_map (ownA B)]

theorem Inv.marked {w wr w2 : World} {B : Nat} {vS vO : Value} {M : List (Int × Int)} {s o : Int} {vsp : Value} (h : Inv w B wr vS vO M)
    (s2 : wr.ownsRow (B + 6) 40 2 vsp M.length (flat (spansOf B M)))
    (hm : Marked (B + 5) (B + 6) (.slice none 0 0) vsp (markL s (ownA B o) (spansOf B M)) wr w2) : Mid w B w2 vS vO M (markL s o M) := by
  obtain ⟨vsp', m1, m2, m3⟩ := hm
  rw [spans_mark] at m2
  have hlow : ∀ k, k < B + 5 → ¬ (k = B + 5 ∨ vsp.ownBlock = some k) := fun k hk e => by
    rcases e with e | e
    · omega
    · have := (s2.lt k e).1; omega
  refine ⟨h.below.trans (m3.below (by have := h.size; have := h.hB; omega) (fun k hk => hlow k (by have := h.hB; omega))), h.hB, Nat.le_trans h.size m3.size, fun i hi => m3.cell (h.pool i hi) (hlow _ (by show B + 4 < B + 5; omega)),
    ⟨vsp', m1, by simpa [spansOf] using m2⟩, m3.owns h.starts (fun g hg e => ?_), m3.owns h.owners (fun g hg e => ?_), h.apart⟩
  · rcases e with e | e
    · have := (h.starts.lt g hg).1; omega
    · exact owns_apart h.starts s2 (by decide) g hg e
  · rcases e with e | e
    · have := (h.owners.lt g hg).1; omega
    · exact owns_apart h.owners s2 (by decide) g hg e

/-- A new block, a draw. -/
theorem Mid.kept {w wr w2 : World} {B : Nat} {vS vO : Value} {M N : List (Int × Int)} (h : Mid w B wr vS vO M N) (hk : Kept (fun _ => False) wr w2) : Mid w B w2 vS vO M N := by
  obtain ⟨vsp, s1, s2⟩ := h.set
  refine ⟨h.below.trans (hk.below (by have := h.size; have := h.hB; omega) (fun _ _ e => e)), h.hB, Nat.le_trans h.size hk.size, fun i hi => hk.cell (h.pool i hi) (fun e => e), ⟨vsp, hk.heap s1 (fun e => e), hk.owns s2 (fun _ _ e => e)⟩,
    hk.owns h.starts (fun _ _ e => e), hk.owns h.owners (fun _ _ e => e), h.apart⟩

/-- The last start is this one: the owner is stored. -/
theorem Mid.stored {w wr : World} {B g cap : Nat} {vS : Value} {M : List (Int × Int)} {s o p : Int} (h : Mid w B wr vS (.slice (some ⟨g, 0, none⟩) (M.length + 1) cap) (M ++ [(s, p)]) (markL s o (M ++ [(s, p)]))) :
    Inv w B (wr.setCell ⟨g, M.length, none⟩ (.int .i64 o)) vS (.slice (some ⟨g, 0, none⟩) (M.length + 1) cap) (markL s o (M ++ [(s, p)])) := by
  obtain ⟨vsp, s1, s2⟩ := h.set
  have hO := h.owners
  simp only [List.length_append, List.length_singleton] at hO
  have hst := hO.stored M.length (.int .i64 o)
  have hgl : B + 6 ≤ g := (hO.lt g rfl).1
  have hk : Kept (fun k => k = g) wr (wr.setCell ⟨g, M.length, none⟩ (.int .i64 o)) := Kept.setCell (Kept.refl (fun k => k = g) wr) (p := ⟨g, M.length, none⟩) (fun _ => rfl) _
  have hlow : ∀ k, k < B + 6 → ¬ k = g := fun k hk => by omega
  have hN : markL s o (M ++ [(s, p)]) = M ++ [(s, o)] := markL_same _ _ _ _
  refine ⟨h.below.trans (hk.below (by have := h.size; have := h.hB; omega) (fun k hk => hlow k (by have := h.hB; omega))), h.hB, Nat.le_trans h.size hk.size, fun i hi => hk.cell (h.pool i hi) (hlow _ (by show B + 4 < B + 6; omega)),
    ⟨vsp, hk.heap s1 (hlow _ (by omega)), hk.owns s2 (fun g' hg' e => ?_)⟩, ?_, ?_, h.apart⟩
  · subst e; exact owns_apart s2 h.owners (by decide) g' hg' rfl
  · have := hk.owns h.starts (fun g' hg' e => by subst e; exact h.apart g' hg' rfl)
    rw [hN]; simpa using this
  · rw [hN]
    have h2 := hst.1
    rw [show ((M ++ [(s, p)]).map fun q => Value.int .i64 q.2).set M.length (.int .i64 o) = (M ++ [(s, o)]).map fun q => Value.int .i64 q.2 from by simp] at h2
    simpa using h2

/-- Another start: both slices have been appended to. -/
theorem Mid.grown {w wr w1 w2 : World} {B : Nat} {vS vO vS' vO' : Value} {M : List (Int × Int)} {s o : Int} (h : Mid w B wr vS vO M (markL s o M)) (hne : M = [] ∨ ∃ M' t q, M = M' ++ [(t, q)] ∧ t ≠ s)
    (a1 : w1.ownsRow (B + 6) 3 1 vS' (M.length + 1) (M.map (fun p => .int .i64 p.1) ++ [.int .i64 s])) (g1 : (wr.alloc (.cells #[.int .i64 s] 3)).grownBy w1 vS.ownBlock) (l1 : vS'.ownBlock = vS.ownBlock ∨ vS'.ownBlock = some (wr.alloc (.cells #[.int .i64 s] 3)).heap.size)
    (a2 : w2.ownsRow (B + 6) 3 1 vO' (M.length + 1) (M.map (fun p => .int .i64 p.2) ++ [.int .i64 o])) (g2 : (w1.alloc (.cells #[.int .i64 o] 3)).grownBy w2 vO.ownBlock) (l2 : vO'.ownBlock = vO.ownBlock ∨ vO'.ownBlock = some (w1.alloc (.cells #[.int .i64 o] 3)).heap.size) :
    Inv w B w2 vS' vO' (markL s o M) := by
  obtain ⟨vsp, s1, s2⟩ := h.set
  have e1 : (wr.alloc (.cells #[.int .i64 s] 3)).heap.size = wr.heap.size + 1 := by simp
  have e2 : (w1.alloc (.cells #[.int .i64 o] 3)).heap.size = w1.heap.size + 1 := by simp
  rw [e1] at l1
  rw [e2] at l2
  have hN : markL s o M = M ++ [(s, o)] := by
    rcases hne with rfl | ⟨M', t, q, rfl, hts⟩
    · rfl
    · exact markL_other _ _ _ _ _ hts
  have k1 : Kept (fun k => vS.ownBlock = some k) wr w1 := ((Kept.refl _ wr).alloc _).grown g1 (fun k _ e => e)
  have k2 : Kept (fun k => vO.ownBlock = some k) w1 w2 := ((Kept.refl _ w1).alloc _).grown g2 (fun k _ e => e)
  have k12 : Kept (fun k => vS.ownBlock = some k ∨ vO.ownBlock = some k) wr w2 := (k1.mono (fun _ _ e => Or.inl e)).then k2 (fun _ _ e => Or.inr e)
  have hlow : ∀ k, k < B + 6 → ¬ (vS.ownBlock = some k ∨ vO.ownBlock = some k) := fun k hk e => by
    rcases e with e | e
    · have := (h.starts.lt k e).1; omega
    · have := (h.owners.lt k e).1; omega
  -- the new starts' row is none of the owners' old one
  have hSO : ∀ g, vS'.ownBlock = some g → vO.ownBlock ≠ some g := by
    intro g hg e
    rcases l1 with l | l
    · exact h.apart g (l ▸ hg) e
    · rw [l] at hg; injection hg with hg
      have := (h.owners.lt g e).2; omega
  refine ⟨h.below.trans (k12.below (by have := h.size; have := h.hB; omega) (fun k hk => hlow k (by have := h.hB; omega))), h.hB, Nat.le_trans h.size k12.size, fun i hi => k12.cell (h.pool i hi) (hlow _ (by show B + 4 < B + 6; omega)),
    ⟨vsp, k12.heap s1 (hlow _ (by omega)), k12.owns s2 (fun g hg e => ?_)⟩, ?_, ?_, ?_⟩
  · rcases e with e | e
    · exact owns_apart s2 h.starts (by decide) g hg e
    · exact owns_apart s2 h.owners (by decide) g hg e
  · have := k2.owns a1 (fun g hg e => hSO g hg e)
    rw [hN]; simpa using this
  · rw [hN]; simpa using a2
  · intro g hg e
    rcases l2 with l | l
    · exact hSO g hg (l ▸ e)
    · rw [l] at e; injection e with e
      have := (a1.lt g hg).2; omega

theorem box_later {wr wm : World} {x y : Value} (h : Kept (fun _ => False) (wr.alloc (.cells #[x, y] 48)) wm) : wm.heap[wr.heap.size]? = some (.cells #[x, y] 48 (0, 0)) :=
  h.heap (heap_alloc_new wr _) (fun e => e)

theorem kept_of_none {w w' : World} (h : w.grownBy w' none) : Kept (fun _ => False) w w' := (Kept.refl _ w).grown h (fun _ _ e => by cases e)

theorem lastIs_of_owns {w : World} {base B cp : Nat} {ap : Option Addr} {ys : List Int} (h : w.ownsRow base 24 1 (.slice ap ys.length cp) ys.length (ys.map fun o => .pointer (ownA B (o % 5 - 1)))) : LastIs w ap ys.length (ownA B (ownIdx ys)) := by
  rcases List.eq_nil_or_concat ys with rfl | ⟨ys', o, rfl⟩
  · exact Or.inl ⟨rfl, rfl⟩
  · rw [List.concat_eq_append] at h ⊢
    obtain ⟨g, cap, hv, _⟩ := owns_some h (by simp)
    simp only [Value.slice.injEq, true_and] at hv
    obtain ⟨rfl, rfl⟩ := hv
    refine Or.inr ⟨g, 0, rfl, by simp, ?_⟩
    rw [h.cellAt _ (by simp)]
    simp [ownIdx]

/-- The step's own box behind mark. -/
theorem box_marked {wr wi w2 : World} {S base : Nat} {x y cl vsp : Value} {L L' : List (Int × Option Addr)} (h : wi.heap[wr.heap.size]? = some (.cells #[x, y] 48 (0, 0))) (hS : S < wr.heap.size) (s2 : wi.ownsRow base 40 2 vsp L.length (flat L)) (hm : Marked S base cl vsp L' wi w2) :
    w2.heap[wr.heap.size]? = some (.cells #[x, y] 48 (0, 0)) := by
  obtain ⟨_, _, _, m3⟩ := hm
  refine m3.heap h (fun e => ?_)
  rcases e with e | e
  · omega
  · obtain ⟨_, cur, hc⟩ := owns_heap s2 e
    rw [h] at hc
    simp at hc

theorem slice_some {w : World} {base n cp : Nat} {e : TypeId} {ap : Option Addr} {xs : List Value} (h : w.ownsRow base e 1 (.slice ap n cp) n xs) (hn : 0 < n) : ∃ g, ap = some ⟨g, 0, none⟩ ∧ n ≤ cp ∧ cp ≤ maxLen := by
  obtain ⟨g, cap, hv, _, h1, h2⟩ := owns_some h hn
  simp only [Value.slice.injEq, true_and] at hv
  obtain ⟨rfl, rfl⟩ := hv
  exact ⟨g, rfl, h1, h2⟩

theorem kept_drewN (w : World) (n : Nat) : Kept (fun _ => False) w (w.drewN n) := ⟨rfl, rfl, rfl, Nat.le_refl _, fun _ _ _ => rfl⟩

theorem Mid.owners1 {w wr w1 : World} {B : Nat} {vS vO : Value} {M N : List (Int × Int)} {s : Int} (h : Mid w B wr vS vO M N) (g1 : (wr.alloc (.cells #[.int .i64 s] 3)).grownBy w1 vS.ownBlock) :
    w1.ownsRow (B + 6) 3 1 vO M.length (M.map fun p => .int .i64 p.2) := by
  have k1 : Kept (fun k => vS.ownBlock = some k) wr w1 := ((Kept.refl _ wr).alloc _).grown g1 (fun k _ e => e)
  exact k1.owns h.owners (fun g hg e => h.apart g e hg)

theorem mark_cases (s : Int) (M : List (Int × Int)) : (M = [] ∨ ∃ M' t q, M = M' ++ [(t, q)] ∧ t ≠ s) ∨ ∃ M' p, M = M' ++ [(s, p)] := by
  rcases List.eq_nil_or_concat M with h | ⟨M', ⟨t, p⟩, h⟩
  · exact Or.inl (Or.inl h)
  · rw [List.concat_eq_append] at h
    by_cases hts : t = s
    · subst hts; exact Or.inr ⟨M', p, h⟩
    · exact Or.inl (Or.inr ⟨M', t, p, h, hts⟩)

/-- The last start, where there is one. -/
theorem Mid.lastStart {w wr : World} {B : Nat} {aS : Option Addr} {cS : Nat} {vO : Value} {M N M' : List (Int × Int)} {t q : Int} (h : Mid w B wr (.slice aS M.length cS) vO M N) (hM : M = M' ++ [(t, q)]) :
    ∃ g, aS = some ⟨g, 0, none⟩ ∧ wr.cell? ⟨g, M.length - 1, none⟩ = some (.int .i64 t) ∧ M.length ≤ cS ∧ cS ≤ maxLen := by
  obtain ⟨g, rfl, h1, h2⟩ := slice_some h.starts (by rw [hM]; simp)
  refine ⟨g, rfl, ?_, h1, h2⟩
  rw [h.starts.cellAt _ (by rw [hM]; simp), hM]
  simp

/-- What the last loop reads. -/
theorem Inv.reads {w wr : World} {B : Nat} {aS aO : Option Addr} {cS cO : Nat} {M : List (Int × Int)} (h : Inv w B wr (.slice aS M.length cS) (.slice aO M.length cO) M) :
    ∃ av cv, wr.cell? ⟨B + 1 + 1 + 1 + 1 + 1, 1, none⟩ = some (.slice av M.length cv) ∧ M.length ≤ M.length ∧
      ∀ q (hq : q < M.length), ∃ gS gO gV, aS = some ⟨gS, 0, none⟩ ∧ aO = some ⟨gO, 0, none⟩ ∧ av = some ⟨gV, 0, none⟩ ∧ wr.cell? ⟨gS, q, none⟩ = some (.int .i64 (M[q]).1) ∧ wr.cell? ⟨gO, q, none⟩ = some (.int .i64 (M[q]).2) ∧
        wr.cell? ⟨gV, q * 2, none⟩ = some (.int .i64 (M[q]).1) ∧ wr.cell? ⟨gV, q * 2 + 1, none⟩ = some (.pointer (ownA B (M[q]).2)) := by
  obtain ⟨vsp, s1, s2⟩ := h.set
  obtain ⟨av, cv, rfl⟩ := owns_shape s2
  refine ⟨av, cv, two_cell1 s1, Nat.le_refl _, fun q hq => ?_⟩
  obtain ⟨gS, rfl, _, _⟩ := slice_some h.starts (by omega)
  obtain ⟨gO, rfl, _, _⟩ := slice_some h.owners (by omega)
  obtain ⟨gV, cap, hv, _⟩ := owns_some s2 (by omega)
  simp only [Value.slice.injEq, true_and] at hv
  obtain ⟨rfl, rfl⟩ := hv
  refine ⟨gS, gO, gV, rfl, rfl, rfl, ?_, ?_, ?_, ?_⟩
  · rw [h.starts.cellAt _ (by omega)]; simp [hq]
  · rw [h.owners.cellAt _ (by omega)]; simp [hq]
  · rw [s2.cellAt _ (by omega), flat_at0 _ _ (by simpa [spansOf] using hq)]; simp [spansOf]
  · rw [s2.cellAt _ (by omega), flat_at1 _ _ (by simpa [spansOf] using hq)]; simp [spansOf]

theorem inv_start {w wr : World} (hbel : Below w.heap.size w wr) (o1 o2 o3 o4 : Obj) :
    Inv w wr.heap.size ((((((wr.alloc o1).alloc o2).alloc o3).alloc o4).alloc (.cells #[.pointer (some ⟨wr.heap.size, 0, none⟩), .pointer (some ⟨wr.heap.size + 1, 0, none⟩), .pointer (some ⟨wr.heap.size + 1 + 1, 0, none⟩), .pointer (some ⟨wr.heap.size + 1 + 1 + 1, 0, none⟩)] 24)).alloc
      (.cells #[.slice none 0 0, .slice none 0 0] 35)) (.slice none 0 0) (.slice none 0 0) [] := by
  have hs := hbel.size
  refine ⟨((((((hbel.alloc hs _).alloc (by simp; omega) _).alloc (by simp; omega) _).alloc (by simp; omega) _).alloc (by simp; omega) _).alloc (by simp; omega) _), hs, by simp, fun i hi => ?_, ⟨.slice none 0 0, ?_, World.ownsRow_nil _ _ _ _⟩, World.ownsRow_nil _ _ _ _, World.ownsRow_nil _ _ _ _, fun g hg => by simp [Value.ownBlock] at hg⟩
  · have e : ((((wr.alloc o1).alloc o2).alloc o3).alloc o4).heap.size = wr.heap.size + 4 := by simp
    rw [World.cell?_alloc_past _ _ _ (by simp)]
    match i, hi with
    | 0, _ => rw [World.cell?_alloc_at _ _ _ _ (by simp)]; rfl
    | 1, _ => rw [World.cell?_alloc_at _ _ _ _ (by simp)]; rfl
    | 2, _ => rw [World.cell?_alloc_at _ _ _ _ (by simp)]; rfl
    | 3, _ => rw [World.cell?_alloc_at _ _ _ _ (by simp)]; rfl
  · have h := heap_alloc_new ((((((wr.alloc o1).alloc o2).alloc o3).alloc o4).alloc (.cells #[.pointer (some ⟨wr.heap.size, 0, none⟩), .pointer (some ⟨wr.heap.size + 1, 0, none⟩), .pointer (some ⟨wr.heap.size + 1 + 1, 0, none⟩), .pointer (some ⟨wr.heap.size + 1 + 1 + 1, 0, none⟩)] 24))) (.cells #[.slice none 0 0, .slice none 0 0] 35)
    simpa using h

end Go.Proofs.Ybulkbkxg
