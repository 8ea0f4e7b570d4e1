import Derived.Test.YbulkbkxgMem
import Derived.Test.YbulkbkxgParts
namespace Go.Proofs.Ybulkbkxg
open Go.RowKit

/-- The spans' cells. -/
def flat : List (Int × Option Addr) → List Value
  | [] => []
  | p :: r => .int .i64 p.1 :: .pointer p.2 :: flat r

theorem flat_length (L : List (Int × Option Addr)) : (flat L).length = L.length * 2 := by
  induction L with
  | nil => rfl
  | cons p r ih => simp [flat, ih]; omega
theorem flat_append (L M : List (Int × Option Addr)) : flat (L ++ M) = flat L ++ flat M := by
  induction L with
  | nil => rfl
  | cons p r ih => simp [flat, ih]
theorem flat_at0 (L : List (Int × Option Addr)) (i : Nat) (h : i < L.length) : (flat L)[i * 2]? = some (.int .i64 (L[i]).1) := by
  induction L generalizing i with
  | nil => simp at h
  | cons p r ih =>
    cases i with
    | zero => simp [flat]
    | succ i => simp only [flat, Nat.succ_mul, List.getElem_cons_succ]; exact ih i (by simpa using h)
theorem flat_at1 (L : List (Int × Option Addr)) (i : Nat) (h : i < L.length) : (flat L)[i * 2 + 1]? = some (.pointer (L[i]).2) := by
  induction L generalizing i with
  | nil => simp at h
  | cons p r ih =>
    cases i with
    | zero => simp [flat]
    | succ i => simp only [flat, Nat.succ_mul, List.getElem_cons_succ]; exact ih i (by simpa using h)
theorem flat_set (L : List (Int × Option Addr)) (s : Int) (A B : Option Addr) : (flat (L ++ [(s, A)])).set (L.length * 2 + 1) (.pointer B) = flat (L ++ [(s, B)]) := by
  induction L with
  | nil => simp [flat]
  | cons p r ih => simp only [List.cons_append, flat, List.length_cons, Nat.succ_mul, List.set_cons_succ]; rw [ih]

/-- What mark makes of the spans. -/
def markL {α : Type} (s : Int) (A : α) (L : List (Int × α)) : List (Int × α) :=
  match L.getLast? with
  | some p => if p.1 = s then L.dropLast ++ [(s, A)] else L ++ [(s, A)]
  | none => [(s, A)]

theorem markL_nil {α : Type} (s : Int) (A : α) : markL s A [] = [(s, A)] := rfl
theorem markL_same {α : Type} (s : Int) (A B : α) (L : List (Int × α)) : markL s A (L ++ [(s, B)]) = L ++ [(s, A)] := by simp [markL]
theorem markL_other {α : Type} (s t : Int) (A B : α) (L : List (Int × α)) (h : t ≠ s) : markL s A (L ++ [(t, B)]) = L ++ [(t, B)] ++ [(s, A)] := by simp [markL, h]
theorem markL_length {α : Type} (s : Int) (A : α) (L : List (Int × α)) : (markL s A L).length ≤ L.length + 1 := by
  unfold markL
  split
  · split <;> simp <;> omega
  · simp
theorem markL_map {α β : Type} (f : α → β) (s : Int) (A : α) (L : List (Int × α)) : (markL s A L).map (fun p => (p.1, f p.2)) = markL s (f A) (L.map fun p => (p.1, f p.2)) := by
  rcases List.eq_nil_or_concat L with rfl | ⟨L', ⟨t, B⟩, rfl⟩
  · rfl
  · rw [List.concat_eq_append, List.map_append]
    by_cases h : t = s
    · subst h
      rw [markL_same]
      simp only [List.map_append, List.map_cons, List.map_nil]
      rw [markL_same]
    · rw [markL_other _ _ _ _ _ h]
      simp only [List.map_append, List.map_cons, List.map_nil]
      rw [markL_other _ _ _ _ _ h]

theorem Yba.info40 : (Yba.prog.info? 40).map (fun i => (i.zero, i.size, i.bytes)) = some (some (.agg #[.int .i64 0, .pointer none]), 2, 16) := by kernel_rfl

/-- What mark asks of the slice 'open': empty, and nil is handed on; or its last cell holds the pointer. -/
def LastIs (w : World) (ao : Option Addr) (m : Nat) (A : Option Addr) : Prop :=
  (m = 0 ∧ A = none) ∨ ∃ g o, ao = some ⟨g, o, none⟩ ∧ 0 < m ∧ w.cell? ⟨g, o + (m - 1), none⟩ = some (.pointer A)

/-- What mark leaves. -/
def Marked (S base : Nat) (cl vsp : Value) (L : List (Int × Option Addr)) (w w' : World) : Prop :=
  ∃ vsp', w'.heap[S]? = some (.cells #[cl, vsp'] 35 (0, 0)) ∧ w'.ownsRow base 40 2 vsp' L.length (flat L) ∧ Kept (fun k => k = S ∨ vsp.ownBlock = some k) w w'


theorem cells_two_new (w : World) (b : Nat) (x y : Value) (t : TypeId) (hb : b = w.heap.size) : ∀ j u, [x, y][j]? = some u → (w.alloc (.cells #[x, y] t)).cell? ((⟨b, 0, none⟩ : Addr).add j) = some u := by
  subst hb
  intro j u hj
  match j, hj with
  | 0, hj => simp at hj; subst hj; simp [Addr.add]
  | 1, hj => simp at hj; subst hj; simp [Addr.add]

/-- Behind the append: the field is stored. -/
theorem marked_append {S base : Nat} {s : Int} {A : Option Addr} {cl vsp v' : Value} {L : List (Int × Option Addr)} {w w1 : World}
    (hS : w.heap[S]? = some (.cells #[cl, vsp] 35 (0, 0))) (hSb : S < base) (hown : w.ownsRow base 40 2 vsp L.length (flat L))
    (hown1 : w1.ownsRow base 40 2 v' (L.length + 1) (flat L ++ [.int .i64 s, .pointer A])) (hg : (w.alloc (.cells #[.int .i64 s, .pointer A] 40)).grownBy w1 vsp.ownBlock) :
    Marked S base cl vsp (L ++ [(s, A)]) w (w1.setCell ⟨S, 1, none⟩ v') := by
  have hk : Kept (fun k => k = S ∨ vsp.ownBlock = some k) w w1 := ((Kept.refl _ w).alloc _).grown hg (fun k _ e => Or.inr e)
  have hne : vsp.ownBlock ≠ some S := fun e => by have := (hown.lt S e).1; omega
  have hS1 : w1.heap[S]? = some (.cells #[cl, vsp] 35 (0, 0)) := by
    rw [hg.block S (by have := lt_of_block hS; simp; omega) (fun e => hne e.symm), Below.heap_alloc _ _ _ (lt_of_block hS)]; exact hS
  refine ⟨v', two_set1 hS1, ?_, hk.setCell (fun _ => Or.inl rfl) _⟩
  have h2 := ownsRow_setCell_below hown1 (a := ⟨S, 1, none⟩) hSb v'
  simpa [flat_append, flat] using h2

set_option maxHeartbeats 1000000 in
theorem mark_append (S base : Nat) (s : Int) (ao : Option Addr) (m cap : Nat) (A : Option Addr) (cl vsp : Value) (L : List (Int × Option Addr)) (w : World)
    (hS : w.heap[S]? = some (.cells #[cl, vsp] 35 (0, 0))) (hSb : S < base) (hb : base ≤ w.heap.size) (hown : w.ownsRow base 40 2 vsp L.length (flat L)) (hlen : L.length ≤ 4096) (hm : m ≤ 4096)
    (hop : LastIs w ao m A) (hlast : L = [] ∨ ∃ L' t B, L = L' ++ [(t, B)] ∧ t ≠ s) :
    Calls Yba.prog 8 #[.pointer (some ⟨S, 0, none⟩), .int .i64 s, .slice ao m cap] w fun e w' => e = .returned (.tuple #[]) ∧ Marked S base cl vsp (L ++ [(s, A)]) w w' := by
  have c1 := two_cell1 hS
  have f1 := block_free (o := 1) hS
  obtain ⟨i, hi, hz0, hz1, hz2⟩ := info_parts Yba.info40
  have hs1 : S < w.heap.size := by omega
  have HM : Hid (∀ v' w1, w1.ownsRow base 40 2 v' (L.length + 1) (flat L ++ [.int .i64 s, .pointer A]) → (w.alloc (.cells #[.int .i64 s, .pointer A] 40)).grownBy w1 vsp.ownBlock →
      (∃ ao' cap', v' = .slice ao' (L.length + 1) cap') ∧ w1.cell? ⟨S, 1, none⟩ = some vsp ∧ w1.frozen? ⟨S, 1, none⟩ = false ∧ Marked S base cl vsp (L ++ [(s, A)]) w (w1.setCell ⟨S, 1, none⟩ v')) := by
    intro v' w1 h1 hg
    have hne : some S ≠ vsp.ownBlock := fun e => by have := (hown.lt S e.symm).1; omega
    have hS1 : w1.heap[S]? = some (.cells #[cl, vsp] 35 (0, 0)) := by
      rw [hg.block S (by simp; omega) hne, Below.heap_alloc _ _ _ hs1]; exact hS
    exact ⟨owns_shape h1, two_cell1 hS1, block_free hS1, marked_append hS hSb hown h1 hg⟩
  rcases hlast with rfl | ⟨L', t, B, rfl, hts⟩
  · obtain ⟨av, cv, rfl⟩ := owns_shape hown
    simp only [List.length_nil] at c1 hown HM
    rcases hop with ⟨rfl, rfl⟩ | ⟨g, o, rfl, hm0, hc⟩
    all_goals
      clear hS hSb hlen
      go_enter Yba.func8, Yba.ntmps8
      go_wp2_with (at_builtin; refine wpList_append_own _ rfl (.tmp 50) (.tmp 54) 33 rfl base 40 i _ 2 16 Yba.underlying33 hi hz0 hz1 hz2 rfl (by decide) _ 0 _ rfl (hown.alloc _) ⟨w.heap.size, 0, none⟩ 1 1 [.int .i64 s, .pointer _] rfl rfl (cells_two_new w _ _ _ 40 rfl) (by intro u hu; simp at hu; rcases hu with rfl | rfl <;> rfl) (by decide) (by decide) (by simp; omega) ?_)
      intro v' w1 hown1 hgrow _
      obtain ⟨⟨a', cap', rfl⟩, hv1, hf1, hM⟩ := HM.out _ _ hown1 hgrow
      clear hown1 hgrow HM hown c1 f1
      go_wp2
      go_end0
      exact ⟨rfl, hM⟩
  · obtain ⟨g', cap', rfl, hg', hnc, hcm⟩ := owns_some hown (by simp)
    have hx : w.cell? ⟨g', L'.length * 2, none⟩ = some (.int .i64 t) := by
      rw [hown.cellAt _ (by simp), flat_at0 _ _ (by simp)]; simp
    have htb : (t == s) = false := by simpa using hts
    simp only [List.length_append, List.length_singleton] at c1 hown HM hlen hnc
    generalize flat (L' ++ [(t, B)]) = F at hown HM
    generalize L' ++ [(t, B)] ++ [(s, A)] = M at HM ⊢
    generalize L'.length = n at *
    unfold maxLen at hcm
    rcases hop with ⟨rfl, rfl⟩ | ⟨g, o, rfl, hm0, hc⟩
    all_goals
      clear hS hSb hts
      go_enter Yba.func8, Yba.ntmps8
      go_wp2_with (at_builtin; refine wpList_append_own _ rfl (.tmp 50) (.tmp 54) 33 rfl base 40 i _ 2 16 Yba.underlying33 hi hz0 hz1 hz2 rfl (by decide) _ (n + 1) _ rfl (hown.alloc _) ⟨w.heap.size, 0, none⟩ 1 1 [.int .i64 s, .pointer _] rfl rfl (cells_two_new w _ _ _ 40 rfl) (by intro u hu; simp at hu; rcases hu with rfl | rfl <;> rfl) (by unfold maxLen; omega) (by omega) (by simp; omega) ?_)
      intro v' w1 hown1 hgrow _
      obtain ⟨⟨a', cap'', rfl⟩, hv1, hf1, hM⟩ := HM.out _ _ hown1 hgrow
      clear hown1 hgrow HM hown c1 f1
      go_wp2
      go_end0
      exact ⟨rfl, hM⟩

set_option maxHeartbeats 1000000 in
theorem mark_same (S base : Nat) (s : Int) (ao : Option Addr) (m cap : Nat) (A B : Option Addr) (cl vsp : Value) (L : List (Int × Option Addr)) (w : World)
    (hS : w.heap[S]? = some (.cells #[cl, vsp] 35 (0, 0))) (hSb : S < base) (hown : w.ownsRow base 40 2 vsp (L.length + 1) (flat (L ++ [(s, B)]))) (hlen : L.length ≤ 4096) (hm : m ≤ 4096)
    (hop : LastIs w ao m A) :
    Calls Yba.prog 8 #[.pointer (some ⟨S, 0, none⟩), .int .i64 s, .slice ao m cap] w fun e w' => e = .returned (.tuple #[]) ∧ Marked S base cl vsp (L ++ [(s, A)]) w w' := by
  have c1 := two_cell1 hS
  obtain ⟨g', cap', rfl, hg', hnc, hcm⟩ := owns_some hown (by omega)
  have hx : w.cell? ⟨g', L.length * 2, none⟩ = some (.int .i64 s) := by
    rw [hown.cellAt _ (by omega), flat_at0 _ _ (by simp)]; simp
  have hy : w.cell? ⟨g', L.length * 2 + 1, none⟩ = some (.pointer B) := by
    rw [hown.cellAt _ (by omega), flat_at1 _ _ (by simp)]; simp
  have hf := hown.frozenAt (L.length * 2 + 1)
  have HM : Hid (Marked S base cl (.slice (some ⟨g', 0, none⟩) (L.length + 1) cap') (L ++ [(s, A)]) w (w.setCell ⟨g', L.length * 2 + 1, none⟩ (.pointer A))) := by
    have h2 := (hown.stored (L.length * 2 + 1) (.pointer A))
    rw [flat_set] at h2
    refine ⟨_, ?_, by simpa using h2.1, (Kept.refl _ _).setCell (fun _ => Or.inr rfl) _⟩
    rw [Below.heap_setCell _ _ _ _ (by show S ≠ g'; omega)]
    exact hS
  generalize L ++ [(s, A)] = M at HM ⊢
  clear hown
  generalize L.length = n at *
  unfold maxLen at hcm
  rcases hop with ⟨rfl, rfl⟩ | ⟨g, o, rfl, hm0, hc⟩
  all_goals
    clear hS hSb
    go_enter Yba.func8, Yba.ntmps8
    go_wp2
    exact bodyPost_ret (results_none (by first | exact Yba.results8 | rfl) _ _ _) rfl ⟨rfl, HM.out⟩

/-- mark, whatever the spans. -/
theorem mark_any (S base : Nat) (s : Int) (ao : Option Addr) (m cap : Nat) (A : Option Addr) (cl vsp : Value) (L : List (Int × Option Addr)) (w : World)
    (hS : w.heap[S]? = some (.cells #[cl, vsp] 35 (0, 0))) (hSb : S < base) (hb : base ≤ w.heap.size) (hown : w.ownsRow base 40 2 vsp L.length (flat L)) (hlen : L.length ≤ 4096) (hm : m ≤ 4096)
    (hop : LastIs w ao m A) :
    Calls Yba.prog 8 #[.pointer (some ⟨S, 0, none⟩), .int .i64 s, .slice ao m cap] w fun e w' => e = .returned (.tuple #[]) ∧ Marked S base cl vsp (markL s A L) w w' := by
  rcases List.eq_nil_or_concat L with rfl | ⟨L', p, hL⟩
  · exact mark_append S base s ao m cap A cl vsp [] w hS hSb hb hown hlen hm hop (Or.inl rfl)
  · rw [List.concat_eq_append] at hL
    obtain ⟨t, B⟩ := p
    subst hL
    by_cases hts : t = s
    · subst hts
      rw [markL_same]
      exact mark_same S base t ao m cap A B cl vsp L' w hS hSb (by simpa using hown) (by simp at hlen; omega) hm hop
    · rw [markL_other _ _ _ _ _ hts]
      exact mark_append S base s ao m cap A cl vsp _ w hS hSb hb hown hlen hm hop (Or.inr ⟨L', t, B, rfl, hts⟩)

end Go.Proofs.Ybulkbkxg
