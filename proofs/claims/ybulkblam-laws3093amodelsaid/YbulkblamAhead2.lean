import Derived.Test.YbulkblamAhead
import Derived.Deep.DeepCutAuto
namespace Go.Proofs.Ybulkblam
open Go.RowKit

/-- e lies at f or below it, on the same side of 0. -/
def cmpVal (n m : Bool) (u v : Nat) : Int := if n = m then cmpI u v else if n = true then -1 else 1

theorem compare_any {u v : Nat} {x0 x1 x2 x3 x4 x5 x6 x7 y0 y1 y2 y3 y4 y5 y6 y7 : Value} (hx : Num u x0 x1 x2 x3 x4 x5 x6 x7) (hy : Num v y0 y1 y2 y3 y4 y5 y6 y7) (n m : Bool) (hu : u < 18446744073709551616) (hv : v < 18446744073709551616) (w : World) :
    Calls Yba.prog 21 #[.agg #[x0, x1, x2, x3, x4, x5, x6, x7, .bool n], .agg #[y0, y1, y2, y3, y4, y5, y6, y7, .bool m]] w fun e w' => e = .returned (.int .i64 (cmpVal n m u v)) ∧ Below w.heap.size w w' := by
  by_cases h : n = m
  · subst h
    have e : cmpVal n n u v = cmpI u v := by simp [cmpVal]
    rw [e]
    exact compare_same hx hy n hu hv w
  · have hm : m = !n := by cases n <;> cases m <;> simp_all
    subst hm
    have e : cmpVal n (!n) u v = if n = true then -1 else 1 := by simp [cmpVal]
    rw [e]
    exact compare_apart x0 x1 x2 x3 x4 x5 x6 x7 y0 y1 y2 y3 y4 y5 y6 y7 n w

set_option maxHeartbeats 1000000 in
set_option maxRecDepth 100000 in
theorem ahead_not {u v : Nat} {x0 x1 x2 x3 x4 x5 x6 x7 y0 y1 y2 y3 y4 y5 y6 y7 : Value} (hx : Num u x0 x1 x2 x3 x4 x5 x6 x7) (hy : Num v y0 y1 y2 y3 y4 y5 y6 y7) (n m : Bool) (hu : u < 18446744073709551616) (hv : v < 18446744073709551616) (hle : cmpVal n m u v ≤ 0) (w : World) :
    Calls Yba.prog 9 #[.agg #[x0, x1, x2, x3, x4, x5, x6, x7, .bool n], .agg #[y0, y1, y2, y3, y4, y5, y6, y7, .bool m]] w fun e w' => e = .returned (.int .u64 0) ∧ Below w.heap.size w w' := by
  have hlt1 : w.heap.size < w.heap.size + 1 + 1 := by omega
  have HC := hidden (compare_any hx hy n m hu hv)
  clear hx hy
  generalize cmpVal n m u v = c at *
  go_enter Yba.func9, Yba.ntmps9
  go_wp2_with (go_at_call 21; refine (HC.out _).mono ?_; rintro e w1 ⟨rfl, hb1⟩)
  go_ret
  exact ⟨rfl, (((Below.refl _ w).alloc (Nat.le_refl _) _).alloc (by simp) _).trans (hb1.mono (by simp; omega))⟩

/-- What the rest of Ahead reads behind Compare. -/
theorem boxes {w w1 : World} {x0 x1 x2 x3 x4 x5 x6 x7 x8 y0 y1 y2 y3 y4 y5 y6 y7 y8 : Value}
    (hb : Below ((w.alloc (.cells #[x0, x1, x2, x3, x4, x5, x6, x7, x8] 27)).alloc (.cells #[y0, y1, y2, y3, y4, y5, y6, y7, y8] 27)).heap.size ((w.alloc (.cells #[x0, x1, x2, x3, x4, x5, x6, x7, x8] 27)).alloc (.cells #[y0, y1, y2, y3, y4, y5, y6, y7, y8] 27)) w1) :
    Below w.heap.size w w1 ∧ w.heap.size + 1 < w1.heap.size ∧ w1.heap[w.heap.size]? = some (.cells #[x0, x1, x2, x3, x4, x5, x6, x7, x8] 27 (0, 0)) ∧ w1.heap[w.heap.size + 1]? = some (.cells #[y0, y1, y2, y3, y4, y5, y6, y7, y8] 27 (0, 0)) := by
  have hs := hb.size
  simp at hs
  refine ⟨(((Below.refl _ w).alloc (Nat.le_refl _) _).alloc (by simp) _).trans (hb.mono (by simp; omega)), by omega, ?_, ?_⟩
  · rw [hb.block _ (by simp; omega), Below.heap_alloc _ _ _ (by simp)]
    exact heap_alloc_new w _
  · rw [hb.block _ (by simp)]
    have h := heap_alloc_new (w.alloc (.cells #[x0, x1, x2, x3, x4, x5, x6, x7, x8] 27)) (.cells #[y0, y1, y2, y3, y4, y5, y6, y7, y8] 27)
    simpa using h

theorem nine {w1 : World} {b : Nat} {x0 x1 x2 x3 x4 x5 x6 x7 x8 : Value} (h : w1.heap[b]? = some (.cells #[x0, x1, x2, x3, x4, x5, x6, x7, x8] 27 (0, 0))) :
    w1.cell? ⟨b, 0, none⟩ = some x0 ∧ w1.cell? ⟨b, 1, none⟩ = some x1 ∧ w1.cell? ⟨b, 2, none⟩ = some x2 ∧ w1.cell? ⟨b, 3, none⟩ = some x3 ∧ w1.cell? ⟨b, 4, none⟩ = some x4 ∧ w1.cell? ⟨b, 5, none⟩ = some x5 ∧ w1.cell? ⟨b, 6, none⟩ = some x6 ∧ w1.cell? ⟨b, 7, none⟩ = some x7 ∧ w1.cell? ⟨b, 8, none⟩ = some x8 := by
  simp [World.cell?, h]

theorem back {w1 W w2 : World} {b : Nat} {o : Obj} (hb : Below W.heap.size W w2) (h : w1.heap[b]? = some o) (hW : W.heap = w1.heap) : w2.heap[b]? = some o := by
  rw [← hW] at h
  exact (hb.block b (lt_of_block h)).trans h

set_option maxHeartbeats 2000000 in
set_option maxRecDepth 100000 in
theorem ahead_same {u v : Nat} {x0 x1 x2 x3 x4 x5 x6 x7 y0 y1 y2 y3 y4 y5 y6 y7 : Value} (hx : Num u x0 x1 x2 x3 x4 x5 x6 x7) (hy : Num v y0 y1 y2 y3 y4 y5 y6 y7) (n : Bool) (hu : u < 18446744073709551616) (hv : v < 18446744073709551616) (hlt : v < u) (w : World) :
    Calls Yba.prog 9 #[.agg #[x0, x1, x2, x3, x4, x5, x6, x7, .bool n], .agg #[y0, y1, y2, y3, y4, y5, y6, y7, .bool n]] w fun e w' => e = .returned (.int .u64 (u - v : Int)) ∧ Below w.heap.size w w' := by
  have hc1 : cmpVal n n u v = 1 := by simp [cmpVal, cmpI]; omega
  have HC := hidden (compare_any hx hy n n hu hv)
  rw [hc1] at HC
  have hn : (n != n) = false := by simp
  have HX := hidden hx
  have HY := hidden hy
  have hsub : IntKind.u64.wrap ((u : Int) - (v : Int)) = (u : Int) - (v : Int) := by rw [IntKind.wrap_u64]; omega
  have hwr : (v : Int) ≤ (u : Int) := by omega
  clear hc1 hx hy
  go_enter Yba.func9, Yba.ntmps9
  go_upto_region 3 with (go_at_call 21; refine (HC.out _).mono ?_; rintro e w1 ⟨rfl, hb1⟩)
  obtain ⟨hB, hsz, hk1, hk2⟩ := boxes hb1
  obtain ⟨a0, a1, a2, a3, a4, a5, a6, a7, a8⟩ := nine hk1
  obtain ⟨b0, b1, b2, b3, b4, b5, b6, b7, b8⟩ := nine hk2
  have HK1 := hidden hk1
  have HK2 := hidden hk2
  clear hb1 hk1 hk2 HC
  go_cut [24] from 9 to 24 (fun b wc => b = .bool false ∧ ∃ nn, wc = w1.drewN nn)
  case first =>
    go_quiet (fail)
    go_wp2
    go_meet
    case rel => exact ⟨rfl, _, rfl⟩
  case rest =>
    obtain ⟨rfl, nn, rfl⟩ := hcut
    go_wp2
    have hl1 : w.heap.size < w1.heap.size := by omega
    go_region_with (go_at_call 22; refine (low_num (by first | exact HX.out | exact HY.out) _ (by assumption) _).mono ?_; rintro e w2 ⟨rfl, hb2⟩; try (obtain ⟨c0, c1, c2, c3, c4, c5, c6, c7, c8⟩ := nine (back hb2 HK2.out rfl)))
    all_goals go_wp2
    all_goals go_ret
    all_goals refine ⟨?_, below_two (by assumption) (by assumption) ?_⟩
    all_goals first | exact rfl | exact hB.trans ⟨rfl, rfl, rfl, Nat.le_refl _, fun _ _ => rfl⟩ | (show Ending.returned (.int .u64 (IntKind.u64.wrap ((u : Int) - (v : Int)))) = _; rw [hsub])

end Go.Proofs.Ybulkblam
