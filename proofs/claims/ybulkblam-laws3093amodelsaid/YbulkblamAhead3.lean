import Derived.Test.YbulkblamAhead2
namespace Go.Proofs.Ybulkblam
open Go.RowKit

/-- What Ahead answers from f below 0 to e at 0 or more. -/
def crossVal (u v : Nat) : Int := if v ≤ u then 18446744073709551615 else (u : Int) - (v : Int) + 18446744073709551616

set_option maxHeartbeats 4000000 in
set_option maxRecDepth 100000 in
theorem ahead_cross {u v : Nat} {x0 x1 x2 x3 x4 x5 x6 x7 y0 y1 y2 y3 y4 y5 y6 y7 : Value} (hx : Num u x0 x1 x2 x3 x4 x5 x6 x7) (hy : Num v y0 y1 y2 y3 y4 y5 y6 y7) (hu : u < 18446744073709551616) (hv : v < 18446744073709551616) (w : World) :
    Calls Yba.prog 9 #[.agg #[x0, x1, x2, x3, x4, x5, x6, x7, .bool false], .agg #[y0, y1, y2, y3, y4, y5, y6, y7, .bool true]] w fun e w' => e = .returned (.int .u64 (crossVal u v)) ∧ Below w.heap.size w w' := by
  have hc1 : cmpVal false true u v = 1 := by simp [cmpVal]
  have HC := hidden (compare_any hx hy false true hu hv)
  rw [hc1] at HC
  have HX := hidden hx
  have HY := hidden hy
  clear hc1 hx hy
  go_enter Yba.func9, Yba.ntmps9
  go_upto_region 3 with (go_at_call 21; refine (HC.out _).mono ?_; rintro e w1 ⟨rfl, hb1⟩)
  obtain ⟨hB, hsz, hk1, hk2⟩ := boxes hb1
  obtain ⟨a0, a1, a2, a3, a4, a5, a6, a7, a8⟩ := nine hk1
  obtain ⟨b0, b1, b2, b3, b4, b5, b6, b7, b8⟩ := nine hk2
  have HK1 := hidden hk1
  have HK2 := hidden hk2
  clear hb1 hk1 hk2 HC
  go_cut [24] from 9 to 24 (fun b wc => b = .bool (decide (v ≤ u)) ∧ Below w1.heap.size w1 wc)
  case first =>
    go_region_with (go_at_call 22; refine (low_num (by first | exact HX.out | exact HY.out) _ (by assumption) _).mono ?_; rintro e w2 ⟨rfl, hb2⟩; try (obtain ⟨c0, c1, c2, c3, c4, c5, c6, c7, c8⟩ := nine (back hb2 HK2.out rfl)))
    all_goals go_wp2
    all_goals
      go_meet
      case rel =>
        refine ⟨rfl, below_two (by assumption) (by assumption) ?_⟩
        exact ⟨rfl, rfl, rfl, Nat.le_refl _, fun _ _ => rfl⟩
  case rest =>
    obtain ⟨rfl, hbc⟩ := hcut
    obtain ⟨d0, d1, d2, d3, d4, d5, d6, d7, d8⟩ := nine (back hbc HK1.out rfl)
    obtain ⟨f0, f1, f2, f3, f4, f5, f6, f7, f8⟩ := nine (back hbc HK2.out rfl)
    have HK3 := hidden (back hbc HK2.out rfl)
    clear a0 a1 a2 a3 a4 a5 a6 a7 a8 b0 b1 b2 b3 b4 b5 b6 b7 b8
    by_cases hvu : v ≤ u
    · have HCV : Hid (crossVal u v = 18446744073709551615) := by unfold crossVal; exact if_pos hvu
      go_wp2
      go_ret
      exact ⟨by rw [HCV.out]; rfl, hB.trans (hbc.mono hB.size)⟩
    · have HCV : Hid (crossVal u v = (u : Int) - (v : Int) + 18446744073709551616) := by unfold crossVal; exact if_neg hvu
      have hsub : IntKind.u64.wrap ((u : Int) - (v : Int)) = (u : Int) - (v : Int) + 18446744073709551616 := by rw [IntKind.wrap_u64]; omega
      have HSUB := hidden hsub
      clear hsub
      go_wp2
      go_region_with (go_at_call 22; refine (low_num (by first | exact HX.out | exact HY.out) _ (by assumption) _).mono ?_; rintro e w2 ⟨rfl, hb2⟩; try (obtain ⟨c0, c1, c2, c3, c4, c5, c6, c7, c8⟩ := nine (back hb2 HK3.out rfl)))
      all_goals go_wp2
      all_goals go_ret
      all_goals refine ⟨?_, below_two (by assumption) (by assumption) ?_⟩
      all_goals first | (refine (show Ending.returned (.int .u64 (IntKind.u64.wrap ((u : Int) - (v : Int)))) = _ from ?_); rw [HSUB.out, HCV.out]) | exact (hB.trans (hbc.mono hB.size)).trans ⟨rfl, rfl, rfl, Nat.le_refl _, fun _ _ => rfl⟩

end Go.Proofs.Ybulkblam
