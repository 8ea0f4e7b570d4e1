import Derived.Test.YbulkblamModelA
namespace Go.Proofs.Ybulkblam
open Go.RowKit

theorem model_case (u v lo br hi b2 U V : Nat) (n m : Bool) (r : Int) (hU : upper n = (U : Int)) (hV : upper m = (V : Int)) (hlo : lo = (u + 18446744073709551616 - v - 0) % 18446744073709551616) (hbr : br = if u < v + 0 then 1 else 0) (hbr1 : br ≤ 1)
    (hhi : hi = (U + 18446744073709551616 - V - br) % 18446744073709551616) (hb2 : b2 = if U < V + br then 1 else 0)
    (hr : modelVal (decide (wrap64 (hi : Int) < 0)) ((hi : Int) == 0) ((lo : Int) == 0) (lo : Int) = r) (w : World) :
    Calls Yba.prog 10 #[.int .u64 (u : Int), .bool n, .int .u64 (v : Int), .bool m] w fun e w' => e = .returned (.int .u64 r) ∧ w = w' := by
  rw [← hr]
  refine model_at (u : Int) (v : Int) (lo : Int) (br : Int) (hi : Int) (b2 : Int) n m _ _ _ rfl rfl rfl rfl ?_ ?_ w
  · intro w'
    have := sub64_nat u v 0 (by omega) w'
    rw [← hlo, ← hbr] at this
    exact this
  · intro w'
    rw [hU, hV]
    have := sub64_nat U V br hbr1 w'
    rw [← hhi, ← hb2] at this
    exact this

theorem model_any (u v : Nat) (n m : Bool) (hu : u < 18446744073709551616) (hv : v < 18446744073709551616) (w : World) :
    Calls Yba.prog 10 #[.int .u64 (u : Int), .bool n, .int .u64 (v : Int), .bool m] w fun e w' => e = .returned (.int .u64 (aheadVal n m u v)) ∧ w = w' := by
  by_cases lt : u < v
  · have hlo : u + 18446744073709551616 - v = (u + 18446744073709551616 - v - 0) % 18446744073709551616 := by omega
    have hl0 : (((u + 18446744073709551616 - v : Nat) : Int) == 0) = false := by simp; omega
    cases n <;> cases m
    · refine model_case u v (u + 18446744073709551616 - v) 1 18446744073709551615 1 0 0 false false _ rfl rfl hlo (by rw [if_pos (by omega)]) (by omega) rfl rfl ?_ w
      rw [hl0]; simp [modelVal, wrap64, aheadVal]; omega
    · refine model_case u v (u + 18446744073709551616 - v) 1 0 1 0 18446744073709551615 false true _ rfl rfl hlo (by rw [if_pos (by omega)]) (by omega) rfl rfl ?_ w
      rw [hl0]; simp [modelVal, wrap64, aheadVal, crossVal]; omega
    · refine model_case u v (u + 18446744073709551616 - v) 1 18446744073709551614 0 18446744073709551615 0 true false _ rfl rfl hlo (by rw [if_pos (by omega)]) (by omega) rfl rfl ?_ w
      rw [hl0]; simp [modelVal, wrap64, aheadVal]
    · refine model_case u v (u + 18446744073709551616 - v) 1 18446744073709551615 1 18446744073709551615 18446744073709551615 true true _ rfl rfl hlo (by rw [if_pos (by omega)]) (by omega) rfl rfl ?_ w
      rw [hl0]; simp [modelVal, wrap64, aheadVal]; omega
  · have hlo : u - v = (u + 18446744073709551616 - v - 0) % 18446744073709551616 := by omega
    have hl0 : (((u - v : Nat) : Int) == 0) = decide (u = v) := by
      by_cases e : u = v
      · simp [e]
      · simp [e]; omega
    cases n <;> cases m
    · refine model_case u v (u - v) 0 0 0 0 0 false false _ rfl rfl hlo (by rw [if_neg (by omega)]) (by omega) rfl rfl ?_ w
      rw [hl0]; by_cases e : u = v <;> simp [modelVal, wrap64, aheadVal, e] <;> omega
    · refine model_case u v (u - v) 0 1 1 0 18446744073709551615 false true _ rfl rfl hlo (by rw [if_neg (by omega)]) (by omega) rfl rfl ?_ w
      rw [hl0]; simp [modelVal, wrap64, aheadVal, crossVal]; omega
    · refine model_case u v (u - v) 0 18446744073709551615 0 18446744073709551615 0 true false _ rfl rfl hlo (by rw [if_neg (by omega)]) (by omega) rfl rfl ?_ w
      rw [hl0]; simp [modelVal, wrap64, aheadVal]
    · refine model_case u v (u - v) 0 0 0 18446744073709551615 18446744073709551615 true true _ rfl rfl hlo (by rw [if_neg (by omega)]) (by omega) rfl rfl ?_ w
      rw [hl0]; by_cases e : u = v <;> simp [modelVal, wrap64, aheadVal, e] <;> omega

end Go.Proofs.Ybulkblam
