import Derived.Test.YbulkblamNextLaw
import Derived.Shelf.Spec.BitsCarry
namespace Go.Proofs.Ybulkblam
open Go.RowKit

/-- math/bits.Sub64 at this program. -/
theorem sub64_nat (x y b : Nat) (hb : b ≤ 1) (w : World) : (callFunc 23 #[.int .u64 x, .int .u64 y, .int .u64 b]).run Yba.prog w =
    .ok (.value (.tuple #[.int .u64 (((x + 18446744073709551616 - y - b) % 18446744073709551616 : Nat) : Int), .int .u64 ((if x < y + b then 1 else 0 : Nat) : Int)])) w := by
  rw [run_callFunc_extern Yba.func23 (by kernel_rfl) (by kernel_rfl) (by kernel_rfl) (e := sub64Entry) (by kernel_rfl), run_sub64 x y b hb]
  rfl

/-- What the model answers, of the two words of the difference. -/
def modelVal (s z l : Bool) (lo : Int) : Int := if s || (z && l) then 0 else if z then lo else 18446744073709551615

/-- The upper word of a number. -/
def upper (n : Bool) : Int := if n then 18446744073709551615 else 0

set_option maxHeartbeats 1000000 in
set_option maxRecDepth 100000 in
theorem model_at (u v lo br hi b2 : Int) (n m s z l : Bool) (hs : decide (wrap64 hi < 0) = s) (hz : (hi == 0) = z) (hn : (hi != 0) = !z) (hl : (lo == 0) = l)
    (h1 : ∀ w, (callFunc 23 #[.int .u64 u, .int .u64 v, .int .u64 0]).run Yba.prog w = .ok (.value (.tuple #[.int .u64 lo, .int .u64 br])) w)
    (h2 : ∀ w, (callFunc 23 #[.int .u64 (upper n), .int .u64 (upper m), .int .u64 br]).run Yba.prog w = .ok (.value (.tuple #[.int .u64 hi, .int .u64 b2])) w) (w : World) :
    Calls Yba.prog 10 #[.int .u64 u, .bool n, .int .u64 v, .bool m] w fun e w' => e = .returned (.int .u64 (modelVal s z l lo)) ∧ w = w' := by
  cases n <;> cases m <;> cases s <;> cases z <;> cases l
  all_goals
    simp only [upper, if_true, if_false, Bool.false_eq_true, Bool.not_true, Bool.not_false] at h2 hn
    go_enter Yba.func10, Yba.ntmps10
    go_wp2_with (first | simp only [h1] | simp only [h2])
    go_ret
    exact ⟨rfl, rfl⟩
end Go.Proofs.Ybulkblam
