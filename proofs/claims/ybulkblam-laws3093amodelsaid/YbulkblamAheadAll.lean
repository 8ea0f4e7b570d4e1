import Derived.Test.YbulkblamAhead3
namespace Go.Proofs.Ybulkblam
open Go.RowKit

/-- What Ahead answers. -/
def aheadVal (n m : Bool) (u v : Nat) : Int := if n = m then (if v < u then (u : Int) - (v : Int) else 0) else if n = true then 0 else crossVal u v

theorem num_cells (v : Nat) : Num v (.int .u8 (byteAt v 0).toNat) (.int .u8 (byteAt v 1).toNat) (.int .u8 (byteAt v 2).toNat) (.int .u8 (byteAt v 3).toNat) (.int .u8 (byteAt v 4).toNat) (.int .u8 (byteAt v 5).toNat) (.int .u8 (byteAt v 6).toNat) (.int .u8 (byteAt v 7).toNat) := rfl

/-- Ahead, whatever the echoes. -/
theorem ahead_any (u v : Nat) (n m : Bool) (hu : u < 18446744073709551616) (hv : v < 18446744073709551616) (w : World) :
    Calls Yba.prog 9 #[.agg (cellsOf u n), .agg (cellsOf v m)] w fun e w' => e = .returned (.int .u64 (aheadVal n m u v)) ∧ Below w.heap.size w w' := by
  unfold cellsOf
  by_cases h : n = m
  · subst h
    by_cases hlt : v < u
    · have e : aheadVal n n u v = (u : Int) - (v : Int) := by simp [aheadVal, hlt]
      rw [e]
      exact ahead_same (num_cells u) (num_cells v) n hu hv hlt w
    · have e : aheadVal n n u v = 0 := by simp [aheadVal, hlt]
      rw [e]
      exact ahead_not (num_cells u) (num_cells v) n n hu hv (by simp only [cmpVal, cmpI, if_true]; split <;> (try split) <;> omega) w
  · cases n
    · have hm : m = true := by cases m <;> simp_all
      subst hm
      have e : aheadVal false true u v = crossVal u v := by simp [aheadVal]
      rw [e]
      exact ahead_cross (num_cells u) (num_cells v) hu hv w
    · have hm : m = false := by cases m <;> simp_all
      subst hm
      have e : aheadVal true false u v = 0 := by simp [aheadVal]
      rw [e]
      exact ahead_not (num_cells u) (num_cells v) true false hu hv (by simp [cmpVal]) w

end Go.Proofs.Ybulkblam
