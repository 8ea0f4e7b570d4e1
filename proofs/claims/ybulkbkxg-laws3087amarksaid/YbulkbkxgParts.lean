import Derived.Test.YbulkbkxgRows
import Derived.WalkKit
import Derived.WalkSpells
import Derived.WalkLawsBesides
import Derived.RegionTactic
import Derived.ChangeAlike
import Derived.Deep.QuietTactic
import Derived.BigQuiet
namespace Go.Proofs.Ybulkbkxg
open Go.RowKit

/-- The address of class number i of the pool that begins at block C; nil below 0. -/
def ownA (C : Nat) (i : Int) : Option Addr := if i < 0 then none else some ⟨C + i.toNat, 0, none⟩

theorem ownA_neg (C : Nat) : ownA C (-1) = none := rfl

/-- The pool: its four cells. -/
def Pool (P C : Nat) (w : World) : Prop := ∀ i : Nat, i < 4 → w.cell? ⟨P, i, none⟩ = some (.pointer (some ⟨C + i, 0, none⟩))

set_option maxHeartbeats 400000 in
theorem idx_any (o : Int) (h0 : 0 ≤ o) (h1 : o ≤ 255) (w : World) :
    Calls Yba.prog 10 #[.int .u8 o] w fun e w' => e = .returned (.int .i64 (o % 5 - 1)) ∧ w = w' := by
  go_enter Yba.func10, Yba.ntmps10
  go_wp2
  go_ret
  exact ⟨rfl, rfl⟩

set_option maxHeartbeats 400000 in
theorem pick_any (P C : Nat) (o : Int) (h0 : 0 ≤ o) (h1 : o ≤ 255) (w : World) (hp : Pool P C w) :
    Calls Yba.prog 5 #[.slice (some ⟨P, 0, none⟩) 4 4, .int .u8 o] w fun e w' => e = .returned (.pointer (ownA C (o % 5 - 1))) ∧ w = w' := by
  by_cases h5 : o % 5 = 0
  · have hb : (o % 5 == 0) = true := by simpa using h5
    have ha : ownA C (o % 5 - 1) = none := by rw [h5]; rfl
    have HA := ha
    rw [ha]
    clear h5 ha
    go_enter Yba.func5, Yba.ntmps5
    go_wp2
    go_ret
    exact ⟨rfl, rfl⟩
  · have hb : (o % 5 == 0) = false := by simpa using h5
    have hc : w.cell? ⟨P, (o % 5).toNat - 1, none⟩ = some (.pointer (ownA C (o % 5 - 1))) := by
      rw [hp _ (by omega), ownA, if_neg (by omega), show (o % 5 - 1).toNat = (o % 5).toNat - 1 from by omega]
    have h2 : 1 ≤ o % 5 := by omega
    have h3 : o % 5 - 1 < 4 := by omega
    clear h5 hp
    generalize ownA C (o % 5 - 1) = A at hc ⊢
    go_enter Yba.func5, Yba.ntmps5
    go_wp2
    go_ret
    exact ⟨rfl, rfl⟩

end Go.Proofs.Ybulkbkxg
