import Derived.Test.YbulkblamReq
namespace Go.Proofs.Ybulkblam
open Go.RowKit
set_option linter.unusedVariables false
set_option linter.unusedSimpArgs false

/-- What the law leaves. -/
def Fine (w : World) (e : Ending) (w' : World) : Prop := e = .returned (.bool true) ∧ w.keptBut w' (fun _ => False)

set_option maxHeartbeats 1000000 in
set_option maxRecDepth 100000 in
theorem long_dst (p : Option Addr) (m c : Nat) (oper : ByteArray) (a b : Int) (ao : Option Addr) (n cap : Nat) (w : World) (h : ¬ m ≤ 4096) :
    Calls Yba.prog 6 #[.slice p m c, .string oper, .int .i64 a, .int .i64 b, .slice ao n cap] w (Fine w) := by
  have i1 : (4096 : Int) < (m : Int) := by omega
  go_enter Yba.func6, Yba.ntmps6
  go_wp2
  go_ret
  exact ⟨rfl, World.keptBut_refl _ _⟩

set_option maxHeartbeats 1000000 in
set_option maxRecDepth 100000 in
theorem long_oper (p : Option Addr) (m c : Nat) (oper : ByteArray) (a b : Int) (ao : Option Addr) (n cap : Nat) (w : World) (h : m ≤ 4096) (h2 : ¬ oper.size ≤ 131072) :
    Calls Yba.prog 6 #[.slice p m c, .string oper, .int .i64 a, .int .i64 b, .slice ao n cap] w (Fine w) := by
  have i1 : ¬ (4096 : Int) < (m : Int) := by omega
  have i2 : (131072 : Int) < (oper.size : Int) := by omega
  go_enter Yba.func6, Yba.ntmps6
  go_wp2
  go_ret
  exact ⟨rfl, World.keptBut_refl _ _⟩

set_option maxHeartbeats 1000000 in
set_option maxRecDepth 100000 in
theorem long_many (p : Option Addr) (m c : Nat) (oper : ByteArray) (a b : Int) (ao : Option Addr) (n cap : Nat) (w : World) (h : m ≤ 4096) (h2 : oper.size ≤ 131072) (h3 : ¬ n ≤ 1024) :
    Calls Yba.prog 6 #[.slice p m c, .string oper, .int .i64 a, .int .i64 b, .slice ao n cap] w (Fine w) := by
  have i1 : ¬ (4096 : Int) < (m : Int) := by omega
  have i2 : ¬ (131072 : Int) < (oper.size : Int) := by omega
  have i3 : (1024 : Int) < (n : Int) := by omega
  go_enter Yba.func6, Yba.ntmps6
  go_wp2
  go_ret
  exact ⟨rfl, World.keptBut_refl _ _⟩

end Go.Proofs.Ybulkblam
