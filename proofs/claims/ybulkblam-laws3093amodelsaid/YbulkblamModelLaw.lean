import Derived.Test.YbulkblamModelB
namespace Go.Proofs.Ybulkblam
open Go.RowKit

theorem lt_alloc {W w1 : World} {o : Obj} (h : Below (W.alloc o).heap.size (W.alloc o) w1) : W.heap.size < w1.heap.size := by
  have := h.size
  simp at this
  omega

theorem two_boxes {w w1 w2 : World} {o1 : Obj} (o2 : Obj) (h1 : Below w.heap.size w w1) (h2 : Below (w1.alloc o1).heap.size (w1.alloc o1) w2) : Below w.heap.size w (w2.alloc o2) :=
  have a1 := h1.trans ((Below.refl _ w1).alloc h1.size o1)
  have a2 := a1.trans (h2.mono a1.size)
  a2.trans ((Below.refl _ w2).alloc a2.size o2)

/-- A number that fits. -/
def Is64 (z : Int) (u : Nat) : Prop := z = (u : Int) ∧ u < 18446744073709551616

theorem echo_64 (z : Int) (u : Nat) (h : Is64 z u) (n : Bool) (w : World) : Calls Yba.prog 8 #[.int .u64 z, .bool n] w fun e w' => e = .returned (.agg (cellsOf u n)) ∧ Below w.heap.size w w' := by
  obtain ⟨rfl, h⟩ := h
  exact echoOf_any (u : Int) (by omega) (by omega) n w

set_option maxHeartbeats 1000000 in
set_option maxRecDepth 100000 in
theorem law_model (u v : Nat) (n m : Bool) (hu : u < 18446744073709551616) (hv : v < 18446744073709551616) (w : World) :
    Calls Yba.prog 3 #[.int .u64 (u : Int), .bool n, .int .u64 (v : Int), .bool m] w fun e w' => e = .returned (.bool true) ∧ Below w.heap.size w w' := by
  have hu1 : Is64 (u : Int) u := ⟨rfl, hu⟩
  have hv1 : Is64 (v : Int) v := ⟨rfl, hv⟩
  have HA := hidden (ahead_any u v n m hu hv)
  have HM := hidden (model_any u v n m hu hv)
  clear hu hv
  generalize aheadVal n m u v = A at HA HM
  have hA : (A == A) = true := by simp
  unfold cellsOf at HA
  go_enter Yba.func3, Yba.ntmps3
  go_wp2_with (first
    | (go_at_call 8; refine (echo_64 _ _ (by assumption) _ _).mono ?_; unfold cellsOf; rintro e w1 ⟨rfl, hb1⟩; obtain ⟨hc1, hf1⟩ := bcell hb1; try have hs1 := lt_alloc hb1)
    | (go_at_call 9; refine (HA.out _).mono ?_; rintro e w3 ⟨rfl, hb3⟩)
    | (go_at_call 10; refine (HM.out _).mono ?_; rintro e w4 ⟨rfl, rfl⟩))
  go_ret
  refine ⟨rfl, ?_⟩
  have h0 := two_boxes (.cells #[.int .u8 (byteAt v 0).toNat, .int .u8 (byteAt v 1).toNat, .int .u8 (byteAt v 2).toNat, .int .u8 (byteAt v 3).toNat, .int .u8 (byteAt v 4).toNat, .int .u8 (byteAt v 5).toNat, .int .u8 (byteAt v 6).toNat, .int .u8 (byteAt v 7).toNat, .bool m] 27) (by assumption) hb1
  exact h0.trans (hb3.mono h0.size)
end Go.Proofs.Ybulkblam
