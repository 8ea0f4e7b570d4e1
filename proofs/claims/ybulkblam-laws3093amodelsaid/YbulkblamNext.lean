import Derived.Test.YbulkblamAheadAll
namespace Go.Proofs.Ybulkblam
open Go.RowKit

/-- Two callees behind what was laid. -/
theorem below_step {w W w2 w3 : World} (h2 : Below w2.heap.size w2 w3) (h1 : Below W.heap.size W w2) (h0 : Below w.heap.size w W) : Below w.heap.size w w3 :=
  below_two h2 h1 h0

set_option maxHeartbeats 2000000 in
set_option maxRecDepth 100000 in
theorem next_more {u : Nat} {x0 x1 x2 x3 x4 x5 x6 x7 : Value} (hx : Num u x0 x1 x2 x3 x4 x5 x6 x7) (n : Bool) (hu : u < 18446744073709551615) (w : World) :
    Calls Yba.prog 12 #[.agg #[x0, x1, x2, x3, x4, x5, x6, x7, .bool n]] w fun e w' => e = .returned (.tuple #[.agg (cellsOf (u + 1) n), .bool true]) ∧ Below w.heap.size w w' := by
  have hlt1 : w.heap.size < w.heap.size + 1 + 1 := by omega
  have hne : (((u : Nat) : Int) != 18446744073709551615) = true := by simp; omega
  have hw : IntKind.u64.wrap ((u : Int) + 1) = (u : Int) + 1 := by rw [IntKind.wrap_u64]; omega
  have HL := hidden (low_num hx n (by omega))
  have HE := hidden (echoOf_any ((u : Int) + 1) (by omega) (by omega) n)
  rw [show ((u : Int) + 1).toNat = u + 1 from by omega] at HE
  unfold cellsOf at HE ⊢
  clear hu hx
  go_enter Yba.func12, Yba.ntmps12
  go_wp2_with (first
    | (go_at_call 22; refine (HL.out _).mono ?_; rintro e w2 ⟨rfl, hb2⟩; obtain ⟨hc2, hf2⟩ := bcell hb2)
    | (go_at_call 8; refine (HE.out _).mono ?_; rintro e w3 ⟨rfl, hb3⟩; clear hc2 hf2; obtain ⟨hc3, hf3⟩ := bcell (hb2.trans (hb3.mono hb2.size))))
  have hB : Below w.heap.size w w3 := (((Below.refl _ w).alloc (Nat.le_refl _) _).alloc (by simp) _).trans ((hb2.trans (hb3.mono hb2.size)).mono (by simp; omega))
  refine bodyPost_ret (v := .tuple #[.agg #[.int .u8 (byteAt (u + 1) 0).toNat, .int .u8 (byteAt (u + 1) 1).toNat, .int .u8 (byteAt (u + 1) 2).toNat, .int .u8 (byteAt (u + 1) 3).toNat, .int .u8 (byteAt (u + 1) 4).toNat, .int .u8 (byteAt (u + 1) 5).toNat, .int .u8 (byteAt (u + 1) 6).toNat, .int .u8 (byteAt (u + 1) 7).toNat, .bool n], .bool true]) ?_ rfl ⟨rfl, below_set9 hB (by omega) _ _ _ _ _ _ _ _ _⟩
  simp [results, Yba.results12, go_sem, hc3]

theorem cells_zero : cellsOf 0 false = #[.int .u8 0, .int .u8 0, .int .u8 0, .int .u8 0, .int .u8 0, .int .u8 0, .int .u8 0, .int .u8 0, .bool false] := by kernel_rfl

set_option maxHeartbeats 2000000 in
set_option maxRecDepth 100000 in
theorem next_turn {u : Nat} {x0 x1 x2 x3 x4 x5 x6 x7 : Value} (hx : Num u x0 x1 x2 x3 x4 x5 x6 x7) (hu : u = 18446744073709551615) (w : World) :
    Calls Yba.prog 12 #[.agg #[x0, x1, x2, x3, x4, x5, x6, x7, .bool true]] w fun e w' => e = .returned (.tuple #[.agg (cellsOf 0 false), .bool true]) ∧ Below w.heap.size w w' := by
  have hlt1 : w.heap.size < w.heap.size + 1 + 1 := by omega
  have hne : (((u : Nat) : Int) != 18446744073709551615) = false := by simp; omega
  have HL := hidden (low_num hx true (by omega))
  rw [cells_zero]
  clear hu hx
  go_enter Yba.func12, Yba.ntmps12
  go_wp2_with (first
    | (go_at_call 22; refine (HL.out _).mono ?_; rintro e w2 ⟨rfl, hb2⟩; obtain ⟨hc2, hf2⟩ := bcell hb2))
  have hB : Below w.heap.size w w2 := (((Below.refl _ w).alloc (Nat.le_refl _) _).alloc (by simp) _).trans (hb2.mono (by simp; omega))
  refine bodyPost_ret (v := .tuple #[.agg #[.int .u8 0, .int .u8 0, .int .u8 0, .int .u8 0, .int .u8 0, .int .u8 0, .int .u8 0, .int .u8 0, .bool false], .bool true]) ?_ rfl ⟨rfl, below_set9 hB (by omega) _ _ _ _ _ _ _ _ _⟩
  simp [results, Yba.results12, go_sem, hc2]

set_option maxHeartbeats 2000000 in
set_option maxRecDepth 100000 in
theorem next_end {u : Nat} (hu : u = 18446744073709551615) (w : World) :
    Calls Yba.prog 12 #[.agg (cellsOf u false)] w fun e w' => e = .returned (.tuple #[.agg (cellsOf u false), .bool false]) ∧ Below w.heap.size w w' := by
  have hlt1 : w.heap.size < w.heap.size + 1 + 1 := by omega
  have hne : (((u : Nat) : Int) != 18446744073709551615) = false := by simp; omega
  have HL := hidden (low_any u false (by omega))
  unfold cellsOf at HL ⊢
  clear hu
  go_enter Yba.func12, Yba.ntmps12
  go_wp2_with (first
    | (go_at_call 22; refine (HL.out _).mono ?_; rintro e w2 ⟨rfl, hb2⟩; obtain ⟨hc2, hf2⟩ := bcell hb2))
  have hB : Below w.heap.size w w2 := (((Below.refl _ w).alloc (Nat.le_refl _) _).alloc (by simp) _).trans (hb2.mono (by simp; omega))
  refine bodyPost_ret (v := .tuple #[.agg #[.int .u8 (byteAt u 0).toNat, .int .u8 (byteAt u 1).toNat, .int .u8 (byteAt u 2).toNat, .int .u8 (byteAt u 3).toNat, .int .u8 (byteAt u 4).toNat, .int .u8 (byteAt u 5).toNat, .int .u8 (byteAt u 6).toNat, .int .u8 (byteAt u 7).toNat, .bool false], .bool false]) ?_ rfl ⟨rfl, below_set9 hB (by omega) _ _ _ _ _ _ _ _ _⟩
  simp [results, Yba.results12, go_sem, hc2]

end Go.Proofs.Ybulkblam
