import Derived.Test.YbulkblamNext
namespace Go.Proofs.Ybulkblam
open Go.RowKit

set_option maxHeartbeats 1000000 in
set_option maxRecDepth 100000 in
theorem law_on (Ok : Array Value → Prop) (f : Array Value → Array Value → Int) (a : Int) (p0 p1 p2 p3 p4 p5 p6 p7 q0 q1 q2 q3 q4 q5 q6 q7 : Int) (n m : Bool) (w : World)
    (hP : Ok #[.int .u8 p0, .int .u8 p1, .int .u8 p2, .int .u8 p3, .int .u8 p4, .int .u8 p5, .int .u8 p6, .int .u8 p7, .bool n]) (hQ : Ok #[.int .u8 q0, .int .u8 q1, .int .u8 q2, .int .u8 q3, .int .u8 q4, .int .u8 q5, .int .u8 q6, .int .u8 q7, .bool m]) (h0 : f #[.int .u8 p0, .int .u8 p1, .int .u8 p2, .int .u8 p3, .int .u8 p4, .int .u8 p5, .int .u8 p6, .int .u8 p7, .bool n] #[.int .u8 p0, .int .u8 p1, .int .u8 p2, .int .u8 p3, .int .u8 p4, .int .u8 p5, .int .u8 p6, .int .u8 p7, .bool n] = 0) (h1 : f #[.int .u8 q0, .int .u8 q1, .int .u8 q2, .int .u8 q3, .int .u8 q4, .int .u8 q5, .int .u8 q6, .int .u8 q7, .bool m] #[.int .u8 p0, .int .u8 p1, .int .u8 p2, .int .u8 p3, .int .u8 p4, .int .u8 p5, .int .u8 p6, .int .u8 p7, .bool n] = 1) (h2 : f #[.int .u8 p0, .int .u8 p1, .int .u8 p2, .int .u8 p3, .int .u8 p4, .int .u8 p5, .int .u8 p6, .int .u8 p7, .bool n] #[.int .u8 q0, .int .u8 q1, .int .u8 q2, .int .u8 q3, .int .u8 q4, .int .u8 q5, .int .u8 q6, .int .u8 q7, .bool m] = 0)
    (HE : Hid (∀ w, Calls Yba.prog 8 #[.int .u64 a, .bool n] w fun e w' => e = .returned (.agg #[.int .u8 p0, .int .u8 p1, .int .u8 p2, .int .u8 p3, .int .u8 p4, .int .u8 p5, .int .u8 p6, .int .u8 p7, .bool n]) ∧ Below w.heap.size w w'))
    (HN : Hid (∀ w, Calls Yba.prog 12 #[.agg #[.int .u8 p0, .int .u8 p1, .int .u8 p2, .int .u8 p3, .int .u8 p4, .int .u8 p5, .int .u8 p6, .int .u8 p7, .bool n]] w fun e w' => e = .returned (.tuple #[.agg #[.int .u8 q0, .int .u8 q1, .int .u8 q2, .int .u8 q3, .int .u8 q4, .int .u8 q5, .int .u8 q6, .int .u8 q7, .bool m], .bool true]) ∧ Below w.heap.size w w'))
    (HA : Hid (∀ c d w, Ok c → Ok d → Calls Yba.prog 9 #[.agg c, .agg d] w fun e w' => e = .returned (.int .u64 (f c d)) ∧ Below w.heap.size w w')) :
    Calls Yba.prog 5 #[.int .u64 a, .bool n] w fun e w' => e = .returned (.bool true) ∧ Below w.heap.size w w' := by
  go_enter Yba.func5, Yba.ntmps5
  go_wp2_with (first
    | (go_at_call 8; refine (HE.out _).mono ?_; rintro e w1 ⟨rfl, hb1⟩)
    | (go_at_call 9; refine (HA.out _ _ _ (by assumption) (by assumption)).mono ?_; simp only [h0, h1, h2]; rintro e w2 ⟨rfl, hb2⟩; obtain ⟨hc2, hf2⟩ := bcell hb2)
    | (go_at_call 12; refine (HN.out _).mono ?_; rintro e w3 ⟨rfl, hb3⟩; clear hc2 hf2; have hb23 := hb2.trans (hb3.mono hb2.size); obtain ⟨hc3, hf3⟩ := bcell hb23
       have hs3 : w1.heap.size < w3.heap.size := (by have := hb23.size; simp at this; omega)
       have hs4 : w1.heap.size < w3.heap.size + 1 := by omega))
  go_ret
  refine ⟨rfl, ?_⟩
  have b3 : Below w.heap.size w w3 := (hb1.trans ((Below.refl _ w1).alloc hb1.size _)).trans (hb23.mono (by have := hb1.size; simp; omega))
  exact below_two (by assumption) (by assumption) (b3.trans ((Below.refl _ w3).alloc b3.size _))

set_option maxHeartbeats 1000000 in
set_option maxRecDepth 100000 in
theorem law_end (a : Int) (p0 p1 p2 p3 p4 p5 p6 p7 : Int) (w : World) (ha : (a == 18446744073709551615) = true)
    (HE : Hid (∀ w, Calls Yba.prog 8 #[.int .u64 a, .bool false] w fun e w' => e = .returned (.agg #[.int .u8 p0, .int .u8 p1, .int .u8 p2, .int .u8 p3, .int .u8 p4, .int .u8 p5, .int .u8 p6, .int .u8 p7, .bool false]) ∧ Below w.heap.size w w'))
    (HN : Hid (∀ w, Calls Yba.prog 12 #[.agg #[.int .u8 p0, .int .u8 p1, .int .u8 p2, .int .u8 p3, .int .u8 p4, .int .u8 p5, .int .u8 p6, .int .u8 p7, .bool false]] w fun e w' => e = .returned (.tuple #[.agg #[.int .u8 p0, .int .u8 p1, .int .u8 p2, .int .u8 p3, .int .u8 p4, .int .u8 p5, .int .u8 p6, .int .u8 p7, .bool false], .bool false]) ∧ Below w.heap.size w w'))
    (HA : Hid (∀ w, Calls Yba.prog 9 #[.agg #[.int .u8 p0, .int .u8 p1, .int .u8 p2, .int .u8 p3, .int .u8 p4, .int .u8 p5, .int .u8 p6, .int .u8 p7, .bool false], .agg #[.int .u8 p0, .int .u8 p1, .int .u8 p2, .int .u8 p3, .int .u8 p4, .int .u8 p5, .int .u8 p6, .int .u8 p7, .bool false]] w fun e w' => e = .returned (.int .u64 0) ∧ Below w.heap.size w w')) :
    Calls Yba.prog 5 #[.int .u64 a, .bool false] w fun e w' => e = .returned (.bool true) ∧ Below w.heap.size w w' := by
  go_enter Yba.func5, Yba.ntmps5
  go_wp2_with (first
    | (go_at_call 8; refine (HE.out _).mono ?_; rintro e w1 ⟨rfl, hb1⟩)
    | (go_at_call 9; refine (HA.out _).mono ?_; rintro e w2 ⟨rfl, hb2⟩; obtain ⟨hc2, hf2⟩ := bcell hb2)
    | (go_at_call 12; refine (HN.out _).mono ?_; rintro e w3 ⟨rfl, hb3⟩))
  go_ret
  refine ⟨rfl, ?_⟩
  have b3 : Below w.heap.size w w3 := below_two hb3 hb2 (hb1.trans ((Below.refl _ w1).alloc hb1.size _))
  exact b3.trans ((Below.refl _ w3).alloc b3.size _)

/-- An echo's number, her sign. -/
def numOf (c : Array Value) : Nat := Lib.leNat ((c.toList.take 8).map fun v => match v with | .int _ z => UInt8.ofNat z.toNat | _ => 0)
def negOf (c : Array Value) : Bool := match c.toList.drop 8 with | [.bool b] => b | _ => false

theorem numOf_cells (u : Nat) (n : Bool) (hu : u < 18446744073709551616) : numOf (cellsOf u n) = u := by
  have e : numOf (cellsOf u n) = Lib.leNat [byteAt u 0, byteAt u 1, byteAt u 2, byteAt u 3, byteAt u 4, byteAt u 5, byteAt u 6, byteAt u 7] := by
    simp [numOf, cellsOf]
  rw [e, num_eq u hu]
theorem negOf_cells (u : Nat) (n : Bool) : negOf (cellsOf u n) = n := rfl

def IsEcho (c : Array Value) : Prop := ∃ u n, c = cellsOf u n ∧ u < 18446744073709551616
def aheadOf (c d : Array Value) : Int := aheadVal (negOf c) (negOf d) (numOf c) (numOf d)

theorem ahead_echo (c d : Array Value) (w : World) (hc : IsEcho c) (hd : IsEcho d) :
    Calls Yba.prog 9 #[.agg c, .agg d] w fun e w' => e = .returned (.int .u64 (aheadOf c d)) ∧ Below w.heap.size w w' := by
  obtain ⟨u, n, rfl, hu⟩ := hc
  obtain ⟨v, m, rfl, hv⟩ := hd
  have e : aheadOf (cellsOf u n) (cellsOf v m) = aheadVal n m u v := by simp only [aheadOf, numOf_cells _ _ hu, numOf_cells _ _ hv, negOf_cells]
  rw [e]
  exact ahead_any u v n m hu hv w

theorem law_step (u v : Nat) (n m : Bool) (hu : u < 18446744073709551616) (hv : v < 18446744073709551616) (w : World)
    (h0 : aheadVal n n u u = 0) (h1 : aheadVal m n v u = 1) (h2 : aheadVal n m u v = 0)
    (HN : ∀ w, Calls Yba.prog 12 #[.agg (cellsOf u n)] w fun e w' => e = .returned (.tuple #[.agg (cellsOf v m), .bool true]) ∧ Below w.heap.size w w') :
    Calls Yba.prog 5 #[.int .u64 (u : Int), .bool n] w fun e w' => e = .returned (.bool true) ∧ Below w.heap.size w w' := by
  refine law_on IsEcho aheadOf (u : Int) (byteAt u 0).toNat (byteAt u 1).toNat (byteAt u 2).toNat (byteAt u 3).toNat (byteAt u 4).toNat (byteAt u 5).toNat (byteAt u 6).toNat (byteAt u 7).toNat
    (byteAt v 0).toNat (byteAt v 1).toNat (byteAt v 2).toNat (byteAt v 3).toNat (byteAt v 4).toNat (byteAt v 5).toNat (byteAt v 6).toNat (byteAt v 7).toNat n m w
    ⟨u, n, rfl, hu⟩ ⟨v, m, rfl, hv⟩ ?_ ?_ ?_ (hidden ?_) (hidden HN) (hidden ahead_echo)
  · exact (by simp only [aheadOf, numOf_cells _ _ hu, negOf_cells, h0] : aheadOf (cellsOf u n) (cellsOf u n) = 0)
  · exact (by simp only [aheadOf, numOf_cells _ _ hu, numOf_cells _ _ hv, negOf_cells, h1] : aheadOf (cellsOf v m) (cellsOf u n) = 1)
  · exact (by simp only [aheadOf, numOf_cells _ _ hu, numOf_cells _ _ hv, negOf_cells, h2] : aheadOf (cellsOf u n) (cellsOf v m) = 0)
  · intro w'
    exact echoOf_any (u : Int) (by omega) (by omega) n w'

theorem law_any (u : Nat) (n : Bool) (hu : u < 18446744073709551616) (w : World) :
    Calls Yba.prog 5 #[.int .u64 (u : Int), .bool n] w fun e w' => e = .returned (.bool true) ∧ Below w.heap.size w w' := by
  by_cases h : u < 18446744073709551615
  · exact law_step u (u + 1) n n hu (by omega) w (by simp [aheadVal]) (by simp [aheadVal]; omega) (by simp [aheadVal]; omega) (fun w => next_more (num_cells u) n h w)
  · have e : u = 18446744073709551615 := by omega
    cases n
    · refine law_end (u : Int) (byteAt u 0).toNat (byteAt u 1).toNat (byteAt u 2).toNat (byteAt u 3).toNat (byteAt u 4).toNat (byteAt u 5).toNat (byteAt u 6).toNat (byteAt u 7).toNat w (by rw [e]; rfl)
        (hidden ?_) (hidden ?_) (hidden ?_)
      · exact fun w' => echoOf_any (u : Int) (by omega) (by omega) false w'
      · exact fun w' => next_end e w'
      · intro w'
        have := ahead_any u u false false hu hu w'
        rw [show aheadVal false false u u = 0 from by simp [aheadVal]] at this
        exact this
    · refine law_step u 0 true false hu (by omega) w (by simp [aheadVal]) ?_ (by simp [aheadVal]) (fun w => next_turn (num_cells u) e w)
      rw [e]; simp [aheadVal, crossVal]
end Go.Proofs.Ybulkblam
