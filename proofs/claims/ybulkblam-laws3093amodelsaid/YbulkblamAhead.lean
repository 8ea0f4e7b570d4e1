import Derived.Test.YbulkblamEcho
namespace Go.Proofs.Ybulkblam
open Go.RowKit

/-- -1, 0 or 1 as a lies below, at or above b. -/
def cmpI (a b : Int) : Int := if a < b then -1 else if b < a then 1 else 0

set_option maxHeartbeats 400000 in
theorem cmp_any (a b : Int) (w : World) : Calls Yba.prog 33 #[.int .u64 a, .int .u64 b] w fun e w' => e = .returned (.int .i64 (cmpI a b)) ∧ w = w' := by
  have ha : (a != a) = false := by simp
  have hb : (b != b) = false := by simp
  unfold cmpI
  by_cases h1 : a < b
  · rw [if_pos h1]
    go_enter Yba.func33, Yba.ntmps33
    go_wp2
    go_ret
    exact ⟨rfl, rfl⟩
  · rw [if_neg h1]
    by_cases h2 : b < a
    · rw [if_pos h2]
      go_enter Yba.func33, Yba.ntmps33
      go_wp2
      go_ret
      exact ⟨rfl, rfl⟩
    · rw [if_neg h2]
      go_enter Yba.func33, Yba.ntmps33
      go_wp2
      go_ret
      exact ⟨rfl, rfl⟩

/-- The eight bytes of v, as values. -/
def Num (v : Nat) (x0 x1 x2 x3 x4 x5 x6 x7 : Value) : Prop :=
  #[x0, x1, x2, x3, x4, x5, x6, x7] = #[.int .u8 (byteAt v 0).toNat, .int .u8 (byteAt v 1).toNat, .int .u8 (byteAt v 2).toNat, .int .u8 (byteAt v 3).toNat, .int .u8 (byteAt v 4).toNat, .int .u8 (byteAt v 5).toNat, .int .u8 (byteAt v 6).toNat, .int .u8 (byteAt v 7).toNat]

theorem low_num {v : Nat} {x0 x1 x2 x3 x4 x5 x6 x7 : Value} (h : Num v x0 x1 x2 x3 x4 x5 x6 x7) (neg : Bool) (hv : v < 18446744073709551616) (w : World) :
    Calls Yba.prog 22 #[.agg #[x0, x1, x2, x3, x4, x5, x6, x7, .bool neg]] w fun e w' => e = .returned (.int .u64 v) ∧ Below w.heap.size w w' := by
  unfold Num at h
  simp only [Array.mk.injEq, List.cons.injEq, and_true] at h
  obtain ⟨rfl, rfl, rfl, rfl, rfl, rfl, rfl, rfl⟩ := h
  exact low_any v neg hv w

theorem below_two {w W w2 w3 : World} (h2 : Below w2.heap.size w2 w3) (h1 : Below W.heap.size W w2) (h0 : Below w.heap.size w W) : Below w.heap.size w w3 :=
  (h0.trans (h1.mono h0.size)).trans (h2.mono (Nat.le_trans h0.size h1.size))

set_option maxHeartbeats 2000000 in
set_option maxRecDepth 100000 in
theorem compare_same {u v : Nat} {x0 x1 x2 x3 x4 x5 x6 x7 y0 y1 y2 y3 y4 y5 y6 y7 : Value} (hx : Num u x0 x1 x2 x3 x4 x5 x6 x7) (hy : Num v y0 y1 y2 y3 y4 y5 y6 y7) (n : Bool) (hu : u < 18446744073709551616) (hv : v < 18446744073709551616) (w : World) :
    Calls Yba.prog 21 #[.agg #[x0, x1, x2, x3, x4, x5, x6, x7, .bool n], .agg #[y0, y1, y2, y3, y4, y5, y6, y7, .bool n]] w fun e w' => e = .returned (.int .i64 (cmpI u v)) ∧ Below w.heap.size w w' := by
  have hn : (n == n) = true := by simp
  have hlt1 : w.heap.size < w.heap.size + 1 + 1 := by omega
  go_enter Yba.func21, Yba.ntmps21
  go_wp2
  go_region_with (first
    | (go_at_call 22; refine (low_num (by assumption) _ (by assumption) _).mono ?_; rintro e w2 ⟨rfl, hb2⟩; obtain ⟨hc2, _⟩ := bcell hb2)
    | (go_at_call 33; refine (cmp_any _ _ _).mono ?_; rintro e w4 ⟨rfl, rfl⟩))
  all_goals
    go_wp2
    go_ret
  all_goals refine ⟨rfl, below_two (by assumption) (by assumption) ?_⟩
  all_goals exact (((Below.refl _ w).alloc (Nat.le_refl _) _).alloc (by simp) _).drew

set_option maxHeartbeats 1000000 in
set_option maxRecDepth 100000 in
theorem compare_apart (x0 x1 x2 x3 x4 x5 x6 x7 y0 y1 y2 y3 y4 y5 y6 y7 : Value) (n : Bool) (w : World) :
    Calls Yba.prog 21 #[.agg #[x0, x1, x2, x3, x4, x5, x6, x7, .bool n], .agg #[y0, y1, y2, y3, y4, y5, y6, y7, .bool !n]] w fun e w' => e = .returned (.int .i64 (if n = true then -1 else 1)) ∧ Below w.heap.size w w' := by
  have hlt1 : w.heap.size < w.heap.size + 1 + 1 := by omega
  cases n
  all_goals
    go_enter Yba.func21, Yba.ntmps21
    go_wp2
    go_ret
    exact ⟨rfl, ((Below.refl _ w).alloc (Nat.le_refl _) _).alloc (by simp) _⟩

end Go.Proofs.Ybulkblam
