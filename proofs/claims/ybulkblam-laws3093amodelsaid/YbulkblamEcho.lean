import Derived.Test.YbulkblamMem
import Derived.Test.YbulkblamShelfA
import Derived.WalkLawsBesides
import Derived.RegionTactic
import Derived.ChangeAlike
import Derived.BigCall
import Derived.Deep.RegionWith
import Derived.Deep.RegionHeld
import Derived.OpenShut
namespace Go.Proofs.Ybulkblam
open Go.RowKit

/-- Byte j of v, the least first. -/
def byteAt (v j : Nat) : UInt8 := (Lib.leBytes 8 v).getD j 0

theorem bytes_eq (v : Nat) : Lib.leBytes 8 v = [byteAt v 0, byteAt v 1, byteAt v 2, byteAt v 3, byteAt v 4, byteAt v 5, byteAt v 6, byteAt v 7] := rfl

theorem num_eq (v : Nat) (hv : v < 18446744073709551616) : Lib.leNat [byteAt v 0, byteAt v 1, byteAt v 2, byteAt v 3, byteAt v 4, byteAt v 5, byteAt v 6, byteAt v 7] = v := by
  rw [← bytes_eq]; exact Lib.leNat_leBytes 8 v (by simpa using hv)

/-- The nine cells of an integer, of an echo. -/
def cellsOf (v : Nat) (neg : Bool) : Array Value :=
  #[.int .u8 (byteAt v 0).toNat, .int .u8 (byteAt v 1).toNat, .int .u8 (byteAt v 2).toNat, .int .u8 (byteAt v 3).toNat, .int .u8 (byteAt v 4).toNat, .int .u8 (byteAt v 5).toNat, .int .u8 (byteAt v 6).toNat, .int .u8 (byteAt v 7).toNat, .bool neg]

set_option maxHeartbeats 1000000 in
set_option maxRecDepth 100000 in
theorem low_any (v : Nat) (neg : Bool) (hv : v < 18446744073709551616) (w : World) :
    Calls Yba.prog 22 #[.agg (cellsOf v neg)] w fun e w' => e = .returned (.int .u64 v) ∧ Below w.heap.size w w' := by
  have hc : ∀ j (hj : j < 9), (w.alloc (.cells (cellsOf v neg) 25)).drew.cell? ⟨w.heap.size, 0 + j, none⟩ = some ((cellsOf v neg)[j]'hj) := fun j hj => by
    have : j = 0 ∨ j = 1 ∨ j = 2 ∨ j = 3 ∨ j = 4 ∨ j = 5 ∨ j = 6 ∨ j = 7 ∨ j = 8 := by omega
    rcases this with rfl | rfl | rfl | rfl | rfl | rfl | rfl | rfl | rfl <;> exact World.cell?_alloc_at _ _ _ _ rfl
  have hG := Yba.binary_LE_Uint64 w.heap.size 0 8 8 (byteAt v 0) (byteAt v 1) (byteAt v 2) (byteAt v 3) (byteAt v 4) (byteAt v 5) (byteAt v 6) (byteAt v 7) (w.alloc (.cells (cellsOf v neg) 25)).drew (Nat.le_refl _)
    (hc 0 (by decide)) (hc 1 (by decide)) (hc 2 (by decide)) (hc 3 (by decide)) (hc 4 (by decide)) (hc 5 (by decide)) (hc 6 (by decide)) (hc 7 (by decide))
  rw [num_eq v hv] at hG
  have HG := hidden hG
  clear hG hc
  unfold cellsOf at HG ⊢
  go_enter Yba.func22, Yba.ntmps22
  go_wp2
  go_region_with (go_at_call 34; refine HG.out.mono ?_; rintro e w2 ⟨rfl, hb⟩)
  all_goals (go_wp2; go_ret)
  all_goals exact ⟨rfl, (((Below.refl _ w).alloc (Nat.le_refl _) _).drew).trans (hb.mono (by simp))⟩

/-- PutUint64 into the bytes of an integer that lies in the newest block. -/
theorem put_new (w : World) (g : Nat) (hg : w.heap.size = g) (v : Nat) (hv : v < 18446744073709551616) (x0 x1 x2 x3 x4 x5 x6 x7 x8 : Value) :
    Calls Yba.prog 32 #[.agg #[], .slice (some ⟨g, 0, none⟩) 8 8, .int .u64 v] (w.alloc (.cells #[x0, x1, x2, x3, x4, x5, x6, x7, x8] 25)).drew fun e w' =>
      e = .returned (.tuple #[]) ∧ ((w.alloc (.cells #[.int .u8 (byteAt v 0).toNat, .int .u8 (byteAt v 1).toNat, .int .u8 (byteAt v 2).toNat, .int .u8 (byteAt v 3).toNat, .int .u8 (byteAt v 4).toNat, .int .u8 (byteAt v 5).toNat, .int .u8 (byteAt v 6).toNat, .int .u8 (byteAt v 7).toNat, x8] 25)).alloc (.cells #[] 63)).drew = w' := by
  subst hg
  have hc : ∀ j (hj : j < 9), (w.alloc (.cells #[x0, x1, x2, x3, x4, x5, x6, x7, x8] 25)).drew.cell? ⟨w.heap.size, 0 + j, none⟩ = some (#[x0, x1, x2, x3, x4, x5, x6, x7, x8][j]'hj) := fun j hj => by
    have : j = 0 ∨ j = 1 ∨ j = 2 ∨ j = 3 ∨ j = 4 ∨ j = 5 ∨ j = 6 ∨ j = 7 ∨ j = 8 := by omega
    rcases this with rfl | rfl | rfl | rfl | rfl | rfl | rfl | rfl | rfl <;> exact World.cell?_alloc_at _ _ _ _ rfl
  have hf : ∀ j, (w.alloc (.cells #[x0, x1, x2, x3, x4, x5, x6, x7, x8] 25)).drew.frozen? ⟨w.heap.size, j, none⟩ = false := fun j => World.frozen?_alloc_at _ _ _ _ rfl
  refine (Yba.binary_LE_PutUint64 w.heap.size 0 8 8 v hv x0 x1 x2 x3 x4 x5 x6 x7 _ (Nat.le_refl _) (hc 0 (by decide)) (hc 1 (by decide)) (hc 2 (by decide)) (hc 3 (by decide)) (hc 4 (by decide)) (hc 5 (by decide)) (hc 6 (by decide)) (hc 7 (by decide))
    (hf _) (hf _) (hf _) (hf _) (hf _) (hf _) (hf _) (hf _)).mono ?_
  rintro e w' ⟨rfl, rfl⟩
  refine ⟨rfl, ?_⟩
  rw [bytes_eq]
  simp only [Lib.byteCells, World.setCells, List.map_cons, List.map_nil]
  clear hc hf
  go_simp

set_option maxHeartbeats 1000000 in
set_option maxRecDepth 100000 in
theorem integerOf_any (z : Int) (h0 : 0 ≤ z) (h1 : z < 18446744073709551616) (neg : Bool) (w : World) :
    Calls Yba.prog 20 #[.int .u64 z, .bool neg] w fun e w' => e = .returned (.agg (cellsOf z.toNat neg)) ∧ Below w.heap.size w w' := by
  obtain ⟨v, rfl⟩ := Int.eq_ofNat_of_zero_le h0
  have hv : v < 18446744073709551616 := by omega
  rw [Int.toNat_natCast]
  unfold cellsOf
  clear h0 h1
  go_enter Yba.func20, Yba.ntmps20
  go_wp2
  go_region_with (go_at_call 32; refine (put_new _ _ (by simp) v hv _ _ _ _ _ _ _ _ _).mono ?_; rintro e w2 ⟨rfl, rfl⟩)
  go_wp2
  exact bodyPost_ret (v := .agg _) (by simp [results, Yba.results20, go_sem]) rfl ⟨rfl, ((((Below.refl _ w).alloc (Nat.le_refl _) _).alloc (by simp) _).alloc (by simp; omega) _).drew⟩

theorem below_set9 {B b : Nat} {a w : World} (h : Below B a w) (hb : B ≤ b) (x0 x1 x2 x3 x4 x5 x6 x7 x8 : Value) :
    Below B a (((((((((w.setCell ⟨b, 0, none⟩ x0).setCell ⟨b, 1, none⟩ x1).setCell ⟨b, 2, none⟩ x2).setCell ⟨b, 3, none⟩ x3).setCell ⟨b, 4, none⟩ x4).setCell ⟨b, 5, none⟩ x5).setCell ⟨b, 6, none⟩ x6).setCell ⟨b, 7, none⟩ x7).setCell ⟨b, 8, none⟩ x8) :=
  (((((((((h.setCell hb x0).setCell hb x1).setCell hb x2).setCell hb x3).setCell hb x4).setCell hb x5).setCell hb x6).setCell hb x7).setCell hb x8)

/-- What was there behind a callee: the cells and the marks. -/
theorem bcell {W w1 : World} (hb : Below W.heap.size W w1) : (∀ b o, b < W.heap.size → w1.cell? ⟨b, o, none⟩ = W.cell? ⟨b, o, none⟩) ∧ (∀ b o, b < W.heap.size → w1.frozen? ⟨b, o, none⟩ = W.frozen? ⟨b, o, none⟩) :=
  ⟨fun b o h => hb.cell (p := ⟨b, o, none⟩) h, fun b o h => hb.frozen (p := ⟨b, o, none⟩) h⟩

set_option maxHeartbeats 1000000 in
set_option maxRecDepth 100000 in
theorem echoOf_any (z : Int) (h0 : 0 ≤ z) (h1 : z < 18446744073709551616) (neg : Bool) (w : World) :
    Calls Yba.prog 8 #[.int .u64 z, .bool neg] w fun e w' => e = .returned (.agg (cellsOf z.toNat neg)) ∧ Below w.heap.size w w' := by
  unfold cellsOf
  go_enter Yba.func8, Yba.ntmps8
  go_wp2_with (go_at_call 20; refine (integerOf_any z h0 h1 neg _).mono ?_; unfold cellsOf; rintro e w1 ⟨rfl, hb⟩; obtain ⟨hc, hf⟩ := bcell hb)
  have hB : Below w.heap.size w w1 := ((Below.refl _ w).alloc (Nat.le_refl _) _).trans (hb.mono (by simp))
  refine bodyPost_ret (v := .agg #[.int .u8 (byteAt z.toNat 0).toNat, .int .u8 (byteAt z.toNat 1).toNat, .int .u8 (byteAt z.toNat 2).toNat, .int .u8 (byteAt z.toNat 3).toNat, .int .u8 (byteAt z.toNat 4).toNat, .int .u8 (byteAt z.toNat 5).toNat, .int .u8 (byteAt z.toNat 6).toNat, .int .u8 (byteAt z.toNat 7).toNat, .bool neg]) ?_ rfl ⟨rfl, below_set9 hB (Nat.le_refl _) _ _ _ _ _ _ _ _ _⟩
  simp [results, Yba.results8, go_sem, hc]

theorem u64_range (x : Int) : 0 ≤ IntKind.u64.wrap x ∧ IntKind.u64.wrap x < 18446744073709551616 := by
  have h : (Lit.int .u64 (IntKind.u64.wrap x)).wf = true := wf_wrap _ _
  have := bounds_u64 h
  omega

set_option maxHeartbeats 1000000 in
set_option maxRecDepth 100000 in
theorem intInteger_any (x : Int) (w : World) :
    Calls Yba.prog 24 #[.int .i64 x] w fun e w' => e = .returned (.agg (cellsOf (IntKind.u64.wrap x).toNat (decide (x < 0)))) ∧ Below w.heap.size w w' := by
  unfold cellsOf
  have hz := u64_range x
  go_enter Yba.func24, Yba.ntmps24
  go_wp2_with (go_at_call 20; refine (integerOf_any _ hz.1 hz.2 _ _).mono ?_; unfold cellsOf; rintro e w1 ⟨rfl, hb⟩; obtain ⟨hc, hf⟩ := bcell hb)
  have hB : Below w.heap.size w w1 := ((Below.refl _ w).alloc (Nat.le_refl _) _).trans (hb.mono (by simp))
  refine bodyPost_ret (v := .agg #[.int .u8 (byteAt (IntKind.u64.wrap x).toNat 0).toNat, .int .u8 (byteAt (IntKind.u64.wrap x).toNat 1).toNat, .int .u8 (byteAt (IntKind.u64.wrap x).toNat 2).toNat, .int .u8 (byteAt (IntKind.u64.wrap x).toNat 3).toNat, .int .u8 (byteAt (IntKind.u64.wrap x).toNat 4).toNat, .int .u8 (byteAt (IntKind.u64.wrap x).toNat 5).toNat, .int .u8 (byteAt (IntKind.u64.wrap x).toNat 6).toNat, .int .u8 (byteAt (IntKind.u64.wrap x).toNat 7).toNat, .bool (decide (x < 0))]) ?_ rfl ⟨rfl, below_set9 hB (Nat.le_refl _) _ _ _ _ _ _ _ _ _⟩
  simp [results, Yba.results24, go_sem, hc]

set_option maxHeartbeats 1000000 in
set_option maxRecDepth 100000 in
theorem intEcho_any (x : Int) (w : World) :
    Calls Yba.prog 11 #[.int .i64 x] w fun e w' => e = .returned (.agg (cellsOf (IntKind.u64.wrap x).toNat (decide (x < 0)))) ∧ Below w.heap.size w w' := by
  unfold cellsOf
  go_enter Yba.func11, Yba.ntmps11
  go_wp2_with (go_at_call 24; refine (intInteger_any x _).mono ?_; unfold cellsOf; rintro e w1 ⟨rfl, hb⟩; obtain ⟨hc, hf⟩ := bcell hb)
  have hB : Below w.heap.size w w1 := ((Below.refl _ w).alloc (Nat.le_refl _) _).trans (hb.mono (by simp))
  refine bodyPost_ret (v := .agg #[.int .u8 (byteAt (IntKind.u64.wrap x).toNat 0).toNat, .int .u8 (byteAt (IntKind.u64.wrap x).toNat 1).toNat, .int .u8 (byteAt (IntKind.u64.wrap x).toNat 2).toNat, .int .u8 (byteAt (IntKind.u64.wrap x).toNat 3).toNat, .int .u8 (byteAt (IntKind.u64.wrap x).toNat 4).toNat, .int .u8 (byteAt (IntKind.u64.wrap x).toNat 5).toNat, .int .u8 (byteAt (IntKind.u64.wrap x).toNat 6).toNat, .int .u8 (byteAt (IntKind.u64.wrap x).toNat 7).toNat, .bool (decide (x < 0))]) ?_ rfl ⟨rfl, below_set9 hB (Nat.le_refl _) _ _ _ _ _ _ _ _ _⟩
  simp [results, Yba.results11, go_sem, hc]

end Go.Proofs.Ybulkblam
