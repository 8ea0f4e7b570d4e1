import Derived.Test.YbulkblamBe
namespace Go.Proofs.Ybulkblam
open Go.RowKit

/-- m bytes of x, the highest first, the last one byte k. -/
def beTop (x : Int) (k : Nat) : Nat → List Int
  | 0 => []
  | m + 1 => beTop x (k + 1) m ++ [x / 256 ^ k % 256]

theorem beTop_len (x : Int) (k m : Nat) : (beTop x k m).length = m := by
  induction m generalizing k with
  | zero => rfl
  | succ m ih => simp [beTop, ih]

theorem be_two (x : Int) : beTop x 0 2 = [x / 256 % 256, x % 256] := by simp [beTop]
theorem be_four (x : Int) : beTop x 0 4 = [x / 16777216 % 256, x / 65536 % 256, x / 256 % 256, x % 256] := by simp [beTop]
theorem be_eight (x : Int) : beTop x 0 8 = [x / 72057594037927936 % 256, x / 281474976710656 % 256, x / 1099511627776 % 256, x / 4294967296 % 256, x / 16777216 % 256, x / 65536 % 256, x / 256 % 256, x % 256] := by simp [beTop]

set_option maxHeartbeats 2000000 in
set_option maxRecDepth 100000 in
theorem zbe_any {w : World} {v : Value} {zs : List Int} (hr : Row w v zs) (x : Int) (n : Nat) (hn : n ≤ 8) (hb : zs.length + 8 ≤ 140737488355328) : Calls Yba.prog 30 #[v, .int .u64 x, .int .i64 (n : Int)] w (Adds v zs (beTop x 0 n) w) := by
  have hp : Put w v w v := by obtain ⟨ao, b, off, cap, rfl, _⟩ := hr; exact Put.refl _ _ _ _
  have H := hidden (And.intro hr hp)
  have hw : wrap64 ((n : Int) - 1) = (n : Int) - 1 := by unfold wrap64; omega
  clear hr hp
  go_enter Yba.func30, Yba.ntmps30
  go_wp2
  go_loopw [0, 7] (fun d i wr => ∃ k m : Nat, k + m = n ∧ i = .int .i64 ((k : Int) - 1) ∧ Row wr d (zs ++ beTop x k m) ∧ Put w v wr d)
    (fun _ i _ => (intOf i + 1).toNat)
  case atStart => exact ⟨n, 0, rfl, rfl, by simpa [beTop] using H.out.1, H.out.2⟩
  case round =>
    obtain ⟨k, m, hk, rfl, hr, hp⟩ := hrel
    have hlen := beTop_len x k m
    rcases (by omega : k = 0 ∨ k = 1 ∨ k = 2 ∨ k = 3 ∨ k = 4 ∨ k = 5 ∨ k = 6 ∨ k = 7 ∨ k = 8) with rfl | rfl | rfl | rfl | rfl | rfl | rfl | rfl | rfl
    · have e : m = n := by omega
      subst e
      go_wp2
      go_ret
      exact ⟨_, rfl, hr, hp⟩
    · go_wp2_with (at_builtin; refine wpList_lit rfl (.tmp 14) (.tmp 21) rfl _ _ rfl hr _ 1 1 _ _ [x % 256] rfl rfl rfl rfl (by simp; omega) ?_; intro v' w1 hr1 hp1)
      go_roundw
      case rel => exact ⟨0, m + 1, by omega, by go_num, by simpa [beTop] using hr1, hp.trans hp1⟩
      case measure => simp [intOf]
    · go_wp2_with (at_builtin; refine wpList_lit rfl (.tmp 14) (.tmp 21) rfl _ _ rfl hr _ 1 1 _ _ [x / 256 % 256] rfl rfl rfl rfl (by simp; omega) ?_; intro v' w1 hr1 hp1)
      go_roundw
      case rel => exact ⟨1, m + 1, by omega, by go_num, by simpa [beTop] using hr1, hp.trans hp1⟩
      case measure => simp [intOf]
    · go_wp2_with (at_builtin; refine wpList_lit rfl (.tmp 14) (.tmp 21) rfl _ _ rfl hr _ 1 1 _ _ [x / 65536 % 256] rfl rfl rfl rfl (by simp; omega) ?_; intro v' w1 hr1 hp1)
      go_roundw
      case rel => exact ⟨2, m + 1, by omega, by go_num, by simpa [beTop] using hr1, hp.trans hp1⟩
      case measure => simp [intOf]
    · go_wp2_with (at_builtin; refine wpList_lit rfl (.tmp 14) (.tmp 21) rfl _ _ rfl hr _ 1 1 _ _ [x / 16777216 % 256] rfl rfl rfl rfl (by simp; omega) ?_; intro v' w1 hr1 hp1)
      go_roundw
      case rel => exact ⟨3, m + 1, by omega, by go_num, by simpa [beTop] using hr1, hp.trans hp1⟩
      case measure => simp [intOf]
    · go_wp2_with (at_builtin; refine wpList_lit rfl (.tmp 14) (.tmp 21) rfl _ _ rfl hr _ 1 1 _ _ [x / 4294967296 % 256] rfl rfl rfl rfl (by simp; omega) ?_; intro v' w1 hr1 hp1)
      go_roundw
      case rel => exact ⟨4, m + 1, by omega, by go_num, by simpa [beTop] using hr1, hp.trans hp1⟩
      case measure => simp [intOf]
    · go_wp2_with (at_builtin; refine wpList_lit rfl (.tmp 14) (.tmp 21) rfl _ _ rfl hr _ 1 1 _ _ [x / 1099511627776 % 256] rfl rfl rfl rfl (by simp; omega) ?_; intro v' w1 hr1 hp1)
      go_roundw
      case rel => exact ⟨5, m + 1, by omega, by go_num, by simpa [beTop] using hr1, hp.trans hp1⟩
      case measure => simp [intOf]
    · go_wp2_with (at_builtin; refine wpList_lit rfl (.tmp 14) (.tmp 21) rfl _ _ rfl hr _ 1 1 _ _ [x / 281474976710656 % 256] rfl rfl rfl rfl (by simp; omega) ?_; intro v' w1 hr1 hp1)
      go_roundw
      case rel => exact ⟨6, m + 1, by omega, by go_num, by simpa [beTop] using hr1, hp.trans hp1⟩
      case measure => simp [intOf]
    · go_wp2_with (at_builtin; refine wpList_lit rfl (.tmp 14) (.tmp 21) rfl _ _ rfl hr _ 1 1 _ _ [x / 72057594037927936 % 256] rfl rfl rfl rfl (by simp; omega) ?_; intro v' w1 hr1 hp1)
      go_roundw
      case rel => exact ⟨7, m + 1, by omega, by go_num, by simpa [beTop] using hr1, hp.trans hp1⟩
      case measure => simp [intOf]
end Go.Proofs.Ybulkblam
