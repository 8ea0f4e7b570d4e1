import Derived.Test.YbulkblamStr
namespace Go.Proofs.Ybulkblam
open Go.RowKit
set_option linter.unusedVariables false
set_option linter.unusedSimpArgs false

set_option maxHeartbeats 1000000 in
set_option maxRecDepth 100000 in
theorem len_16 {w : World} {v : Value} {zs : List Int} (hr : Row w v zs) (x : Int) (hb : zs.length + 16 ≤ 140737488355328) (h2 : ¬ x ≤ 255) (h3 : x ≤ 65535) : Calls Yba.prog 37 #[v, .int .u8 217, .int .i64 x] w (Adds v zs (218 :: beTop x 0 2) w) := by
  go_enter Yba.func37, Yba.ntmps37
  go_wp2
  go_region_law (first
    | (refine step_row rfl (.tmp 20) (.tmp 23) 37 rfl v zs (by simp [Act.eval]) (by exact (hr.alloc _).drew) (.slice (some ⟨w.heap.size, 0, none⟩) 1 1) 1 [218] (by simp [Act.eval]) (by exact src_lit (alloc_new w _) rfl rfl) (by simp; omega) ?_; intro v1 w1 hr1 hp1)
    | (go_simp; go_at_call 35; refine (be16_any hr1 _ (by simp; omega)).mono ?_; rintro e w2 ⟨v2, rfl, hr2, hp2⟩))
  all_goals (go_wp2; go_ret; exact fin16 hr2 hp1 hp2)

set_option maxHeartbeats 1000000 in
set_option maxRecDepth 100000 in
theorem len_32 {w : World} {v : Value} {zs : List Int} (hr : Row w v zs) (x : Int) (hb : zs.length + 16 ≤ 140737488355328) (h2 : ¬ x ≤ 255) (h3 : ¬ x ≤ 65535) : Calls Yba.prog 37 #[v, .int .u8 217, .int .i64 x] w (Adds v zs (219 :: beTop x 0 4) w) := by
  go_enter Yba.func37, Yba.ntmps37
  go_wp2
  go_region_law (first
    | (refine step_row rfl (.tmp 29) (.tmp 32) 37 rfl v zs (by simp [Act.eval]) (by exact (hr.alloc _).drew) (.slice (some ⟨w.heap.size, 0, none⟩) 1 1) 1 [219] (by simp [Act.eval]) (by exact src_lit (alloc_new w _) rfl rfl) (by simp; omega) ?_; intro v1 w1 hr1 hp1)
    | (go_simp; go_at_call 36; refine (be32_any hr1 _ (by simp; omega)).mono ?_; rintro e w2 ⟨v2, rfl, hr2, hp2⟩))
  all_goals (go_wp2; go_ret; exact fin32 hr2 hp1 hp2)

set_option maxHeartbeats 1000000 in
set_option maxRecDepth 100000 in
theorem len_any {w : World} {v : Value} {zs : List Int} (hr : Row w v zs) (x : Int) (hb : zs.length + 16 ≤ 140737488355328) (h1 : ¬ x ≤ 31) : Calls Yba.prog 37 #[v, .int .u8 217, .int .i64 x] w (Adds v zs (strHead x) w) := by
  unfold strHead
  rw [if_neg h1]
  by_cases h2 : x ≤ 255
  · rw [if_pos h2]
    go_enter Yba.func37, Yba.ntmps37
    go_wp2_with (at_builtin; refine wpList_lit rfl (.tmp 10) (.tmp 14) rfl _ _ rfl hr _ 2 2 _ _ [217, x % 256] rfl rfl (by first | rfl | (simp; omega)) rfl (by simp; omega) ?_; intro v' w1 hr1 hp1)
    go_ret
    exact .done hr1 hp1
  · rw [if_neg h2]
    by_cases h3 : x ≤ 65535
    · rw [if_pos h3]; exact len_16 hr x hb h2 h3
    · rw [if_neg h3]; exact len_32 hr x hb h2 h3

set_option maxHeartbeats 1000000 in
set_option maxRecDepth 100000 in
theorem str_31 {w : World} {v : Value} {zs : List Int} (hr : Row w v zs) (s : ByteArray) (hb : zs.length + s.size + 32 ≤ 140737488355328) (h1 : s.size ≤ 31) : Calls Yba.prog 26 #[v, .string s] w (Adds v zs ([bits .or .u8 160 (s.size : Int)] ++ strInts s) w) := by
  go_enter Yba.func26, Yba.ntmps26
  go_wp2_with (first
    | (at_builtin; refine wpList_lit rfl (.tmp 10) (.tmp 14) rfl v zs rfl hr _ 1 1 _ _ [bits .or .u8 160 (s.size : Int)] rfl rfl (by first | rfl | (simp; omega)) rfl (by simp; omega) ?_; intro v' w1 hr1 hp1)
    | (at_builtin; refine wpList_row rfl (.tmp 19) (.tmp 20) 9 rfl _ _ rfl hr1 (.string s) s.size (strInts s) rfl (src_str _ s) (by simp [strInts_len, beTop_len]; omega) ?_; intro v3 w3 hr3 hp3))
  go_ret
  exact .done2 hr3 (hp1.trans hp3)

set_option maxHeartbeats 1000000 in
set_option maxRecDepth 100000 in
theorem str_more {w : World} {v : Value} {zs : List Int} (hr : Row w v zs) (s : ByteArray) (hb : zs.length + s.size + 32 ≤ 140737488355328) (h1 : ¬ s.size ≤ 31) : Calls Yba.prog 26 #[v, .string s] w (Adds v zs (strHead s.size ++ strInts s) w) := by
  have hl := strHead_len s.size
  have hz : ¬ (s.size : Int) ≤ 31 := by omega
  go_enter Yba.func26, Yba.ntmps26
  go_wp2_with (first
    | (go_at_call 37; refine (len_any hr _ (by omega) hz).mono ?_; rintro e w1 ⟨v1, rfl, hr1, hp1⟩)
    | (at_builtin; refine wpList_row rfl (.tmp 19) (.tmp 20) 9 rfl _ _ rfl hr1 (.string s) s.size (strInts s) rfl (src_str _ s) (by simp [strInts_len]; omega) ?_; intro v3 w3 hr3 hp3))
  go_ret
  exact .done2 hr3 (hp1.trans hp3)

theorem str_any {w : World} {v : Value} {zs : List Int} (hr : Row w v zs) (s : ByteArray) (hb : zs.length + s.size + 32 ≤ 140737488355328) : Calls Yba.prog 26 #[v, .string s] w (Adds v zs (encStr s) w) := by
  by_cases h1 : s.size ≤ 31
  · unfold encStr strHead
    rw [if_pos (by omega)]; exact str_31 hr s hb h1
  · exact str_more hr s hb h1

end Go.Proofs.Ybulkblam
