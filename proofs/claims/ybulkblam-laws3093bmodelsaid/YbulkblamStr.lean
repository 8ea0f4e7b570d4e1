import Derived.Test.YbulkblamZint
namespace Go.Proofs.Ybulkblam
open Go.RowKit
set_option linter.unusedVariables false
set_option linter.unusedSimpArgs false

/-- A string's bytes. -/
def strInts (s : ByteArray) : List Int := s.data.toList.map fun b => (b.toNat : Int)
theorem strInts_len (s : ByteArray) : (strInts s).length = s.size := by simp [strInts]
theorem cells_str (s : ByteArray) : cells8 (strInts s) = byteCells s := by simp [cells8, strInts, byteCells, List.map_map]

theorem src_str (w : World) (s : ByteArray) : Src Yba.prog 1 9 (.string s) s.size (cells8 (strInts s)) w := by
  rw [cells_str]
  exact Src.ofString w Yba.underlying9 s

/-- The head of a str. -/
def strHead (x : Int) : List Int := if x ≤ 31 then [bits .or .u8 160 x] else if x ≤ 255 then [217, x % 256] else if x ≤ 65535 then 218 :: beTop x 0 2 else 219 :: beTop x 0 4
theorem strHead_len (x : Int) : (strHead x).length ≤ 5 := by
  unfold strHead
  repeat' split
  all_goals simp [beTop_len]
/-- What AppendString appends. -/
def encStr (s : ByteArray) : List Int := strHead s.size ++ strInts s
theorem encStr_len (s : ByteArray) : (encStr s).length ≤ s.size + 5 := by
  have := strHead_len s.size
  simp [encStr, strInts_len]
  omega

set_option maxHeartbeats 1000000 in
set_option maxRecDepth 100000 in
theorem zstr_31 {w : World} {v : Value} {zs : List Int} (hr : Row w v zs) (s : ByteArray) (hb : zs.length + s.size + 32 ≤ 140737488355328) (h1 : s.size ≤ 31) : Calls Yba.prog 15 #[v, .string s] w (Adds v zs ([bits .or .u8 160 (s.size : Int)] ++ strInts s) w) := by
  go_enter Yba.func15, Yba.ntmps15
  go_wp2_with (first
    | (at_builtin; refine wpList_lit rfl (.tmp 17) (.tmp 21) rfl v zs rfl hr _ 1 1 _ _ [bits .or .u8 160 (s.size : Int)] rfl rfl (by first | rfl | (simp; omega)) rfl (by simp; omega) ?_; intro v' w1 hr1 hp1)
    | (at_builtin; refine wpList_row rfl (.tmp 40) (.tmp 41) 9 rfl _ _ rfl hr1 (.string s) s.size (strInts s) rfl (src_str _ s) (by simp [strInts_len, beTop_len]; omega) ?_; intro v3 w3 hr3 hp3))
  go_ret
  exact .done2 hr3 (hp1.trans hp3)

set_option maxHeartbeats 1000000 in
set_option maxRecDepth 100000 in
theorem zstr_8 {w : World} {v : Value} {zs : List Int} (hr : Row w v zs) (s : ByteArray) (hb : zs.length + s.size + 32 ≤ 140737488355328) (h1 : ¬ s.size ≤ 31) (h2 : s.size ≤ 255) : Calls Yba.prog 15 #[v, .string s] w (Adds v zs ([217, (s.size : Int) % 256] ++ strInts s) w) := by
  go_enter Yba.func15, Yba.ntmps15
  go_wp2_with (first
    | (at_builtin; refine wpList_lit rfl (.tmp 26) (.tmp 29) rfl v zs rfl hr _ 2 2 _ _ [217, (s.size : Int) % 256] rfl rfl (by first | rfl | (simp; omega)) rfl (by simp; omega) ?_; intro v' w1 hr1 hp1)
    | (at_builtin; refine wpList_row rfl (.tmp 40) (.tmp 41) 9 rfl _ _ rfl hr1 (.string s) s.size (strInts s) rfl (src_str _ s) (by simp [strInts_len, beTop_len]; omega) ?_; intro v3 w3 hr3 hp3))
  go_ret
  exact .done2 hr3 (hp1.trans hp3)

set_option maxHeartbeats 1000000 in
set_option maxRecDepth 100000 in
theorem zstr_16 {w : World} {v : Value} {zs : List Int} (hr : Row w v zs) (s : ByteArray) (hb : zs.length + s.size + 32 ≤ 140737488355328) (h1 : ¬ s.size ≤ 31) (h2 : ¬ s.size ≤ 255) (h3 : s.size ≤ 65535) : Calls Yba.prog 15 #[v, .string s] w (Adds v zs ((218 :: beTop (s.size : Int) 0 2) ++ strInts s) w) := by
  go_enter Yba.func15, Yba.ntmps15
  go_wp2_with (first
    | (at_builtin; refine wpList_lit rfl (.tmp 34) (.tmp 35) rfl v zs rfl hr _ 1 1 _ _ [218] rfl rfl (by first | rfl | (simp; omega)) rfl (by simp; omega) ?_; intro v' w1 hr1 hp1)
    | (go_at_call 30; refine (zbe2 hr1 _ (by simp; omega)).mono ?_; rintro e w2 ⟨v2, rfl, hr2, hp2⟩; try rw [be_wrap2] at hr2)
    | (at_builtin; refine wpList_row rfl (.tmp 40) (.tmp 41) 9 rfl _ _ rfl hr2 (.string s) s.size (strInts s) rfl (src_str _ s) (by simp [strInts_len, beTop_len]; omega) ?_; intro v3 w3 hr3 hp3))
  go_ret
  exact .done2 (ns := 218 :: beTop (s.size : Int) 0 2) (by simpa [List.append_assoc] using hr3) ((hp1.trans hp2).trans hp3)

set_option maxHeartbeats 1000000 in
set_option maxRecDepth 100000 in
theorem zstr_32 {w : World} {v : Value} {zs : List Int} (hr : Row w v zs) (s : ByteArray) (hb : zs.length + s.size + 32 ≤ 140737488355328) (h1 : ¬ s.size ≤ 31) (h2 : ¬ s.size ≤ 255) (h3 : ¬ s.size ≤ 65535) : Calls Yba.prog 15 #[v, .string s] w (Adds v zs ((219 :: beTop (s.size : Int) 0 4) ++ strInts s) w) := by
  go_enter Yba.func15, Yba.ntmps15
  go_wp2_with (first
    | (at_builtin; refine wpList_lit rfl (.tmp 8) (.tmp 9) rfl v zs rfl hr _ 1 1 _ _ [219] rfl rfl (by first | rfl | (simp; omega)) rfl (by simp; omega) ?_; intro v' w1 hr1 hp1)
    | (go_at_call 30; refine (zbe4 hr1 _ (by simp; omega)).mono ?_; rintro e w2 ⟨v2, rfl, hr2, hp2⟩; try rw [be_wrap4] at hr2)
    | (at_builtin; refine wpList_row rfl (.tmp 40) (.tmp 41) 9 rfl _ _ rfl hr2 (.string s) s.size (strInts s) rfl (src_str _ s) (by simp [strInts_len, beTop_len]; omega) ?_; intro v3 w3 hr3 hp3))
  go_ret
  exact .done2 (ns := 219 :: beTop (s.size : Int) 0 4) (by simpa [List.append_assoc] using hr3) ((hp1.trans hp2).trans hp3)

theorem zstr_any {w : World} {v : Value} {zs : List Int} (hr : Row w v zs) (s : ByteArray) (hb : zs.length + s.size + 32 ≤ 140737488355328) : Calls Yba.prog 15 #[v, .string s] w (Adds v zs (encStr s) w) := by
  unfold encStr strHead
  by_cases h1 : s.size ≤ 31
  · rw [if_pos (by omega)]; exact zstr_31 hr s hb h1
  · rw [if_neg (by omega)]
    by_cases h2 : s.size ≤ 255
    · rw [if_pos (by omega)]; exact zstr_8 hr s hb h1 h2
    · rw [if_neg (by omega)]
      by_cases h3 : s.size ≤ 65535
      · rw [if_pos (by omega)]; exact zstr_16 hr s hb h1 h2 h3
      · rw [if_neg (by omega)]; exact zstr_32 hr s hb h1 h2 h3

end Go.Proofs.Ybulkblam
