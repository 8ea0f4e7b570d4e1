import Derived.Test.YbulkblamZbe
namespace Go.Proofs.Ybulkblam
open Go.RowKit

/-- What AppendUint appends. -/
def encUint (x : Int) : List Int :=
  if x ≤ 127 then [x % 256] else if x ≤ 255 then [204, x % 256] else if x ≤ 65535 then 205 :: beTop x 0 2 else if x ≤ 4294967295 then 206 :: beTop x 0 4 else 207 :: beTop x 0 8
theorem encUint_len (x : Int) : (encUint x).length ≤ 9 := by
  unfold encUint
  repeat' split
  all_goals simp [beTop_len]

theorem Adds.done {w w2 : World} {v v2 : Value} {zs ns : List Int} (h : Row w2 v2 (zs ++ ns)) (p : Put w v w2 v2) : Adds v zs ns w (.returned v2) w2 := ⟨v2, rfl, h, p⟩
theorem Adds.done2 {w w2 : World} {v v2 : Value} {zs ns ks : List Int} (h : Row w2 v2 ((zs ++ ns) ++ ks)) (p : Put w v w2 v2) : Adds v zs (ns ++ ks) w (.returned v2) w2 := ⟨v2, rfl, by rw [← List.append_assoc]; exact h, p⟩

theorem zbe2 {w : World} {v : Value} {zs : List Int} (hr : Row w v zs) (x : Int) (hb : zs.length + 8 ≤ 140737488355328) : Calls Yba.prog 30 #[v, .int .u64 x, .int .i64 2] w (Adds v zs (beTop x 0 2) w) := zbe_any hr x 2 (by omega) hb
theorem zbe4 {w : World} {v : Value} {zs : List Int} (hr : Row w v zs) (x : Int) (hb : zs.length + 8 ≤ 140737488355328) : Calls Yba.prog 30 #[v, .int .u64 x, .int .i64 4] w (Adds v zs (beTop x 0 4) w) := zbe_any hr x 4 (by omega) hb
theorem zbe8 {w : World} {v : Value} {zs : List Int} (hr : Row w v zs) (x : Int) (hb : zs.length + 8 ≤ 140737488355328) : Calls Yba.prog 30 #[v, .int .u64 x, .int .i64 8] w (Adds v zs (beTop x 0 8) w) := zbe_any hr x 8 (by omega) hb

set_option maxHeartbeats 1000000 in
set_option maxRecDepth 100000 in
theorem zuint_any {w : World} {v : Value} {zs : List Int} (hr : Row w v zs) (x : Int) (hb : zs.length + 16 ≤ 140737488355328) : Calls Yba.prog 19 #[v, .int .u64 x] w (Adds v zs (encUint x) w) := by
  unfold encUint
  by_cases h1 : x ≤ 127
  · rw [if_pos h1]
    go_enter Yba.func19, Yba.ntmps19
    go_wp2_with (at_builtin; refine wpList_lit rfl (.tmp 8) (.tmp 11) rfl _ _ rfl hr _ 1 1 _ _ [x % 256] rfl rfl rfl rfl (by simp; omega) ?_; intro v' w1 hr1 hp1)
    go_ret
    exact .done hr1 hp1
  · rw [if_neg h1]
    by_cases h2 : x ≤ 255
    · rw [if_pos h2]
      go_enter Yba.func19, Yba.ntmps19
      go_wp2_with (at_builtin; refine wpList_lit rfl (.tmp 16) (.tmp 19) rfl _ _ rfl hr _ 2 2 _ _ [204, x % 256] rfl rfl (by simp; omega) rfl (by simp; omega) ?_; intro v' w1 hr1 hp1)
      go_ret
      exact .done hr1 hp1
    · rw [if_neg h2]
      by_cases h3 : x ≤ 65535
      · rw [if_pos h3]
        go_enter Yba.func19, Yba.ntmps19
        go_wp2_with (first
          | (at_builtin; refine wpList_lit rfl (.tmp 24) (.tmp 25) rfl _ _ rfl hr _ 1 1 _ _ [205] rfl rfl rfl rfl (by simp; omega) ?_; intro v' w1 hr1 hp1)
          | (go_at_call 30; refine (zbe2 hr1 x (by simp; omega)).mono ?_; rintro e w2 ⟨v2, rfl, hr2, hp2⟩))
        go_ret
        exact .done2 hr2 (hp1.trans hp2)
      · rw [if_neg h3]
        by_cases h4 : x ≤ 4294967295
        · rw [if_pos h4]
          go_enter Yba.func19, Yba.ntmps19
          go_wp2_with (first
            | (at_builtin; refine wpList_lit rfl (.tmp 32) (.tmp 33) rfl _ _ rfl hr _ 1 1 _ _ [206] rfl rfl rfl rfl (by simp; omega) ?_; intro v' w1 hr1 hp1)
            | (go_at_call 30; refine (zbe4 hr1 x (by simp; omega)).mono ?_; rintro e w2 ⟨v2, rfl, hr2, hp2⟩))
          go_ret
          exact .done2 hr2 (hp1.trans hp2)
        · rw [if_neg h4]
          go_enter Yba.func19, Yba.ntmps19
          go_wp2_with (first
            | (at_builtin; refine wpList_lit rfl (.tmp 37) (.tmp 38) rfl _ _ rfl hr _ 1 1 _ _ [207] rfl rfl rfl rfl (by simp; omega) ?_; intro v' w1 hr1 hp1)
            | (go_at_call 30; refine (zbe8 hr1 x (by simp; omega)).mono ?_; rintro e w2 ⟨v2, rfl, hr2, hp2⟩))
          go_ret
          exact .done2 hr2 (hp1.trans hp2)

end Go.Proofs.Ybulkblam
