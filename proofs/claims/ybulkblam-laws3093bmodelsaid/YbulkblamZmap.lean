import Derived.Test.YbulkblamEnc
namespace Go.Proofs.Ybulkblam
open Go.RowKit

theorem be_wrap2 (x : Int) : beTop (IntKind.u64.wrap x) 0 2 = beTop x 0 2 := by
  rw [be_two, be_two, IntKind.wrap_u64]
  simp
  omega
theorem be_wrap4 (x : Int) : beTop (IntKind.u64.wrap x) 0 4 = beTop x 0 4 := by
  rw [be_four, be_four, IntKind.wrap_u64]
  simp
  omega
theorem be_wrap8 (x : Int) : beTop (IntKind.u64.wrap x) 0 8 = beTop x 0 8 := by
  rw [be_eight, be_eight, IntKind.wrap_u64]
  simp
  omega

/-- What AppendMapHeader appends. -/
def encMap (x : Int) : List Int := if x ≤ 15 then [128 + x] else if x ≤ 65535 then 222 :: beTop x 0 2 else 223 :: beTop x 0 4

set_option maxHeartbeats 1000000 in
set_option maxRecDepth 100000 in
theorem zmap_16 {w : World} {v : Value} {zs : List Int} (hr : Row w v zs) (x : Int) (hb : zs.length + 16 ≤ 140737488355328) (h1 : ¬ x ≤ 15) (h2 : x ≤ 65535) : Calls Yba.prog 28 #[v, .int .i64 x] w (Adds v zs (222 :: beTop x 0 2) w) := by
  go_enter Yba.func28, Yba.ntmps28
  go_wp2_with (first
    | (at_builtin; refine wpList_lit rfl (.tmp 17) (.tmp 18) rfl _ _ rfl hr _ 1 1 _ _ [222] rfl rfl rfl rfl (by simp; omega) ?_; intro v' w1 hr1 hp1)
    | (go_at_call 30; refine (zbe2 hr1 _ (by simp; omega)).mono ?_; rintro e w2 ⟨v2, rfl, hr2, hp2⟩))
  go_ret
  try rw [be_wrap2] at hr2
  exact .done2 (ns := [222]) hr2 (hp1.trans hp2)

set_option maxHeartbeats 1000000 in
set_option maxRecDepth 100000 in
theorem zmap_32 {w : World} {v : Value} {zs : List Int} (hr : Row w v zs) (x : Int) (hb : zs.length + 16 ≤ 140737488355328) (h1 : ¬ x ≤ 15) (h2 : ¬ x ≤ 65535) : Calls Yba.prog 28 #[v, .int .i64 x] w (Adds v zs (223 :: beTop x 0 4) w) := by
  go_enter Yba.func28, Yba.ntmps28
  go_wp2_with (first
    | (at_builtin; refine wpList_lit rfl (.tmp 23) (.tmp 24) rfl _ _ rfl hr _ 1 1 _ _ [223] rfl rfl rfl rfl (by simp; omega) ?_; intro v' w1 hr1 hp1)
    | (go_at_call 30; refine (zbe4 hr1 _ (by simp; omega)).mono ?_; rintro e w2 ⟨v2, rfl, hr2, hp2⟩))
  go_ret
  try rw [be_wrap4] at hr2
  exact .done2 (ns := [223]) hr2 (hp1.trans hp2)

set_option maxHeartbeats 1000000 in
set_option maxRecDepth 100000 in
theorem zmap_any {w : World} {v : Value} {zs : List Int} (hr : Row w v zs) (x : Int) (hb : zs.length + 16 ≤ 140737488355328) (h0 : 0 ≤ x) : Calls Yba.prog 28 #[v, .int .i64 x] w (Adds v zs (encMap x) w) := by
  unfold encMap
  by_cases h1 : x ≤ 15
  · rw [if_pos h1]
    go_enter Yba.func28, Yba.ntmps28
    go_wp2_with (at_builtin; refine wpList_lit rfl (.tmp 8) (.tmp 12) rfl _ _ rfl hr _ 1 1 _ _ [128 + x] rfl rfl rfl rfl (by simp; omega) ?_; intro v' w1 hr1 hp1)
    go_ret
    exact .done hr1 hp1
  · rw [if_neg h1]
    by_cases h2 : x ≤ 65535
    · rw [if_pos h2]; exact zmap_16 hr x hb h1 h2
    · rw [if_neg h2]; exact zmap_32 hr x hb h1 h2

set_option maxHeartbeats 1000000 in
set_option maxRecDepth 100000 in
theorem map_16 {w : World} {v : Value} {zs : List Int} (hr : Row w v zs) (x : Int) (hb : zs.length + 16 ≤ 140737488355328) (h1 : ¬ x ≤ 15) (h2 : x ≤ 65535) : Calls Yba.prog 25 #[v, .int .i64 x] w (Adds v zs (222 :: beTop x 0 2) w) := by
  go_enter Yba.func25, Yba.ntmps25
  go_wp2
  go_region_law (first
    | (refine step_row rfl (.tmp 18) (.tmp 19) 37 rfl v zs (by simp [Act.eval]) (by exact (hr.alloc _).drew) (.slice (some ⟨w.heap.size, 0, none⟩) 1 1) 1 [222] (by simp [Act.eval]) (by exact src_lit (alloc_new w _) rfl rfl) (by simp; omega) ?_; intro v1 w1 hr1 hp1)
    | (go_simp; go_at_call 35; refine (be16_any hr1 _ (by simp; omega)).mono ?_; rintro e w2 ⟨v2, rfl, hr2, hp2⟩))
  all_goals (go_wp2; go_ret; exact fin16 hr2 hp1 hp2)

set_option maxHeartbeats 1000000 in
set_option maxRecDepth 100000 in
theorem map_32 {w : World} {v : Value} {zs : List Int} (hr : Row w v zs) (x : Int) (hb : zs.length + 16 ≤ 140737488355328) (h1 : ¬ x ≤ 15) (h2 : ¬ x ≤ 65535) : Calls Yba.prog 25 #[v, .int .i64 x] w (Adds v zs (223 :: beTop x 0 4) w) := by
  go_enter Yba.func25, Yba.ntmps25
  go_wp2
  go_region_law (first
    | (refine step_row rfl (.tmp 25) (.tmp 26) 37 rfl v zs (by simp [Act.eval]) (by exact (hr.alloc _).drew) (.slice (some ⟨w.heap.size, 0, none⟩) 1 1) 1 [223] (by simp [Act.eval]) (by exact src_lit (alloc_new w _) rfl rfl) (by simp; omega) ?_; intro v1 w1 hr1 hp1)
    | (go_simp; go_at_call 36; refine (be32_any hr1 _ (by simp; omega)).mono ?_; rintro e w2 ⟨v2, rfl, hr2, hp2⟩))
  all_goals (go_wp2; go_ret; exact fin32 hr2 hp1 hp2)

set_option maxHeartbeats 1000000 in
set_option maxRecDepth 100000 in
theorem map_any {w : World} {v : Value} {zs : List Int} (hr : Row w v zs) (x : Int) (hb : zs.length + 16 ≤ 140737488355328) (h0 : 0 ≤ x) : Calls Yba.prog 25 #[v, .int .i64 x] w (Adds v zs (encMap x) w) := by
  unfold encMap
  by_cases h1 : x ≤ 15
  · rw [if_pos h1]
    go_enter Yba.func25, Yba.ntmps25
    go_wp2_with (at_builtin; refine wpList_lit rfl (.tmp 8) (.tmp 12) rfl _ _ rfl hr _ 1 1 _ _ [128 + x] rfl rfl rfl rfl (by simp; omega) ?_; intro v' w1 hr1 hp1)
    go_ret
    exact .done hr1 hp1
  · rw [if_neg h1]
    by_cases h2 : x ≤ 65535
    · rw [if_pos h2]; exact map_16 hr x hb h1 h2
    · rw [if_neg h2]; exact map_32 hr x hb h1 h2

end Go.Proofs.Ybulkblam
