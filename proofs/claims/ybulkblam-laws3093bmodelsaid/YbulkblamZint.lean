import Derived.Test.YbulkblamZmap
namespace Go.Proofs.Ybulkblam
open Go.RowKit

/-- What AppendInt appends. -/
def encInt (x : Int) : List Int :=
  if 0 ≤ x then encUint x else if -32 ≤ x then [x % 256] else if -128 ≤ x then [208, x % 256] else if -32768 ≤ x then 209 :: beTop x 0 2 else if -2147483648 ≤ x then 210 :: beTop x 0 4 else 211 :: beTop x 0 8
theorem encInt_len (x : Int) : (encInt x).length ≤ 9 := by
  unfold encInt
  split
  · exact encUint_len x
  · repeat' split
    all_goals simp [beTop_len]

theorem fin64w {w w1 w2 : World} {v v1 v2 : Value} {zs : List Int} {o : Obj} {c x : Int} (hr2 : Row w2 v2 ((zs ++ [c]) ++ [IntKind.u64.wrap x / 72057594037927936 % 256, IntKind.u64.wrap x / 281474976710656 % 256, IntKind.u64.wrap x / 1099511627776 % 256, IntKind.u64.wrap x / 4294967296 % 256, IntKind.u64.wrap x / 16777216 % 256, IntKind.u64.wrap x / 65536 % 256, IntKind.u64.wrap x / 256 % 256, IntKind.u64.wrap x % 256])) (hp1 : Put (w.alloc o).drew v w1 v1) (hp2 : Put w1 v1 w2 v2) :
    Adds v zs (c :: beTop x 0 8) w (.returned v2) w2 := by
  rw [← be_wrap8]
  exact fin64 hr2 hp1 hp2

set_option maxHeartbeats 1000000 in
set_option maxRecDepth 100000 in
theorem zint_16 {w : World} {v : Value} {zs : List Int} (hr : Row w v zs) (x : Int) (hb : zs.length + 16 ≤ 140737488355328) (h0 : ¬ 0 ≤ x) (h1 : ¬ -32 ≤ x) (h2 : ¬ -128 ≤ x) (h3 : -32768 ≤ x) : Calls Yba.prog 29 #[v, .int .i64 x] w (Adds v zs (209 :: beTop x 0 2) w) := by
  go_enter Yba.func29, Yba.ntmps29
  go_wp2_with (first
    | (at_builtin; refine wpList_lit rfl (.tmp 30) (.tmp 31) rfl _ _ rfl hr _ 1 1 _ _ [209] rfl rfl rfl rfl (by simp; omega) ?_; intro v' w1 hr1 hp1)
    | (go_at_call 30; refine (zbe2 hr1 _ (by simp; omega)).mono ?_; rintro e w2 ⟨v2, rfl, hr2, hp2⟩))
  go_ret
  try rw [be_wrap2] at hr2
  exact .done2 (ns := [209]) hr2 (hp1.trans hp2)

set_option maxHeartbeats 1000000 in
set_option maxRecDepth 100000 in
theorem zint_32 {w : World} {v : Value} {zs : List Int} (hr : Row w v zs) (x : Int) (hb : zs.length + 16 ≤ 140737488355328) (h0 : ¬ 0 ≤ x) (h1 : ¬ -32 ≤ x) (h2 : ¬ -128 ≤ x) (h3 : ¬ -32768 ≤ x) (h4 : -2147483648 ≤ x) : Calls Yba.prog 29 #[v, .int .i64 x] w (Adds v zs (210 :: beTop x 0 4) w) := by
  go_enter Yba.func29, Yba.ntmps29
  go_wp2_with (first
    | (at_builtin; refine wpList_lit rfl (.tmp 39) (.tmp 40) rfl _ _ rfl hr _ 1 1 _ _ [210] rfl rfl rfl rfl (by simp; omega) ?_; intro v' w1 hr1 hp1)
    | (go_at_call 30; refine (zbe4 hr1 _ (by simp; omega)).mono ?_; rintro e w2 ⟨v2, rfl, hr2, hp2⟩))
  go_ret
  try rw [be_wrap4] at hr2
  exact .done2 (ns := [210]) hr2 (hp1.trans hp2)

set_option maxHeartbeats 1000000 in
set_option maxRecDepth 100000 in
theorem zint_64 {w : World} {v : Value} {zs : List Int} (hr : Row w v zs) (x : Int) (hb : zs.length + 16 ≤ 140737488355328) (h0 : ¬ 0 ≤ x) (h1 : ¬ -32 ≤ x) (h2 : ¬ -128 ≤ x) (h3 : ¬ -32768 ≤ x) (h4 : ¬ -2147483648 ≤ x) : Calls Yba.prog 29 #[v, .int .i64 x] w (Adds v zs (211 :: beTop x 0 8) w) := by
  go_enter Yba.func29, Yba.ntmps29
  go_wp2_with (first
    | (at_builtin; refine wpList_lit rfl (.tmp 45) (.tmp 46) rfl _ _ rfl hr _ 1 1 _ _ [211] rfl rfl rfl rfl (by simp; omega) ?_; intro v' w1 hr1 hp1)
    | (go_at_call 30; refine (zbe8 hr1 _ (by simp; omega)).mono ?_; rintro e w2 ⟨v2, rfl, hr2, hp2⟩))
  go_ret
  try rw [be_wrap8] at hr2
  exact .done2 (ns := [211]) hr2 (hp1.trans hp2)

set_option maxHeartbeats 1000000 in
set_option maxRecDepth 100000 in
theorem int_16 {w : World} {v : Value} {zs : List Int} (hr : Row w v zs) (x : Int) (hb : zs.length + 16 ≤ 140737488355328) (h0 : ¬ 0 ≤ x) (h1 : ¬ -32 ≤ x) (h2 : ¬ -128 ≤ x) (h3 : -32768 ≤ x) : Calls Yba.prog 27 #[v, .int .i64 x] w (Adds v zs (209 :: beTop x 0 2) w) := by
  go_enter Yba.func27, Yba.ntmps27
  go_wp2
  go_region_law (first
    | (refine step_row rfl (.tmp 31) (.tmp 32) 37 rfl v zs (by simp [Act.eval]) (by exact (hr.alloc _).drew) (.slice (some ⟨w.heap.size, 0, none⟩) 1 1) 1 [209] (by simp [Act.eval]) (by exact src_lit (alloc_new w _) rfl rfl) (by simp; omega) ?_; intro v1 w1 hr1 hp1)
    | (go_simp; go_at_call 35; refine (be16_any hr1 _ (by simp; omega)).mono ?_; rintro e w2 ⟨v2, rfl, hr2, hp2⟩))
  all_goals (go_wp2; go_ret; exact fin16 hr2 hp1 hp2)

set_option maxHeartbeats 1000000 in
set_option maxRecDepth 100000 in
theorem int_32 {w : World} {v : Value} {zs : List Int} (hr : Row w v zs) (x : Int) (hb : zs.length + 16 ≤ 140737488355328) (h0 : ¬ 0 ≤ x) (h1 : ¬ -32 ≤ x) (h2 : ¬ -128 ≤ x) (h3 : ¬ -32768 ≤ x) (h4 : -2147483648 ≤ x) : Calls Yba.prog 27 #[v, .int .i64 x] w (Adds v zs (210 :: beTop x 0 4) w) := by
  go_enter Yba.func27, Yba.ntmps27
  go_wp2
  go_region_law (first
    | (refine step_row rfl (.tmp 41) (.tmp 42) 37 rfl v zs (by simp [Act.eval]) (by exact (hr.alloc _).drew) (.slice (some ⟨w.heap.size, 0, none⟩) 1 1) 1 [210] (by simp [Act.eval]) (by exact src_lit (alloc_new w _) rfl rfl) (by simp; omega) ?_; intro v1 w1 hr1 hp1)
    | (go_simp; go_at_call 36; refine (be32_any hr1 _ (by simp; omega)).mono ?_; rintro e w2 ⟨v2, rfl, hr2, hp2⟩))
  all_goals (go_wp2; go_ret; exact fin32 hr2 hp1 hp2)

set_option maxHeartbeats 1000000 in
set_option maxRecDepth 100000 in
theorem int_64 {w : World} {v : Value} {zs : List Int} (hr : Row w v zs) (x : Int) (hb : zs.length + 16 ≤ 140737488355328) (h0 : ¬ 0 ≤ x) (h1 : ¬ -32 ≤ x) (h2 : ¬ -128 ≤ x) (h3 : ¬ -32768 ≤ x) (h4 : ¬ -2147483648 ≤ x) : Calls Yba.prog 27 #[v, .int .i64 x] w (Adds v zs (211 :: beTop x 0 8) w) := by
  go_enter Yba.func27, Yba.ntmps27
  go_wp2
  go_region_law (first
    | (refine step_row rfl (.tmp 48) (.tmp 49) 37 rfl v zs (by simp [Act.eval]) (by exact (hr.alloc _).drew) (.slice (some ⟨w.heap.size, 0, none⟩) 1 1) 1 [211] (by simp [Act.eval]) (by exact src_lit (alloc_new w _) rfl rfl) (by simp; omega) ?_; intro v1 w1 hr1 hp1)
    | (go_simp; go_at_call 38; refine (be64_any hr1 _ (by simp; omega)).mono ?_; rintro e w2 ⟨v2, rfl, hr2, hp2⟩))
  all_goals (go_wp2; go_ret; exact fin64w hr2 hp1 hp2)

set_option maxHeartbeats 1000000 in
set_option maxRecDepth 100000 in
theorem zint_any {w : World} {v : Value} {zs : List Int} (hr : Row w v zs) (x : Int) (hb : zs.length + 16 ≤ 140737488355328) (hx : x ≤ 9223372036854775807) : Calls Yba.prog 29 #[v, .int .i64 x] w (Adds v zs (encInt x) w) := by
  unfold encInt
  by_cases h0 : 0 ≤ x
  · rw [if_pos h0]
    have hw : IntKind.u64.wrap x = x := by rw [IntKind.wrap_u64]; omega
    go_enter Yba.func29, Yba.ntmps29
    go_wp2_with (go_at_call 19; refine (zuint_any hr _ (by omega)).mono ?_; rintro e w2 ⟨v2, rfl, hr2, hp2⟩)
    go_ret
    exact .done hr2 hp2
  · rw [if_neg h0]
    by_cases h1 : -32 ≤ x
    · rw [if_pos h1]
      go_enter Yba.func29, Yba.ntmps29
      go_wp2_with (at_builtin; refine wpList_lit rfl (.tmp 14) (.tmp 17) rfl _ _ rfl hr _ 1 1 _ _ [x % 256] rfl rfl (by first | rfl | (simp; omega)) rfl (by simp; omega) ?_; intro v' w1 hr1 hp1)
      go_ret
      exact .done hr1 hp1
    · rw [if_neg h1]
      by_cases h2 : -128 ≤ x
      · rw [if_pos h2]
        go_enter Yba.func29, Yba.ntmps29
        go_wp2_with (at_builtin; refine wpList_lit rfl (.tmp 22) (.tmp 25) rfl _ _ rfl hr _ 2 2 _ _ [208, x % 256] rfl rfl (by first | rfl | (simp; omega)) rfl (by simp; omega) ?_; intro v' w1 hr1 hp1)
        go_ret
        exact .done hr1 hp1
      · rw [if_neg h2]
        by_cases h3 : -32768 ≤ x
        · rw [if_pos h3]; exact zint_16 hr x hb h0 h1 h2 h3
        · rw [if_neg h3]
          by_cases h4 : -2147483648 ≤ x
          · rw [if_pos h4]; exact zint_32 hr x hb h0 h1 h2 h3 h4
          · rw [if_neg h4]; exact zint_64 hr x hb h0 h1 h2 h3 h4

set_option maxHeartbeats 1000000 in
set_option maxRecDepth 100000 in
theorem int_any {w : World} {v : Value} {zs : List Int} (hr : Row w v zs) (x : Int) (hb : zs.length + 16 ≤ 140737488355328) (hx : x ≤ 9223372036854775807) : Calls Yba.prog 27 #[v, .int .i64 x] w (Adds v zs (encInt x) w) := by
  unfold encInt
  by_cases h0 : 0 ≤ x
  · rw [if_pos h0]
    have hw : IntKind.u64.wrap x = x := by rw [IntKind.wrap_u64]; omega
    go_enter Yba.func27, Yba.ntmps27
    go_wp2_with (go_at_call 31; refine (uint_any hr _ (by omega)).mono ?_; rintro e w2 ⟨v2, rfl, hr2, hp2⟩)
    go_ret
    exact .done hr2 hp2
  · rw [if_neg h0]
    by_cases h1 : -32 ≤ x
    · rw [if_pos h1]
      go_enter Yba.func27, Yba.ntmps27
      go_wp2_with (at_builtin; refine wpList_lit rfl (.tmp 14) (.tmp 17) rfl _ _ rfl hr _ 1 1 _ _ [x % 256] rfl rfl (by first | rfl | (simp; omega)) rfl (by simp; omega) ?_; intro v' w1 hr1 hp1)
      go_ret
      exact .done hr1 hp1
    · rw [if_neg h1]
      by_cases h2 : -128 ≤ x
      · rw [if_pos h2]
        go_enter Yba.func27, Yba.ntmps27
        go_wp2_with (at_builtin; refine wpList_lit rfl (.tmp 22) (.tmp 25) rfl _ _ rfl hr _ 2 2 _ _ [208, x % 256] rfl rfl (by first | rfl | (simp; omega)) rfl (by simp; omega) ?_; intro v' w1 hr1 hp1)
        go_ret
        exact .done hr1 hp1
      · rw [if_neg h2]
        by_cases h3 : -32768 ≤ x
        · rw [if_pos h3]; exact int_16 hr x hb h0 h1 h2 h3
        · rw [if_neg h3]
          by_cases h4 : -2147483648 ≤ x
          · rw [if_pos h4]; exact int_32 hr x hb h0 h1 h2 h3 h4
          · rw [if_neg h4]; exact int_64 hr x hb h0 h1 h2 h3 h4

end Go.Proofs.Ybulkblam
