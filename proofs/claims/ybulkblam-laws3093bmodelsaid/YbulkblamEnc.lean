import Derived.Test.YbulkblamZenc
import Derived.Deep.RegionLaw
namespace Go.Proofs.Ybulkblam
open Go.RowKit

theorem kept_lit (w : World) (o : Obj) : w.keptBut (w.alloc o).drew (fun _ => False) :=
  have h := World.keptBut_alloc w o (fun _ => False)
  ⟨h.1, h.2.1, h.2.2⟩

theorem two_u16 (x : Int) : [IntKind.u16.wrap x / 256 % 256, IntKind.u16.wrap x % 256] = beTop x 0 2 := by
  rw [be_two, IntKind.wrap_u16]
  simp
  omega
theorem four_u32 (x : Int) : [IntKind.u32.wrap x / 16777216 % 256, IntKind.u32.wrap x / 65536 % 256, IntKind.u32.wrap x / 256 % 256, IntKind.u32.wrap x % 256] = beTop x 0 4 := by
  rw [be_four, IntKind.wrap_u32]
  simp
  omega

theorem fin16 {w w1 w2 : World} {v v1 v2 : Value} {zs : List Int} {o : Obj} {c x : Int} (hr2 : Row w2 v2 ((zs ++ [c]) ++ [IntKind.u16.wrap x / 256 % 256, IntKind.u16.wrap x % 256])) (hp1 : Put (w.alloc o).drew v w1 v1) (hp2 : Put w1 v1 w2 v2) :
    Adds v zs (c :: beTop x 0 2) w (.returned v2) w2 := by
  rw [two_u16] at hr2
  exact .done2 (ns := [c]) hr2 (Put.ahead (kept_lit w o) (hp1.trans hp2))
theorem fin32 {w w1 w2 : World} {v v1 v2 : Value} {zs : List Int} {o : Obj} {c x : Int} (hr2 : Row w2 v2 ((zs ++ [c]) ++ [IntKind.u32.wrap x / 16777216 % 256, IntKind.u32.wrap x / 65536 % 256, IntKind.u32.wrap x / 256 % 256, IntKind.u32.wrap x % 256])) (hp1 : Put (w.alloc o).drew v w1 v1) (hp2 : Put w1 v1 w2 v2) :
    Adds v zs (c :: beTop x 0 4) w (.returned v2) w2 := by
  rw [four_u32] at hr2
  exact .done2 (ns := [c]) hr2 (Put.ahead (kept_lit w o) (hp1.trans hp2))
theorem fin64 {w w1 w2 : World} {v v1 v2 : Value} {zs : List Int} {o : Obj} {c x : Int} (hr2 : Row w2 v2 ((zs ++ [c]) ++ [x / 72057594037927936 % 256, x / 281474976710656 % 256, x / 1099511627776 % 256, x / 4294967296 % 256, x / 16777216 % 256, x / 65536 % 256, x / 256 % 256, x % 256])) (hp1 : Put (w.alloc o).drew v w1 v1) (hp2 : Put w1 v1 w2 v2) :
    Adds v zs (c :: beTop x 0 8) w (.returned v2) w2 := by
  rw [← be_eight] at hr2
  exact .done2 (ns := [c]) hr2 (Put.ahead (kept_lit w o) (hp1.trans hp2))

set_option maxHeartbeats 1000000 in
set_option maxRecDepth 100000 in
theorem uint_16 {w : World} {v : Value} {zs : List Int} (hr : Row w v zs) (x : Int) (hb : zs.length + 16 ≤ 140737488355328) (h1 : ¬ x ≤ 127) (h2 : ¬ x ≤ 255) (h3 : x ≤ 65535) : Calls Yba.prog 31 #[v, .int .u64 x] w (Adds v zs (205 :: beTop x 0 2) w) := by
  go_enter Yba.func31, Yba.ntmps31
  go_wp2
  go_region_law (first
    | (refine step_row rfl (.tmp 25) (.tmp 26) 37 rfl v zs (by simp [Act.eval]) (by exact (hr.alloc _).drew) (.slice (some ⟨w.heap.size, 0, none⟩) 1 1) 1 [205] (by simp [Act.eval]) (by exact src_lit (alloc_new w _) rfl rfl) (by simp; omega) ?_; intro v1 w1 hr1 hp1)
    | (go_simp; go_at_call 35; refine (be16_any hr1 _ (by simp; omega)).mono ?_; rintro e w2 ⟨v2, rfl, hr2, hp2⟩))
  all_goals (go_wp2; go_ret; exact fin16 hr2 hp1 hp2)

set_option maxHeartbeats 1000000 in
set_option maxRecDepth 100000 in
theorem uint_32 {w : World} {v : Value} {zs : List Int} (hr : Row w v zs) (x : Int) (hb : zs.length + 16 ≤ 140737488355328) (h1 : ¬ x ≤ 127) (h2 : ¬ x ≤ 255) (h3 : ¬ x ≤ 65535) (h4 : x ≤ 4294967295) : Calls Yba.prog 31 #[v, .int .u64 x] w (Adds v zs (206 :: beTop x 0 4) w) := by
  go_enter Yba.func31, Yba.ntmps31
  go_wp2
  go_region_law (first
    | (refine step_row rfl (.tmp 35) (.tmp 36) 37 rfl v zs (by simp [Act.eval]) (by exact (hr.alloc _).drew) (.slice (some ⟨w.heap.size, 0, none⟩) 1 1) 1 [206] (by simp [Act.eval]) (by exact src_lit (alloc_new w _) rfl rfl) (by simp; omega) ?_; intro v1 w1 hr1 hp1)
    | (go_simp; go_at_call 36; refine (be32_any hr1 _ (by simp; omega)).mono ?_; rintro e w2 ⟨v2, rfl, hr2, hp2⟩))
  all_goals (go_wp2; go_ret; exact fin32 hr2 hp1 hp2)

set_option maxHeartbeats 1000000 in
set_option maxRecDepth 100000 in
theorem uint_64 {w : World} {v : Value} {zs : List Int} (hr : Row w v zs) (x : Int) (hb : zs.length + 16 ≤ 140737488355328) (h1 : ¬ x ≤ 127) (h2 : ¬ x ≤ 255) (h3 : ¬ x ≤ 65535) (h4 : ¬ x ≤ 4294967295) : Calls Yba.prog 31 #[v, .int .u64 x] w (Adds v zs (207 :: beTop x 0 8) w) := by
  go_enter Yba.func31, Yba.ntmps31
  go_wp2
  go_region_law (first
    | (refine step_row rfl (.tmp 42) (.tmp 43) 37 rfl v zs (by simp [Act.eval]) (by exact (hr.alloc _).drew) (.slice (some ⟨w.heap.size, 0, none⟩) 1 1) 1 [207] (by simp [Act.eval]) (by exact src_lit (alloc_new w _) rfl rfl) (by simp; omega) ?_; intro v1 w1 hr1 hp1)
    | (go_simp; go_at_call 38; refine (be64_any hr1 _ (by simp; omega)).mono ?_; rintro e w2 ⟨v2, rfl, hr2, hp2⟩))
  all_goals (go_wp2; go_ret; exact fin64 hr2 hp1 hp2)

set_option maxHeartbeats 1000000 in
set_option maxRecDepth 100000 in
theorem uint_any {w : World} {v : Value} {zs : List Int} (hr : Row w v zs) (x : Int) (hb : zs.length + 16 ≤ 140737488355328) : Calls Yba.prog 31 #[v, .int .u64 x] w (Adds v zs (encUint x) w) := by
  unfold encUint
  by_cases h1 : x ≤ 127
  · rw [if_pos h1]
    go_enter Yba.func31, Yba.ntmps31
    go_wp2_with (at_builtin; refine wpList_lit rfl (.tmp 8) (.tmp 11) rfl _ _ rfl hr _ 1 1 _ _ [x % 256] rfl rfl rfl rfl (by simp; omega) ?_; intro v' w1 hr1 hp1)
    go_ret
    exact .done hr1 hp1
  · rw [if_neg h1]
    by_cases h2 : x ≤ 255
    · rw [if_pos h2]
      go_enter Yba.func31, Yba.ntmps31
      go_wp2_with (at_builtin; refine wpList_lit rfl (.tmp 16) (.tmp 19) rfl _ _ rfl hr _ 2 2 _ _ [204, x % 256] rfl rfl (by simp; omega) rfl (by simp; omega) ?_; intro v' w1 hr1 hp1)
      go_ret
      exact .done hr1 hp1
    · rw [if_neg h2]
      by_cases h3 : x ≤ 65535
      · rw [if_pos h3]; exact uint_16 hr x hb h1 h2 h3
      · rw [if_neg h3]
        by_cases h4 : x ≤ 4294967295
        · rw [if_pos h4]; exact uint_32 hr x hb h1 h2 h3 h4
        · rw [if_neg h4]; exact uint_64 hr x hb h1 h2 h3 h4

end Go.Proofs.Ybulkblam
