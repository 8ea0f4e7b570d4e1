import Derived.Test.YbulkbkxgScriptWalk
import Derived.Lib.SliceRun
namespace Go.Proofs.Ybulkbkxg
open Go.RowKit

/-! ### slices.Clone at the spans and at the pointers; slices.Equal at the pointers -/
theorem cells_of_owns {w : World} {base : Nat} {e : TypeId} {size : Nat} {g n cap : Nat} {xs : List Value} (ho : w.ownsRow base e size (.slice (some ⟨g, 0, none⟩) n cap) n xs) :
    ∀ j u, xs[j]? = some u → w.cell? ((⟨g, 0, none⟩ : Addr).add j) = some u := ho.cells (g := g) rfl

theorem flat_one (L : List (Int × Option Addr)) : ∀ u ∈ flat L, u.oneCell' = true := by
  induction L with
  | nil => simp [flat]
  | cons p r ih =>
    intro u hu
    simp only [flat, List.mem_cons] at hu
    rcases hu with rfl | rfl | hu
    · rfl
    · rfl
    · exact ih u hu

/-- The empty slice that Clone lays first. -/
theorem empty_owned (w : World) (e : TypeId) (size : Nat) : (w.alloc (.cells #[] e)).ownsRow w.heap.size e size (.slice (some ⟨w.heap.size, 0, none⟩) 0 0) 0 [] :=
  World.ownsRow_made w #[] 0 (Nat.le_refl _) (Nat.zero_le _) (by simp)

theorem cells_later {w : World} {base : Nat} {e : TypeId} {size : Nat} {g n cap : Nat} {xs : List Value} (ho : w.ownsRow base e size (.slice (some ⟨g, 0, none⟩) n cap) n xs) (o : Obj) :
    ∀ j u, xs[j]? = some u → (w.alloc o).cell? ((⟨g, 0, none⟩ : Addr).add j) = some u := cells_of_owns (ho.alloc o)

set_option maxHeartbeats 1000000 in
theorem clone_span (base : Nat) (v : Value) (n : Nat) (L : List (Int × Option Addr)) (w : World) (hown : w.ownsRow base 40 2 v n (flat L)) (hn : n ≤ 4096) :
    Calls Yba.prog 6 #[v] w fun e w' => ∃ v', e = .returned v' ∧ w'.ownsRow w.heap.size 40 2 v' n (flat L) ∧ Kept (fun _ => False) w w' := by
  have h1 := flat_one L
  obtain ⟨i, hi, hz0, hz1, hz2⟩ := info_parts Yba.info40
  have heq := fun (wx : World) (a : Option Addr) (m c : Nat) => Lib.run_eql_slice_nil (P := Yba.prog) wx 33 40 a m c 0 0 Yba.underlying33
  rcases hown.2 with ⟨rfl, rfl⟩ | ⟨g, cap, cur, rfl, hb, hgg, hnc, hcm, hcs, htk⟩
  · have hL : flat L = [] := List.eq_nil_of_length_eq_zero (by simpa using hown.1)
    rw [hL]
    clear hown hL h1
    go_enter Yba.func6, Yba.ntmps6
    go_wp2
    go_ret
    exact ⟨_, rfl, World.ownsRow_nil _ _ _ _, Kept.refl _ _⟩
  · have hcells := hidden (cells_later hown)
    have hlen := hidden hown.1
    clear hown hgg htk hcs
    generalize flat L = xs at *
    go_enter Yba.func6, Yba.ntmps6
    go_wp2_with (at_builtin; refine wpList_append_own _ rfl (.tmp 5) (.tmp 6) 33 rfl w.heap.size 40 i _ 2 16 Yba.underlying33 hi hz0 hz1 hz2 rfl (by decide) _ 0 [] rfl (empty_owned w 40 2) ⟨g, 0, none⟩ n cap xs rfl hlen.out (hcells.out _) h1 (by unfold maxLen; omega) (by omega) (by simp) ?_; intro v' w1 hown1 hgrow1 _)
    simp only [Nat.zero_add, List.nil_append] at hown1
    go_ret
    refine ⟨_, rfl, hown1, ((Kept.refl _ w).alloc _).grown hgrow1 (fun k hk e => ?_)⟩
    have e' : some w.heap.size = some k := e
    injection e' with e'
    omega

set_option maxHeartbeats 1000000 in
theorem clone_ptr (base : Nat) (v : Value) (n : Nat) (L : List (Option Addr)) (w : World) (hown : w.ownsRow base 24 1 v n (L.map Value.pointer)) (hn : n ≤ 4096) :
    Calls Yba.prog 7 #[v] w fun e w' => ∃ v', e = .returned v' ∧ w'.ownsRow w.heap.size 24 1 v' n (L.map Value.pointer) ∧ Kept (fun _ => False) w w' := by
  have h1 : ∀ u ∈ L.map Value.pointer, u.oneCell' = true := by
    intro u hu
    obtain ⟨p, _, rfl⟩ := List.mem_map.1 hu
    rfl
  obtain ⟨i, hi, hz0, hz1, hz2⟩ := info_parts Yba.info24
  have heq := fun (wx : World) (a : Option Addr) (m c : Nat) => Lib.run_eql_slice_nil (P := Yba.prog) wx 28 24 a m c 0 0 Yba.underlying28
  rcases hown.2 with ⟨rfl, rfl⟩ | ⟨g, cap, cur, rfl, hb, hgg, hnc, hcm, hcs, htk⟩
  · have hL : L.map Value.pointer = [] := List.eq_nil_of_length_eq_zero (by simpa using hown.1)
    rw [hL]
    clear hown hL h1
    go_enter Yba.func7, Yba.ntmps7
    go_wp2
    go_ret
    exact ⟨_, rfl, World.ownsRow_nil _ _ _ _, Kept.refl _ _⟩
  · have hcells := hidden (cells_later hown)
    have hlen := hidden hown.1
    clear hown hgg htk hcs
    generalize L.map Value.pointer = xs at *
    go_enter Yba.func7, Yba.ntmps7
    go_wp2_with (at_builtin; refine wpList_append_own _ rfl (.tmp 5) (.tmp 6) 28 rfl w.heap.size 24 i _ 1 8 Yba.underlying28 hi hz0 hz1 hz2 rfl (by decide) _ 0 [] rfl (empty_owned w 24 1) ⟨g, 0, none⟩ n cap xs rfl hlen.out (hcells.out _) h1 (by unfold maxLen; omega) (by omega) (by simp) ?_; intro v' w1 hown1 hgrow1 _)
    simp only [Nat.zero_add, List.nil_append] at hown1
    go_ret
    refine ⟨_, rfl, hown1, ((Kept.refl _ w).alloc _).grown hgrow1 (fun k hk e => ?_)⟩
    have e' : some w.heap.size = some k := e
    injection e' with e'
    omega

set_option maxHeartbeats 1000000 in
theorem equal_ptr (a1 a2 : Option Addr) (n c1 c2 : Nat) (w : World) (hn : n ≤ 4096)
    (hc : ∀ i, i < n → ∃ g1 g2 p, a1 = some ⟨g1, 0, none⟩ ∧ a2 = some ⟨g2, 0, none⟩ ∧ w.cell? ⟨g1, i, none⟩ = some (.pointer p) ∧ w.cell? ⟨g2, i, none⟩ = some (.pointer p)) :
    Calls Yba.prog 9 #[.slice a1 n c1, .slice a2 n c2] w fun e w' => e = .returned (.bool true) ∧ ∃ m, w' = w.drewN m := by
  have HC := hidden hc
  clear hc
  go_enter Yba.func9, Yba.ntmps9
  go_wp2
  go_loopw [5, 13] (fun _ i wr => ∃ k m : Nat, k ≤ n ∧ i = .int .i64 k ∧ wr = w.drewN m) (fun _ i _ => n - (intOf i).toNat)
  case atStart => exact ⟨0, 0, Nat.zero_le _, rfl, rfl⟩
  case round =>
    obtain ⟨k, m, hk, rfl, rfl⟩ := hrel
    by_cases hlt : k < n
    · obtain ⟨g1, g2, p, rfl, rfl, h1, h2⟩ := HC.out k hlt
      have hlt' : (k : Int) < (n : Int) := by omega
      have hne := fun wx => neq_same p wx
      clear HC
      go_wp2
      go_quiet (fail)
      go_wp2
      go_roundw
      case rel => exact ⟨k + 1, m + nq, by omega, by go_num, rfl⟩
      case measure => simp [intOf]; omega
    · go_wp2
      go_ret
      exact ⟨rfl, m, rfl⟩

theorem ptr_equalIn (d : Nat) (p : Option Addr) (w : World) : (Op.equalIn (d + 1) 24 (.pointer p) (.pointer p)).run Yba.prog w = .ok true w := by
  cases p with
  | none => exact run_equalIn_pointer_nil w d 24 none (by simp [Program.pointee, Yba.underlying24])
  | some a =>
    obtain ⟨j, hj⟩ := Yba.info31
    simp [Op.equalIn, run_underlying Yba.underlying24, sizeOf, typeInfo, hj, run_sameAddr_same]

theorem ptr_eql (p : Option Addr) (w : World) : (binOp .eql 24 (.pointer p) (.pointer p)).run Yba.prog w = .ok (.bool true) w := by
  simp only [binOp]
  simp [Op.equal, Op.maxDepth, ptr_equalIn 9999 p w]

/-- A span is like itself. -/
theorem span_equalIn (d : Nat) (s : Int) (p : Option Addr) (w : World) : (Op.equalIn (d + 1 + 1) 40 (.agg #[.int .i64 s, .pointer p]) (.agg #[.int .i64 s, .pointer p])).run Yba.prog w = .ok true w := by
  have hp := ptr_equalIn d p w
  have hi := run_equalIn_int (P := Yba.prog) w d 3 .i64 .i64 s s Yba.underlying3
  rw [run_equalIn_agg w (d + 1) 40 _ _ (by simp [Program.fieldsOf, Yba.underlying40]) (by kernel_rfl)]
  generalize d + 1 = d' at *
  have p0 : (part 3 #[.int .i64 s, .pointer p] 0).run Yba.prog w = .ok (.int .i64 s) w := by kernel_rfl
  have p1 : (part 24 #[.int .i64 s, .pointer p] 1).run Yba.prog w = .ok (.pointer p) w := by kernel_rfl
  simp [Program.fieldsOf, Yba.underlying40, Op.eqFields, p0, p1, hi, hp]

theorem span_equal (s : Int) (p : Option Addr) (w : World) : (Op.equalIn 10000 40 (.agg #[.int .i64 s, .pointer p]) (.agg #[.int .i64 s, .pointer p])).run Yba.prog w = .ok true w := span_equalIn 9998 s p w

end Go.Proofs.Ybulkbkxg
