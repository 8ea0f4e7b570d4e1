/-
  'Rows.LawS3093AIntSaid' PROVED. The frame is the kit's shell for this statement (proof-skeleton.mjs); the walk is typed here.
-/
import Derived.Test.YbulkblamAheadAll
import Derived.WalkKit
import Derived.ProofKit
import Derived.OpenShut
import Derived.ShutString
namespace Go.Proofs.Ybulkblam.lawS3093AInt
open Go.ChangeShapes Go.WideShapes Go.ChangeAt Go.RowKit
open Go.ChangeMaps (open_string shut_string)
set_option linter.unusedVariables false      -- a walk need not use every 'w<i>' (that an integer argument fits its kind)

theorem own : ownKnob Yba.prog.godebug = none := by kernel_rfl

/-! ### STEP 1: THE WALK: the Go text returns true. 'Grown w w'': the world has at most new blocks (Derived/RowKit3.lean). Part the cases AHEAD of 'go_enter' where a test parts the walk; take each callee by a contract of your own. -/
/-- What the two sides come to. -/
theorem plain (x y : Int) (hx : -9223372036854775808 ≤ x ∧ x ≤ 9223372036854775807) (hy : -9223372036854775808 ≤ y ∧ y ≤ 9223372036854775807) :
    aheadVal (decide (x < 0)) (decide (y < 0)) (IntKind.u64.wrap x).toNat (IntKind.u64.wrap y).toNat = if y < x then IntKind.u64.wrap (IntKind.u64.wrap x - IntKind.u64.wrap y) else 0 := by
  simp only [IntKind.wrap_u64, aheadVal, crossVal]
  by_cases h1 : x < 0 <;> by_cases h2 : y < 0 <;> simp only [h1, h2, decide_true, decide_false, if_true, if_false, Bool.false_eq_true, Bool.true_eq_false] <;> repeat' split
  all_goals omega

theorem below_three {w w1 w2 w3 : World} (h1 : Below w.heap.size w w1) (h2 : Below w1.heap.size w1 w2) (h3 : Below w2.heap.size w2 w3) : Below w.heap.size w w3 :=
  (h1.trans (h2.mono h1.size)).trans (h3.mono (Nat.le_trans h1.size h2.size))

theorem toNat_lt (x : Int) : (IntKind.u64.wrap x).toNat < 18446744073709551616 := by have := u64_range x; omega

set_option maxHeartbeats 400000 in
set_option maxRecDepth 100000 in
theorem walk (a0 : Int) (a1 : Int) (w0 : (Lit.int .i64 a0).wf = true) (w1 : (Lit.int .i64 a1).wf = true) (w : World) :
    Calls Yba.prog 4 #[.int .i64 a0, .int .i64 a1] w fun e w' => e = .returned (.bool true) ∧ Below w.heap.size w w' := by
  have hp := hidden (plain a0 a1 (by have := bounds_i64 w0; omega) (by have := bounds_i64 w1; omega))
  have HA := hidden (ahead_any (IntKind.u64.wrap a0).toNat (IntKind.u64.wrap a1).toNat (decide (a0 < 0)) (decide (a1 < 0)) (toNat_lt a0) (toNat_lt a1))
  clear w0 w1
  generalize aheadVal (decide (a0 < 0)) (decide (a1 < 0)) (IntKind.u64.wrap a0).toNat (IntKind.u64.wrap a1).toNat = A at hp HA
  by_cases hlt : a1 < a0
  · have hA : Hid (A = IntKind.u64.wrap (IntKind.u64.wrap a0 - IntKind.u64.wrap a1)) := by have := hp.out; rw [if_pos hlt] at this; exact this
    clear hp
    go_enter Yba.func4, Yba.ntmps4
    go_wp2_with (first
      | (go_at_call 11; refine (intEcho_any _ _).mono ?_; rintro e w1 ⟨rfl, hb1⟩)
      | (go_at_call 9; refine (HA.out _).mono ?_; rintro e w3 ⟨rfl, hb3⟩))
    go_ret
    refine ⟨?_, below_three (by assumption) (by assumption) hb3⟩
    show Ending.returned (.bool (A == IntKind.u64.wrap (IntKind.u64.wrap a0 - IntKind.u64.wrap a1))) = _
    rw [beq_iff_eq.2 hA.out]
  · have hA : Hid (A = 0) := by have := hp.out; rw [if_neg hlt] at this; exact this
    clear hp
    go_enter Yba.func4, Yba.ntmps4
    go_wp2_with (first
      | (go_at_call 11; refine (intEcho_any _ _).mono ?_; rintro e w1 ⟨rfl, hb1⟩)
      | (go_at_call 9; refine (HA.out _).mono ?_; rintro e w3 ⟨rfl, hb3⟩))
    go_ret
    refine ⟨?_, below_three (by assumption) (by assumption) hb3⟩
    show Ending.returned (.bool (A == 0)) = _
    rw [beq_iff_eq.2 hA.out]

/-! ### THE ROW's STEP: WRITTEN OUT: LEAVE IT -/
set_option maxRecDepth 100000 in
theorem lifted (os : Os) (started : os.Started) (H : Type) (enc : TypeId × Value → H) :
    ReturnsInHanded {} Yba.checked os 4 .any (Rows.lawS3093AIntSpec.pre6 enc Yba.prog Yba.f4 Rows.lawS3093AIntRow.domain false) (Rows.lawS3093AIntSpec.post enc Yba.prog Yba.f4 false true false false) := by
  refine returnsInHanded_of_change (C := Yba.checked) own started (by kernel_rfl) Yba.func4
    (ChangeSpec.witness6 (enc := enc) (C := Yba.checked) false ⟨#[], #[.int .i64 0, .int .i64 0], []⟩ 8 (by kernel_rfl) (by kernel_rfl) (by kernel_rfl) (by kernel_rfl)) ?_
  intro W base args ds gs before hval0 hW hcnd _
  have hval : ∀ (j : Nat) t v, Yba.f4.params[j]? = some t → args[j]? = some v → Value.okWide Yba.prog W .any base t v := hval0
  have hW' := hW
  obtain ⟨p, q, hA0, hV, rfl, hfz, hnd⟩ := hW
  have hA : DataW.TrodAll enc Yba.prog W 0 (fun _ => true) true Yba.f4.params.toList args.toList ds p := hA0
  rw [Yba.params4] at hA hval
  obtain ⟨v0, vs0, d0, ds0, p0, q0, hargs, rfl, rfl, h0, r0⟩ := trodAll_cons hA
  obtain ⟨v1, vs1, d1, ds1, p1, q1, rfl, rfl, rfl, h1, r1⟩ := trodAll_cons r0
  obtain ⟨rfl, rfl, rfl⟩ := trodAll_nil r1
  obtain rfl : args = #[v0, v1] := by cases args; simp_all
  obtain ⟨rfl, rfl⟩ := trodVars_none hV
  obtain ⟨a0, rfl, rfl, rfl, w0⟩ := open_int Yba.underlying2 (hval 0 2 v0 rfl rfl) h0
  obtain ⟨a1, rfl, rfl, rfl, w1⟩ := open_int Yba.underlying2 (hval 1 2 v1 rfl rfl) h1
  clear hA0 hval0
  refine (walk a0 a1 w0 w1 W).mono fun e W' ⟨he, bel⟩ => ?_
  subst he
  exact ⟨_, rfl, _, _, _, [], _, [], hW', trodAll_mk1 (shut_bool Yba.underlying4 _), (trodAll_cons_mk (shut_int Yba.underlying2 w0) (trodAll_cons_mk (shut_int Yba.underlying2 w1) trodAll_mk0)), rfl, bel.frame _, fun h => by cases h⟩

theorem over : Rows.lawS3093AIntRow.holds Yba.pinned (OpenSpec.ofChange Rows.lawS3093AIntSpec) :=
  OpenClaim.holds_of_wide 4 Yba.f4 rfl rfl rfl rfl rfl rfl rfl ⟨rfl, rfl, rfl, rfl, rfl⟩ rfl rfl rfl rfl rfl (by kernel_rfl) Yba.func4 (by kernel_rfl)
    (of_decide_eq_true (by kernel_rfl)) (by unfold Func.isWrapper; first | (rw [if_pos (by decide +kernel)]; kernel_rfl) | (rw [if_neg (by decide +kernel)]; exact ⟨rfl, rfl⟩))
    (fun os started H enc _ => lifted os started H enc)

/-- ████ THE STATEMENT ████ -/
theorem proved : Rows.LawS3093AIntSaid :=
  over
end Go.Proofs.Ybulkblam.lawS3093AInt
