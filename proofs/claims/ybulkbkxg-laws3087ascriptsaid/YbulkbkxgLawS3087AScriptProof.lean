/-
  'Rows.LawS3087AScriptSaid' PROVED. The frame after the guide's own (proof-skeleton.mjs, a law over slices: 'Below.trod'); the slice of structs opened by 'open_slice_pairs', each step's selectors by 'open_ints'.
-/
import Derived.Test.YbulkbkxgScriptWalk
import Derived.ProofKit
import Derived.OpenShut
import Derived.ShutString
import Derived.ChangeOld
import Derived.Deep.SlicePairs
namespace Go.Proofs.Ybulkbkxg.lawS3087AScript
open Go.ChangeShapes Go.WideShapes Go.ChangeAt Go.RowKit Go.Deep

theorem own : ownKnob Yba.prog.godebug = none := by kernel_rfl
theorem laidOut : laidOutB Yba.prog = true := by kernel_rfl

set_option maxHeartbeats 400000 in
theorem script_long (ao : Option Addr) (n cap : Nat) (w : World) (hn : 1024 < n) (hm : n ≤ maxLen) :
    Calls Yba.prog 4 #[.slice ao n cap] w fun e w' => e = .returned (.bool true) ∧ Below w.heap.size w w' := by
  unfold maxLen at hm
  have hle : (1024 : Int) < (n : Int) := by omega
  go_enter Yba.func4, Yba.ntmps4
  go_wp2
  go_ret
  exact ⟨rfl, Below.refl _ _⟩

theorem u8_bd {n : Int} (h : (Lit.int .u8 n).wf = true) : 0 ≤ n ∧ n ≤ 255 := by
  have := bounds_u8 h
  omega

/-- What the walk is told of the script, out of its reading. -/
theorem opened {H : Type} {enc : TypeId × Value → H} {W : World} {ao : Option Addr} {n cap : Nat} {d : DataW H} {p : List MemPlace}
    (h : DataW.Trod enc Yba.prog W 0 (fun _ => true) true 46 (.slice ao n cap) d p) :
    n ≤ maxLen ∧ ∃ (Z : Nat → Int) (Y : Nat → List Int), ∀ k, k < n → StepAt W.heap.size W ao k (Z k) (Y k) := by
  obtain ⟨fuel, hf⟩ := h
  rcases open_slice_pairs Yba.underlying46 Yba.underlying48 (by kernel_rfl) rfl rfl (by kernel_rfl) (by kernel_rfl) hf with ⟨hcs, _⟩ | ⟨a, len, c, m, n', V0, V1, D0, D1, P0, P1, hcs, _, hl, hm, hmm, hx, hcell⟩
  · simp [Value.cells] at hcs
    obtain ⟨rfl, rfl, rfl⟩ := hcs
    exact ⟨Nat.zero_le _, fun _ => 0, fun _ => [], fun k hk => absurd hk (Nat.not_lt_zero _)⟩
  simp [Value.cells] at hcs
  obtain ⟨rfl, rfl, rfl⟩ := hcs
  simp only [if_true] at hmm
  subst hmm
  refine ⟨Nat.le_trans hl hm, ?_⟩
  have each : ∀ k, k < n → ∃ q : Int × List Int, StepAt W.heap.size W (some a) k q.1 q.2 := by
    intro k hk
    obtain ⟨c0, c1, t0, t1⟩ := hcell k (by omega)
    obtain ⟨s, hs, _, _⟩ := DataW.trod_int Yba.underlying3 t0
    simp at hs
    obtain ⟨b, off, spot⟩ := a
    have hspot : spot = none := by simpa [Addr.add] using World.cell?_spot (hcell 0 (by omega)).1
    subst hspot
    rw [add_plain] at c0 c1
    have hb : b < W.heap.size := World.block_lt_of_cell? W _ c0
    rcases open_ints Yba.underlying23 Yba.underlying5 (by kernel_rfl) t1 with ⟨hcs, _⟩ | ⟨a', len', cap', zs, hcs, _, hl', hm', hz, _, hc', hwz⟩
    · simp at hcs
      rw [hs] at c0
      rw [hcs] at c1
      exact ⟨(s, []), b, off, none, 0, rfl, hb, c0, by simpa [Nat.add_assoc] using c1, fun j hj => absurd hj (Nat.not_lt_zero _)⟩
    · simp at hcs
      simp only [if_true] at hz
      rw [hs] at c0
      rw [hcs] at c1
      have hlen : (zs.take len').length = len' := by simp; omega
      refine ⟨(s, zs.take len'), b, off, some a', cap', rfl, hb, c0, by rw [hlen]; simpa [Nat.add_assoc] using c1, fun j hj => ?_⟩
      rw [hlen] at hj
      have hjz : j < zs.length := by omega
      have cj := hc' j hjz
      obtain ⟨b', o', spot'⟩ := a'
      have hspot : spot' = none := by simpa [Addr.add] using World.cell?_spot (hc' 0 (by omega))
      subst hspot
      rw [add_plain] at cj
      have e : (zs.take len')[j]'(by omega) = zs.getD j 0 := by simp [hjz]
      refine ⟨b', o', rfl, World.block_lt_of_cell? W _ cj, ?_, ?_⟩
      · rw [e]; exact cj
      · rw [e]
        exact u8_bd (hwz _ (by rw [← e]; exact List.mem_of_mem_take (List.getElem_mem _)))
  obtain ⟨f, hf'⟩ := choose_lt each
  exact ⟨fun k => (f k).1, fun k => (f k).2, hf'⟩

/-- THE WALK, whatever the script. -/
theorem walk {H : Type} {enc : TypeId × Value → H} {W : World} {ao : Option Addr} {n cap : Nat} {d : DataW H} {p : List MemPlace}
    (h : DataW.Trod enc Yba.prog W 0 (fun _ => true) true 46 (.slice ao n cap) d p) :
    Calls Yba.prog 4 #[.slice ao n cap] W fun e w' => e = .returned (.bool true) ∧ Below W.heap.size W w' := by
  obtain ⟨hm, Z, Y, hst⟩ := opened h
  by_cases hn : n ≤ 1024
  · exact script_walk ao n cap Z Y W hn hst
  · exact script_long ao n cap W (by omega) hm

set_option maxRecDepth 100000 in
theorem lifted (os : Os) (started : os.Started) (H : Type) (enc : TypeId × Value → H) :
    ReturnsInHanded {} Yba.checked os 4 .any (Rows.lawS3087AScriptSpec.pre6 enc Yba.prog Yba.f4 Rows.lawS3087AScriptRow.domain false) (Rows.lawS3087AScriptSpec.post enc Yba.prog Yba.f4 false true false false) := by
  refine returnsInHanded_of_change (C := Yba.checked) own started (by kernel_rfl) Yba.func4
    (ChangeSpec.witness6 (enc := enc) (C := Yba.checked) false ⟨#[], #[.slice none 0 0], []⟩ 8 (by kernel_rfl) (by kernel_rfl) (by kernel_rfl) (by kernel_rfl)) ?_
  intro W base args ds gs before hval0 hW hcnd _
  have hval : ∀ (j : Nat) t v, Yba.f4.params[j]? = some t → args[j]? = some v → Value.okWide Yba.prog W .any base t v := hval0
  have hW' := hW
  obtain ⟨p, q, hA0, hV, rfl, hfz, hnd⟩ := hW
  have hA : DataW.TrodAll enc Yba.prog W 0 (fun _ => true) true Yba.f4.params.toList args.toList ds p := hA0
  rw [Yba.params4] at hA hval
  obtain ⟨v0, vs0, d0, ds0, p0, q0, hargs, rfl, rfl, h0, r0⟩ := trodAll_cons hA
  obtain ⟨rfl, rfl, rfl⟩ := trodAll_nil r0
  obtain rfl : args = #[v0] := by cases args; simp_all
  obtain ⟨rfl, rfl⟩ := trodVars_none hV
  obtain ⟨a0, len0, cap0, rfl⟩ := okWide_slice Yba.underlying46 (hval 0 46 v0 rfl rfl)
  have lt0 : ∀ x ∈ p0, x.block < W.heap.size := by obtain ⟨m, hm⟩ := h0; exact DataW.trod_lt m _ _ _ hm
  clear hA0 hval0
  refine (walk h0).mono fun e W' ⟨he, bel⟩ => ?_
  subst he
  exact ⟨_, rfl, _, _, _, [], _, [], hW', trodAll_mk1 (shut_bool Yba.underlying4 _), (trodAll_cons_mk (Below.trod laidOut (by kernel_rfl) (of_decide_eq_true (by kernel_rfl)) h0 bel lt0) trodAll_mk0), rfl, bel.frame _, fun h => by cases h⟩

theorem over : Rows.lawS3087AScriptRow.holds Yba.pinned (OpenSpec.ofChange Rows.lawS3087AScriptSpec) :=
  OpenClaim.holds_of_wide 4 Yba.f4 rfl rfl rfl rfl rfl rfl rfl ⟨rfl, rfl, rfl, rfl, rfl⟩ rfl rfl rfl rfl rfl (by kernel_rfl) Yba.func4 (by kernel_rfl)
    (of_decide_eq_true (by kernel_rfl)) (by unfold Func.isWrapper; first | (rw [if_pos (by decide +kernel)]; kernel_rfl) | (rw [if_neg (by decide +kernel)]; exact ⟨rfl, rfl⟩))
    (fun os started H enc _ => lifted os started H enc)

theorem proved : Rows.LawS3087AScriptSaid := over

end Go.Proofs.Ybulkbkxg.lawS3087AScript
