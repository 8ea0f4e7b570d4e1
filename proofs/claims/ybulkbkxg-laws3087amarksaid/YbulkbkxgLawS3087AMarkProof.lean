/-
  'Rows.LawS3087AMarkSaid' PROVED. The frame after the guide's own (proof-skeleton.mjs, a law over slices: 'Below.trod'); the slice of structs opened by 'open_slice_pairs', the selectors by 'open_ints'.
-/
import Derived.Test.YbulkbkxgMarkWalk
import Derived.ProofKit
import Derived.OpenShut
import Derived.ShutString
import Derived.ChangeOld
import Derived.Deep.SlicePairs
namespace Go.Proofs.Ybulkbkxg.lawS3087AMark
open Go.ChangeShapes Go.WideShapes Go.ChangeAt Go.RowKit Go.Deep

theorem own : ownKnob Yba.prog.godebug = none := by kernel_rfl
theorem laidOut : laidOutB Yba.prog = true := by kernel_rfl

set_option maxHeartbeats 400000 in
set_option maxRecDepth 100000 in
theorem mark_long (ao bo : Option Addr) (n cap m cap2 : Nat) (st : Int) (same : Bool) (w : World) (hn : n ≤ maxLen) (hm : m ≤ maxLen) (h : 1024 < n ∨ 1024 < m) :
    Calls Yba.prog 3 #[.slice ao n cap, .int .i64 st, .bool same, .slice bo m cap2] w fun e w' => e = .returned (.bool true) ∧ Below w.heap.size w w' := by
  unfold maxLen at hn hm
  by_cases h1 : 1024 < n
  · have hle : (1024 : Int) < (n : Int) := by omega
    clear h
    go_enter Yba.func3, Yba.ntmps3
    go_wp2
    go_ret
    exact ⟨rfl, Below.refl _ _⟩
  · have hle : ¬ (1024 : Int) < (n : Int) := by omega
    have hle2 : (1024 : Int) < (m : Int) := by omega
    clear h
    go_enter Yba.func3, Yba.ntmps3
    go_wp2
    go_ret
    exact ⟨rfl, Below.refl _ _⟩

theorem u8_bd {n : Int} (h : (Lit.int .u8 n).wf = true) : 0 ≤ n ∧ n ≤ 255 := by
  have := bounds_u8 h
  omega

/-- What the walk is told of the spans, out of their reading. -/
theorem opened {H : Type} {enc : TypeId × Value → H} {W : World} {ao : Option Addr} {n cap : Nat} {d : DataW H} {p : List MemPlace}
    (h : DataW.Trod enc Yba.prog W 0 (fun _ => true) true 22 (.slice ao n cap) d p) :
    n ≤ maxLen ∧ ∃ (Z O : Nat → Int), ∀ k, k < n → SpanAt W.heap.size W ao k (Z k) (O k) := by
  obtain ⟨fuel, hf⟩ := h
  rcases open_slice_pairs Yba.underlying22 Yba.underlying37 (by kernel_rfl) rfl rfl (by kernel_rfl) (by kernel_rfl) hf with ⟨hcs, _⟩ | ⟨a, len, c, m, n', V0, V1, D0, D1, P0, P1, hcs, _, hl, hm, hmm, hx, hcell⟩
  · simp [Value.cells] at hcs
    obtain ⟨rfl, rfl, rfl⟩ := hcs
    exact ⟨Nat.zero_le _, fun _ => 0, fun _ => 0, fun k hk => absurd hk (Nat.not_lt_zero _)⟩
  simp [Value.cells] at hcs
  obtain ⟨rfl, rfl, rfl⟩ := hcs
  simp only [if_true] at hmm
  subst hmm
  refine ⟨Nat.le_trans hl hm, ?_⟩
  have each : ∀ k, k < n → ∃ q : Int × Int, SpanAt W.heap.size W (some a) k q.1 q.2 := by
    intro k hk
    obtain ⟨c0, c1, t0, t1⟩ := hcell k (by omega)
    obtain ⟨s, hs, _, _⟩ := DataW.trod_int Yba.underlying3 t0
    obtain ⟨o, ho, _, hw⟩ := DataW.trod_int Yba.underlying5 t1
    simp at hs ho
    obtain ⟨b, off, spot⟩ := a
    have hspot : spot = none := by simpa [Addr.add] using World.cell?_spot (hcell 0 (by omega)).1
    subst hspot
    rw [add_plain] at c0 c1
    have hb : b < W.heap.size := World.block_lt_of_cell? W _ c0
    rw [hs] at c0
    rw [ho] at c1
    exact ⟨(s, o), b, off, rfl, hb, c0, by simpa [Nat.add_assoc] using c1, u8_bd hw⟩
  obtain ⟨f, hf'⟩ := choose_lt each
  exact ⟨fun k => (f k).1, fun k => (f k).2, hf'⟩

/-- What the walk is told of the open selectors. -/
theorem opened2 {H : Type} {enc : TypeId × Value → H} {W : World} {ao : Option Addr} {n cap : Nat} {d : DataW H} {p : List MemPlace}
    (h : DataW.Trod enc Yba.prog W 0 (fun _ => true) true 23 (.slice ao n cap) d p) :
    n ≤ maxLen ∧ ∃ U : Nat → Int, ∀ k, k < n → SelAt W.heap.size W ao k (U k) := by
  obtain ⟨fuel, hf⟩ := h
  rcases open_ints Yba.underlying23 Yba.underlying5 (by kernel_rfl) hf with ⟨hcs, _⟩ | ⟨a, len', cap', zs, hcs, _, hl, hm, hz, _, hc, hwz⟩
  · simp [Value.cells] at hcs
    obtain ⟨rfl, rfl, rfl⟩ := hcs
    exact ⟨Nat.zero_le _, fun _ => 0, fun k hk => absurd hk (Nat.not_lt_zero _)⟩
  simp [Value.cells] at hcs
  obtain ⟨rfl, rfl, rfl⟩ := hcs
  simp only [if_true] at hz
  refine ⟨Nat.le_trans hl hm, fun k => zs.getD k 0, fun k hk => ?_⟩
  have hkz : k < zs.length := by omega
  have ck := hc k hkz
  obtain ⟨b, off, spot⟩ := a
  have hspot : spot = none := by simpa [Addr.add] using World.cell?_spot (hc 0 (by omega))
  subst hspot
  rw [add_plain] at ck
  have e : zs.getD k 0 = zs[k] := by simp [hkz]
  exact ⟨b, off, rfl, World.block_lt_of_cell? W _ ck, ck, u8_bd (hwz _ (by show zs.getD k 0 ∈ zs; rw [e]; exact List.getElem_mem _))⟩

/-- THE WALK, whatever the input. -/
theorem walk {H : Type} {enc : TypeId × Value → H} {W : World} {ao bo : Option Addr} {n cap m cap2 : Nat} {d d2 : DataW H} {p p2 : List MemPlace} (st : Int) (same : Bool)
    (h : DataW.Trod enc Yba.prog W 0 (fun _ => true) true 22 (.slice ao n cap) d p) (h2 : DataW.Trod enc Yba.prog W 0 (fun _ => true) true 23 (.slice bo m cap2) d2 p2) :
    Calls Yba.prog 3 #[.slice ao n cap, .int .i64 st, .bool same, .slice bo m cap2] W fun e w' => e = .returned (.bool true) ∧ Below W.heap.size W w' := by
  obtain ⟨hn, Z, O, hsp⟩ := opened h
  obtain ⟨hm, U, hop⟩ := opened2 h2
  by_cases hs : n ≤ 1024 ∧ m ≤ 1024
  · exact mark_walk ao bo n cap m cap2 st same Z O U W hs.1 hs.2 hsp hop
  · exact mark_long ao bo n cap m cap2 st same W hn hm (by omega)

set_option maxRecDepth 100000 in
theorem lifted (os : Os) (started : os.Started) (H : Type) (enc : TypeId × Value → H) :
    ReturnsInHanded {} Yba.checked os 3 .any (Rows.lawS3087AMarkSpec.pre6 enc Yba.prog Yba.f3 Rows.lawS3087AMarkRow.domain false) (Rows.lawS3087AMarkSpec.post enc Yba.prog Yba.f3 false true false false) := by
  refine returnsInHanded_of_change (C := Yba.checked) own started (by kernel_rfl) Yba.func3
    (ChangeSpec.witness6 (enc := enc) (C := Yba.checked) false ⟨#[], #[.slice none 0 0, .int .i64 0, .bool false, .slice none 0 0], []⟩ 8 (by kernel_rfl) (by kernel_rfl) (by kernel_rfl) (by kernel_rfl)) ?_
  intro W base args ds gs before hval0 hW hcnd _
  have hval : ∀ (j : Nat) t v, Yba.f3.params[j]? = some t → args[j]? = some v → Value.okWide Yba.prog W .any base t v := hval0
  have hW' := hW
  obtain ⟨p, q, hA0, hV, rfl, hfz, hnd⟩ := hW
  have hA : DataW.TrodAll enc Yba.prog W 0 (fun _ => true) true Yba.f3.params.toList args.toList ds p := hA0
  rw [Yba.params3] at hA hval
  obtain ⟨v0, vs0, d0, ds0, p0, q0, hargs, rfl, rfl, h0, r0⟩ := trodAll_cons hA
  obtain ⟨v1, vs1, d1, ds1, p1, q1, rfl, rfl, rfl, h1, r1⟩ := trodAll_cons r0
  obtain ⟨v2, vs2, d2, ds2, p2, q2, rfl, rfl, rfl, h2, r2⟩ := trodAll_cons r1
  obtain ⟨v3, vs3, d3, ds3, p3, q3, rfl, rfl, rfl, h3, r3⟩ := trodAll_cons r2
  obtain ⟨rfl, rfl, rfl⟩ := trodAll_nil r3
  obtain rfl : args = #[v0, v1, v2, v3] := by cases args; simp_all
  obtain ⟨rfl, rfl⟩ := trodVars_none hV
  obtain ⟨a0, len0, cap0, rfl⟩ := okWide_slice Yba.underlying22 (hval 0 22 v0 rfl rfl)
  have lt0 : ∀ x ∈ p0, x.block < W.heap.size := by obtain ⟨m, hm⟩ := h0; exact DataW.trod_lt m _ _ _ hm
  obtain ⟨a1, rfl, rfl, rfl, w1⟩ := open_int Yba.underlying3 (hval 1 3 v1 rfl rfl) h1
  obtain ⟨a2, rfl, rfl, rfl⟩ := open_bool Yba.underlying4 (hval 2 4 v2 rfl rfl) h2
  obtain ⟨a3, len3, cap3, rfl⟩ := okWide_slice Yba.underlying23 (hval 3 23 v3 rfl rfl)
  have lt3 : ∀ x ∈ p3, x.block < W.heap.size := by obtain ⟨m, hm⟩ := h3; exact DataW.trod_lt m _ _ _ hm
  clear hA0 hval0
  refine (walk a1 a2 h0 h3).mono fun e W' ⟨he, bel⟩ => ?_
  subst he
  exact ⟨_, rfl, _, _, _, [], _, [], hW', trodAll_mk1 (shut_bool Yba.underlying4 _), (trodAll_cons_mk (Below.trod laidOut (by kernel_rfl) (of_decide_eq_true (by kernel_rfl)) h0 bel lt0) (trodAll_cons_mk (shut_int Yba.underlying3 w1) (trodAll_cons_mk (shut_bool Yba.underlying4 _) (trodAll_cons_mk (Below.trod laidOut (by kernel_rfl) (of_decide_eq_true (by kernel_rfl)) h3 bel lt3) trodAll_mk0)))), rfl, bel.frame _, fun h => by cases h⟩

theorem over : Rows.lawS3087AMarkRow.holds Yba.pinned (OpenSpec.ofChange Rows.lawS3087AMarkSpec) :=
  OpenClaim.holds_of_wide 3 Yba.f3 rfl rfl rfl rfl rfl rfl rfl ⟨rfl, rfl, rfl, rfl, rfl⟩ rfl rfl rfl rfl rfl (by kernel_rfl) Yba.func3 (by kernel_rfl)
    (of_decide_eq_true (by kernel_rfl)) (by unfold Func.isWrapper; first | (rw [if_pos (by decide +kernel)]; kernel_rfl) | (rw [if_neg (by decide +kernel)]; exact ⟨rfl, rfl⟩))
    (fun os started H enc _ => lifted os started H enc)

theorem proved : Rows.LawS3087AMarkSaid := over

end Go.Proofs.Ybulkbkxg.lawS3087AMark
