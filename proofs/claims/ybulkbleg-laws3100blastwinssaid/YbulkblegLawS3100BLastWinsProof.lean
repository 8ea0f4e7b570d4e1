/-
  'Rows.LawS3100BLastWinsSaid' PROVED. The frame after the guide's own (proof-skeleton.mjs, a law over slices: 'Below.trod'); the slice of structs opened by 'open_slice', each struct by 'DataW.trod_struct'.
-/
import Derived.Test.YbulkblegWalk
import Derived.ProofKit
import Derived.OpenShut
import Derived.ShutString
import Derived.ChangeOld
import Derived.Deep.Slices
namespace Go.Proofs.Ybulkbleg.lawS3100BLastWins
open Go.ChangeShapes Go.WideShapes Go.ChangeAt Go.RowKit Go.Deep

theorem own : ownKnob Yba.prog.godebug = none := by kernel_rfl
theorem laidOut : laidOutB Yba.prog = true := by kernel_rfl
theorem cells28 : Yba.prog.cellsOf 28 = 3 := by kernel_rfl
theorem cells26 : Yba.prog.cellsOf 26 = 2 := by kernel_rfl
theorem cells9 : Yba.prog.cellsOf 9 = 1 := by kernel_rfl

set_option maxHeartbeats 400000 in
theorem wins_long (ao : Option Addr) (n cap : Nat) (w : World) (hn : 1024 < n) (hm : n ≤ maxLen) :
    Calls Yba.prog 3 #[.slice ao n cap] w fun e w' => e = .returned (.bool true) ∧ Below w.heap.size w w' := by
  unfold maxLen at hm
  have hle : (1024 : Int) < (n : Int) := by omega
  go_enter Yba.func3, Yba.ntmps3
  go_wp2
  go_ret
  exact ⟨rfl, Below.refl _ _⟩

/-- One edit, out of its three cells' reading. -/
theorem edit_cells {H : Type} {enc : TypeId × Value → H} {W : World} {k : Nat} {cs : List Value} {x : DataW H × List MemPlace} (hl : cs.length = 3) (h : DataW.trod enc Yba.prog W 0 (fun _ => true) true k 28 cs = some x) :
    ∃ p a b : ByteArray, cs = [.string p, .string a, .string b] ∧ p.size ≤ maxLen := by
  match cs, hl with
  | [v0, v1, v2], _ =>
    obtain ⟨xs, k1, hk1, hxy, hlen, hxl, hf⟩ := DataW.trod_struct Yba.underlying28 h
    have g0 := hf 0 _ rfl
    have g1 := hf 1 _ rfl
    simp [cells9, cells26] at g0 g1
    match xs, hxl with
    | [y0, y1], _ =>
      obtain ⟨p, hp, _, hs⟩ := DataW.trod_string Yba.underlying9 (g0.trans rfl)
      obtain ⟨zs, k2, _, _, _, hzl, hg⟩ := DataW.trod_struct Yba.underlying26 (g1.trans rfl)
      have e0 := hg 0 _ rfl
      have e1 := hg 1 _ rfl
      simp [cells9] at e0 e1
      match zs, hzl with
      | [z0, z1], _ =>
        obtain ⟨a, ha, _, _⟩ := DataW.trod_string Yba.underlying9 (e0.trans rfl)
        obtain ⟨b, hb, _, _⟩ := DataW.trod_string Yba.underlying9 (e1.trans rfl)
        simp at hp ha hb
        exact ⟨p, a, b, by rw [hp, ha, hb], hs⟩

/-- What the walk is told of the edits, out of their reading. -/
theorem opened {H : Type} {enc : TypeId × Value → H} {W : World} {ao : Option Addr} {n cap : Nat} {d : DataW H} {p : List MemPlace}
    (h : DataW.Trod enc Yba.prog W 0 (fun _ => true) true 22 (.slice ao n cap) d p) :
    n ≤ maxLen ∧ ∃ (P : Nat → ByteArray) (E : Nat → ByteArray × ByteArray), ∀ k, k < n → EditAt W.heap.size W ao k (P k) (E k) := by
  obtain ⟨fuel, hf⟩ := h
  rcases open_slice Yba.underlying22 hf with ⟨hcs, _⟩ | ⟨a, len, c, m, n', D, Pl, hcs, _, hl, hm, hmm, _, hcell⟩
  · simp [Value.cells] at hcs
    obtain ⟨rfl, rfl, rfl⟩ := hcs
    exact ⟨Nat.zero_le _, fun _ => ByteArray.empty, fun _ => (ByteArray.empty, ByteArray.empty), fun k hk => absurd hk (Nat.not_lt_zero _)⟩
  simp [Value.cells] at hcs
  obtain ⟨rfl, rfl, rfl⟩ := hcs
  simp only [if_true] at hmm
  subst hmm
  refine ⟨Nat.le_trans hl hm, ?_⟩
  have each : ∀ k, k < n → ∃ q : ByteArray × ByteArray × ByteArray, EditAt W.heap.size W (some a) k q.1 q.2 := by
    intro k hk
    obtain ⟨cs', h1, h2⟩ := hcell k (by omega)
    rw [cells28] at h1
    obtain ⟨_, hlen, hc⟩ := World.cells?_some h1
    obtain ⟨q, x, y, rfl, hsz⟩ := edit_cells hlen h2
    have c0 := hc 0 (by omega)
    have c1 := hc 1 (by omega)
    have c2 := hc 2 (by omega)
    obtain ⟨b, off, spot⟩ := a
    have hspot : spot = none := by
      obtain ⟨cs0, z1, z2⟩ := hcell 0 (by omega)
      rw [cells28] at z1
      obtain ⟨_, hlen0, hc0⟩ := World.cells?_some z1
      obtain ⟨q0, x0, y0, rfl, _⟩ := edit_cells hlen0 z2
      simpa [Addr.add] using World.cell?_spot (hc0 0 (by omega))
    subst hspot
    rw [add_plain, add_plain] at c0 c1 c2
    have hb : b < W.heap.size := World.block_lt_of_cell? W _ c0
    exact ⟨(q, x, y), b, off, rfl, hb, by simpa using c0, by simpa using c1, by simpa using c2, hsz⟩
  have : Inhabited (ByteArray × ByteArray × ByteArray) := ⟨(ByteArray.empty, ByteArray.empty, ByteArray.empty)⟩
  obtain ⟨f, hf'⟩ := choose_lt each
  exact ⟨fun k => (f k).1, fun k => (f k).2, hf'⟩

/-- THE WALK, whatever the edits. -/
theorem walk {H : Type} {enc : TypeId × Value → H} {W : World} {ao : Option Addr} {n cap : Nat} {d : DataW H} {p : List MemPlace}
    (h : DataW.Trod enc Yba.prog W 0 (fun _ => true) true 22 (.slice ao n cap) d p) :
    Calls Yba.prog 3 #[.slice ao n cap] W fun e w' => e = .returned (.bool true) ∧ Below W.heap.size W w' := by
  obtain ⟨hm, P, E, hed⟩ := opened h
  by_cases hn : n ≤ 1024
  · exact wins_walk ao n cap P E W hn hed
  · exact wins_long ao n cap W (by omega) hm

set_option maxRecDepth 100000 in
theorem lifted (os : Os) (started : os.Started) (H : Type) (enc : TypeId × Value → H) :
    ReturnsInHanded {} Yba.checked os 3 .any (Rows.lawS3100BLastWinsSpec.pre6 enc Yba.prog Yba.f3 Rows.lawS3100BLastWinsRow.domain false) (Rows.lawS3100BLastWinsSpec.post enc Yba.prog Yba.f3 false true false false) := by
  refine returnsInHanded_of_change (C := Yba.checked) own started (by kernel_rfl) Yba.func3
    (ChangeSpec.witness6 (enc := enc) (C := Yba.checked) false ⟨#[], #[.slice none 0 0], []⟩ 8 (by kernel_rfl) (by kernel_rfl) (by kernel_rfl) (by kernel_rfl)) ?_
  intro W base args ds gs before hval0 hW hcnd _
  have hval : ∀ (j : Nat) t v, Yba.f3.params[j]? = some t → args[j]? = some v → Value.okWide Yba.prog W .any base t v := hval0
  have hW' := hW
  obtain ⟨p, q, hA0, hV, rfl, hfz, hnd⟩ := hW
  have hA : DataW.TrodAll enc Yba.prog W 0 (fun _ => true) true Yba.f3.params.toList args.toList ds p := hA0
  rw [Yba.params3] at hA hval
  obtain ⟨v0, vs0, d0, ds0, p0, q0, hargs, rfl, rfl, h0, r0⟩ := trodAll_cons hA
  obtain ⟨rfl, rfl, rfl⟩ := trodAll_nil r0
  obtain rfl : args = #[v0] := by cases args; simp_all
  obtain ⟨rfl, rfl⟩ := trodVars_none hV
  obtain ⟨a0, len0, cap0, rfl⟩ := okWide_slice Yba.underlying22 (hval 0 22 v0 rfl rfl)
  have lt0 : ∀ x ∈ p0, x.block < W.heap.size := by obtain ⟨m, hm⟩ := h0; exact DataW.trod_lt m _ _ _ hm
  clear hA0 hval0
  refine (walk h0).mono fun e W' ⟨he, bel⟩ => ?_
  subst he
  exact ⟨_, rfl, _, _, _, [], _, [], hW', trodAll_mk1 (shut_bool Yba.underlying4 _), (trodAll_cons_mk (Below.trod laidOut (by kernel_rfl) (of_decide_eq_true (by kernel_rfl)) h0 bel lt0) trodAll_mk0), rfl, bel.frame _, fun h => by cases h⟩

theorem over : Rows.lawS3100BLastWinsRow.holds Yba.pinned (OpenSpec.ofChange Rows.lawS3100BLastWinsSpec) :=
  OpenClaim.holds_of_wide 3 Yba.f3 rfl rfl rfl rfl rfl rfl rfl ⟨rfl, rfl, rfl, rfl, rfl⟩ rfl rfl rfl rfl rfl (by kernel_rfl) Yba.func3 (by kernel_rfl)
    (of_decide_eq_true (by kernel_rfl)) (by unfold Func.isWrapper; first | (rw [if_pos (by decide +kernel)]; kernel_rfl) | (rw [if_neg (by decide +kernel)]; exact ⟨rfl, rfl⟩))
    (fun os started H enc _ => lifted os started H enc)

theorem proved : Rows.LawS3100BLastWinsSaid := over

end Go.Proofs.Ybulkbleg.lawS3100BLastWins
