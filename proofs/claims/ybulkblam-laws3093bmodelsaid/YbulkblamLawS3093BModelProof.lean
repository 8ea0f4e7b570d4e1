/-
  'Rows.LawS3093BModelSaid' PROVED. The frame after the kit's own for a law over slices; the slice of structs opened by 'open_slice', each struct by 'DataW.trod_struct', each row of bytes by 'open_ints'; the walk: YbulkblamBig.
-/
import Derived.Test.YbulkblamRows
import Derived.Test.YbulkblamBig
import Derived.WalkKit
import Derived.ProofKit
import Derived.OpenShut
import Derived.ShutString
import Derived.ChangeOld
import Derived.ChangeSlices
import Derived.Deep.Slices
namespace Go.Proofs.Ybulkblam.lawS3093BModel
open Go.ChangeShapes Go.WideShapes Go.ChangeAt Go.RowKit Go.Deep
open Go.ChangeMaps (open_string shut_string)
set_option linter.unusedVariables false

theorem own : ownKnob Yba.prog.godebug = none := by kernel_rfl
theorem laidOut : laidOutB Yba.prog = true := by kernel_rfl
theorem cells5 : Yba.prog.cellsOf 5 = 1 := by kernel_rfl
theorem cells9 : Yba.prog.cellsOf 9 = 1 := by kernel_rfl
theorem cells37 : Yba.prog.cellsOf 37 = 1 := by kernel_rfl
theorem cells40 : Yba.prog.cellsOf 40 = 2 := by kernel_rfl

/-- A row of bytes, out of its reading. -/
theorem bytes_of {H : Type} {enc : TypeId × Value → H} {W : World} {k : Nat} {cs : List Value} {x : DataW H × List MemPlace} (h : DataW.trod enc Yba.prog W 0 (fun _ => true) true k 37 cs = some x) :
    ∃ v zs, cs = [v] ∧ Lies W v zs := by
  rcases open_ints Yba.underlying37 Yba.underlying5 cells5 h with ⟨rfl, _⟩ | ⟨a, len, cap, zs, rfl, _, hl, hm, hlen, _, hc, _⟩
  · exact ⟨_, [], rfl, none, 0, rfl, Lib.BytesIn.nil _ _ _⟩
  · simp only [if_true] at hlen
    have ht : (zs.take len).length = len := by simp; omega
    refine ⟨_, zs.take len, rfl, some a, cap, by rw [ht], ?_⟩
    rw [ht]
    refine Lib.BytesIn.of_cells fun i hi => ?_
    rw [hc i (by omega)]
    simp [List.getD, hi]

/-- One field, out of its two cells' reading. -/
theorem field_cells {H : Type} {enc : TypeId × Value → H} {W : World} {k : Nat} {cs : List Value} {x : DataW H × List MemPlace} (hl : cs.length = 2) (h : DataW.trod enc Yba.prog W 0 (fun _ => true) true k 40 cs = some x) :
    ∃ (n : ByteArray) (v : Value) (ns : List Int), cs = [.string n, v] ∧ Lies W v ns := by
  match cs, hl with
  | [v0, v1], _ =>
    obtain ⟨xs, k1, hk1, hxy, hlen, hxl, hf⟩ := DataW.trod_struct Yba.underlying40 h
    have g0 := hf 0 _ rfl
    have g1 := hf 1 _ rfl
    simp [cells9, cells37] at g0 g1
    match xs, hxl with
    | [y0, y1], _ =>
      obtain ⟨n, hp, _, hs⟩ := DataW.trod_string Yba.underlying9 (g0.trans rfl)
      obtain ⟨v, ns, hv, hns⟩ := bytes_of (g1.trans rfl)
      simp at hp hv
      exact ⟨n, v, ns, by rw [hp, hv], hns⟩

/-- The fields, out of their reading. -/
theorem opened {H : Type} {enc : TypeId × Value → H} {W : World} {ao : Option Addr} {n cap : Nat} {d : DataW H} {p : List MemPlace}
    (h : DataW.Trod enc Yba.prog W 0 (fun _ => true) true 38 (.slice ao n cap) d p) :
    ∃ (g off : Nat) (fs : List Fld), n = fs.length ∧ (0 < fs.length → ao = some ⟨g, off, none⟩) ∧ Held W g off fs := by
  obtain ⟨fuel, hf⟩ := h
  rcases open_slice Yba.underlying38 hf with ⟨hcs, _⟩ | ⟨a, len, c, m, n', D, Pl, hcs, _, hl, hm, hmm, _, hcell⟩
  · simp [Value.cells] at hcs
    obtain ⟨rfl, rfl, rfl⟩ := hcs
    exact ⟨0, 0, [], rfl, fun h => absurd h (Nat.lt_irrefl _), fun k n x ns h => by simp at h⟩
  simp [Value.cells] at hcs
  obtain ⟨rfl, rfl, rfl⟩ := hcs
  simp only [if_true] at hmm
  subst hmm
  obtain ⟨b, off, spot⟩ := a
  have each : ∀ k : Nat, ∃ q : Fld, k < n → spot = none ∧ W.cell? ⟨b, off + 2 * k, none⟩ = some (.string q.1) ∧ W.cell? ⟨b, off + 2 * k + 1, none⟩ = some q.2.1 ∧ Lies W q.2.1 q.2.2 := by
    intro k
    by_cases hk : k < n
    · obtain ⟨cs', h1, h2⟩ := hcell k (by omega)
      rw [cells40] at h1
      obtain ⟨_, hlen, hc⟩ := World.cells?_some h1
      obtain ⟨nm, v, ns, rfl, hns⟩ := field_cells hlen h2
      have c0 := hc 0 (by omega)
      have c1 := hc 1 (by omega)
      refine ⟨(nm, v, ns), fun _ => ?_⟩
      have hspot : spot = none := by
        obtain ⟨cs0, z1, z2⟩ := hcell 0 (by omega)
        rw [cells40] at z1
        obtain ⟨_, hlen0, hc0⟩ := World.cells?_some z1
        obtain ⟨n0, y0, ns0, rfl, _⟩ := field_cells hlen0 z2
        simpa [Addr.add] using World.cell?_spot (hc0 0 (by omega))
      subst hspot
      rw [add_plain, add_plain] at c0 c1
      rw [Nat.mul_comm 2 k]
      exact ⟨rfl, by simpa using c0, by simpa using c1, hns⟩
    · exact ⟨(ByteArray.empty, .slice none 0 0, []), fun h => absurd h hk⟩
  obtain ⟨f, hf'⟩ := Classical.axiomOfChoice each
  refine ⟨b, off, (List.range n).map f, by simp, fun h0 => ?_, ?_⟩
  · obtain ⟨rfl, _⟩ := hf' 0 (by simpa using h0)
    rfl
  · intro k nm x ns hk
    have hlt : k < n := by
      have := (List.getElem?_eq_some_iff.1 hk).1
      simpa using this
    simp [hlt] at hk
    obtain ⟨_, h1, h2, h3⟩ := hf' k hlt
    rw [hk] at h1 h2 h3
    exact ⟨h1, h2, h3⟩

theorem same_of {W W' : World} (k : W.keptBut W' (fun _ => False)) {p : MemPlace} (hp : p.block < W.heap.size) : W.sameAt W' p := by
  cases p with
  | cell b o => exact k.cell hp id
  | map b => exact k.block hp (fun _ f => f.elim)

theorem carried {H : Type} {enc : TypeId × Value → H} {t : TypeId} (hr : Yba.prog.readableRec t = true) (hrow : t < Yba.prog.types.size) {W W' : World} {v : Value} {d : DataW H} {ps : List MemPlace}
    (h : DataW.Trod enc Yba.prog W 0 (fun _ => true) true t v d ps) (k : W.keptBut W' (fun _ => False)) :
    DataW.Trod enc Yba.prog W' 0 (fun b => decide (b < W.heap.size)) true t v d ps := by
  have hlt : ∀ x ∈ ps, x.block < W.heap.size := by obtain ⟨m, hm⟩ := h; exact DataW.trod_lt m _ _ _ hm
  exact WideElems.Trod_stays laidOut hr hrow h (fun x hx => same_of k (hlt x hx)) (fun x hx => by simpa using hlt x hx)

/-- THE WALK, whatever the input. -/
theorem walk {H : Type} {enc : TypeId × Value → H} {W : World} {p0 : Option Addr} {m0 c0 : Nat} {a1 : ByteArray} {a2 a3 : Int} {ao : Option Addr} {n cap : Nat} {d0 d4 : DataW H} {q0 q4 : List MemPlace}
    (h0 : DataW.Trod enc Yba.prog W 0 (fun _ => true) true 37 (.slice p0 m0 c0) d0 q0) (w2 : (Lit.int .i64 a2).wf = true) (w3 : (Lit.int .i64 a3).wf = true)
    (h4 : DataW.Trod enc Yba.prog W 0 (fun _ => true) true 38 (.slice ao n cap) d4 q4) :
    Calls Yba.prog 6 #[.slice p0 m0 c0, .string a1, .int .i64 a2, .int .i64 a3, .slice ao n cap] W (Fine W) := by
  have b2 := bounds_i64 w2
  have b3 := bounds_i64 w3
  obtain ⟨g, off, fs, rfl, hF, hh⟩ := opened h4
  obtain ⟨fuel, hf⟩ := h0
  obtain ⟨v, zs, hv, hz⟩ := bytes_of hf
  simp [Value.cells] at hv
  subst hv
  obtain ⟨p', c', e⟩ := hz.of_len
  cases e
  by_cases e1 : zs.length ≤ 4096
  · by_cases e2 : a1.size ≤ 131072
    · by_cases e3 : fs.length ≤ 1024
      · exact model_walk _ _ zs a1 a2 a3 ao cap g off fs W hz e1 e2 e3 hF hh b2.2 b3.2
      · exact long_many _ _ _ a1 a2 a3 ao _ cap W e1 e2 e3
    · exact long_oper _ _ _ a1 a2 a3 ao _ cap W e1 e2
  · exact long_dst _ _ _ a1 a2 a3 ao _ cap W e1

set_option maxRecDepth 100000 in
theorem lifted (os : Os) (started : os.Started) (H : Type) (enc : TypeId × Value → H) :
    ReturnsInHanded {} Yba.checked os 6 .any (Rows.lawS3093BModelSpec.pre6 enc Yba.prog Yba.f6 Rows.lawS3093BModelRow.domain false) (Rows.lawS3093BModelSpec.post enc Yba.prog Yba.f6 false true false false) := by
  refine returnsInHanded_of_change (C := Yba.checked) own started (by kernel_rfl) Yba.func6
    (ChangeSpec.witness6 (enc := enc) (C := Yba.checked) false ⟨#[], #[.slice none 0 0, .string ByteArray.empty, .int .i64 0, .int .i64 0, .slice none 0 0], []⟩ 8 (by kernel_rfl) (by kernel_rfl) (by kernel_rfl) (by kernel_rfl)) ?_
  intro W base args ds gs before hval0 hW hcnd _
  have hval : ∀ (j : Nat) t v, Yba.f6.params[j]? = some t → args[j]? = some v → Value.okWide Yba.prog W .any base t v := hval0
  have hW' := hW
  obtain ⟨p, q, hA0, hV, rfl, hfz, hnd⟩ := hW
  have hA : DataW.TrodAll enc Yba.prog W 0 (fun _ => true) true Yba.f6.params.toList args.toList ds p := hA0
  rw [Yba.params6] at hA hval
  obtain ⟨v0, vs0, d0, ds0, p0, q0, hargs, rfl, rfl, h0, r0⟩ := trodAll_cons hA
  obtain ⟨v1, vs1, d1, ds1, p1, q1, rfl, rfl, rfl, h1, r1⟩ := trodAll_cons r0
  obtain ⟨v2, vs2, d2, ds2, p2, q2, rfl, rfl, rfl, h2, r2⟩ := trodAll_cons r1
  obtain ⟨v3, vs3, d3, ds3, p3, q3, rfl, rfl, rfl, h3, r3⟩ := trodAll_cons r2
  obtain ⟨v4, vs4, d4, ds4, p4, q4, rfl, rfl, rfl, h4, r4⟩ := trodAll_cons r3
  obtain ⟨rfl, rfl, rfl⟩ := trodAll_nil r4
  obtain rfl : args = #[v0, v1, v2, v3, v4] := by cases args; simp_all
  obtain ⟨rfl, rfl⟩ := trodVars_none hV
  obtain ⟨s0, m0, c0, rfl⟩ := okWide_slice Yba.underlying37 (hval 0 37 v0 rfl rfl)
  obtain ⟨a1, rfl, rfl, rfl, w1⟩ := open_string Yba.underlying9 (hval 1 9 v1 rfl rfl) h1
  obtain ⟨a2, rfl, rfl, rfl, w2⟩ := open_int Yba.underlying2 (hval 2 2 v2 rfl rfl) h2
  obtain ⟨a3, rfl, rfl, rfl, w3⟩ := open_int Yba.underlying2 (hval 3 2 v3 rfl rfl) h3
  obtain ⟨s4, m4, c4, rfl⟩ := okWide_slice Yba.underlying38 (hval 4 38 v4 rfl rfl)
  clear hA0 hval0
  refine (walk h0 w2 w3 h4).mono fun e W' ⟨he, hk⟩ => ?_
  subst he
  exact ⟨_, rfl, _, _, _, [], _, [], hW', trodAll_mk1 (shut_bool Yba.underlying4 _), (trodAll_cons_mk (carried (by kernel_rfl) (of_decide_eq_true (by kernel_rfl)) h0 hk) (trodAll_cons_mk (shut_string Yba.underlying9 w1) (trodAll_cons_mk (shut_int Yba.underlying2 w2) (trodAll_cons_mk (shut_int Yba.underlying2 w3) (trodAll_cons_mk (carried (by kernel_rfl) (of_decide_eq_true (by kernel_rfl)) h4 hk) trodAll_mk0))))), rfl, World.keptBut_mono (fun _ f => f.elim) hk, fun h => by cases h⟩

theorem over : Rows.lawS3093BModelRow.holds Yba.pinned (OpenSpec.ofChange Rows.lawS3093BModelSpec) :=
  OpenClaim.holds_of_wide 6 Yba.f6 rfl rfl rfl rfl rfl rfl rfl ⟨rfl, rfl, rfl, rfl, rfl⟩ rfl rfl rfl rfl rfl (by kernel_rfl) Yba.func6 (by kernel_rfl)
    (of_decide_eq_true (by kernel_rfl)) (by unfold Func.isWrapper; first | (rw [if_pos (by decide +kernel)]; kernel_rfl) | (rw [if_neg (by decide +kernel)]; exact ⟨rfl, rfl⟩))
    (fun os started H enc _ => lifted os started H enc)

theorem proved : Rows.LawS3093BModelSaid := over

end Go.Proofs.Ybulkblam.lawS3093BModel
