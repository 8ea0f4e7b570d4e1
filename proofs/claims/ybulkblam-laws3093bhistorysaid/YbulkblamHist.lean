import Derived.Test.YbulkblamReq
namespace Go.Proofs.Ybulkblam
open Go.RowKit
set_option linter.unusedVariables false
set_option linter.unusedSimpArgs false

/-- What was there behind a callee: the cells and the marks. -/
theorem kcell {W w1 : World} (k : W.keptBut w1 (fun _ => False)) : (∀ b o, b < W.heap.size → w1.cell? ⟨b, o, none⟩ = W.cell? ⟨b, o, none⟩) ∧ (∀ b o, b < W.heap.size → w1.frozen? ⟨b, o, none⟩ = W.frozen? ⟨b, o, none⟩) :=
  ⟨fun b o h => k.cell h id, fun b o h => keptBut_frozen k ⟨b, o, none⟩ h⟩

/-- Two cells of the result's own block are written behind the append to nil. -/
theorem made {w w1 : World} {o : Obj} {v : Value} {ns : List Int} (hr : Row w1 v ns) (hp : Put (w.alloc o) (.slice none 0 0) w1 v) (x0 x1 : Value) :
    Lies ((w1.setCell ⟨w.heap.size, 0, none⟩ x0).setCell ⟨w.heap.size, 1, none⟩ x1) v ns ∧ w.keptBut ((w1.setCell ⟨w.heap.size, 0, none⟩ x0).setCell ⟨w.heap.size, 1, none⟩ x1) (fun _ => False) := by
  have k2 : w1.keptBut ((w1.setCell ⟨w.heap.size, 0, none⟩ x0).setCell ⟨w.heap.size, 1, none⟩ x1) (fun p => p.block = w.heap.size) :=
    World.keptBut_trans (World.keptBut_setCell w1 _ _ rfl) (World.keptBut_setCell _ _ _ rfl)
  refine ⟨hr.lies.stay k2 ?_, ?_⟩
  · rintro g off c j rfl hj e
    have e' : g = w.heap.size := e
    rcases hp.2 with ⟨ao, l, c', l', e1, e2, _⟩ | ⟨g', c', l', e2, hg⟩
    · cases e1
      cases e2
    · cases e2
      have : (w.alloc o).heap.size = w.heap.size + 1 := by simp
      omega
  · exact keptBut_then (kept_trans (World.keptBut_alloc w o _) hp.nil) k2 (fun p hp => .inr (by omega))

/-- A function that hands a field back. -/
def Makes (s : ByteArray) (ns : List Int) (w : World) (e : Ending) (w' : World) : Prop := ∃ p c, e = .returned (.agg #[.string s, .slice p ns.length c]) ∧ Lies w' (.slice p ns.length c) ns ∧ w.keptBut w' (fun _ => False)

set_option maxHeartbeats 1000000 in
set_option maxRecDepth 100000 in
theorem key_any (w : World) (s : ByteArray) (hs : s.size ≤ 131072) : Calls Yba.prog 17 #[.string s] w (Makes { data := #[107, 101, 121] } (encStr s) w) := by
  go_enter Yba.func17, Yba.ntmps17
  go_wp2_with (go_at_call 26; refine (str_any (row_nil _) _ (by simp only [List.length_nil]; omega)).mono ?_; rintro e w1 ⟨v1, rfl, hr1, hp1⟩; obtain ⟨p, c, rfl⟩ := hr1.lies.of_len; obtain ⟨hc, hf⟩ := kcell hp1.nil)
  obtain ⟨hl, hk⟩ := made hr1 hp1 (.string { data := #[107, 101, 121] }) (.slice p (encStr s).length c)
  refine bodyPost_ret (v := .agg #[.string { data := #[107, 101, 121] }, .slice p (encStr s).length c]) ?_ rfl ⟨p, c, rfl, hl, hk⟩
  simp [results, Yba.results17, go_sem, hc]

set_option maxHeartbeats 1000000 in
set_option maxRecDepth 100000 in
theorem before_any (w : World) (x : Int) : Calls Yba.prog 18 #[.int .u64 x] w (Makes { data := #[98, 101, 102, 111, 114, 101] } (encUint x) w) := by
  go_enter Yba.func18, Yba.ntmps18
  go_wp2_with (go_at_call 31; refine (uint_any (row_nil _) _ (by simp only [List.length_nil]; omega)).mono ?_; rintro e w1 ⟨v1, rfl, hr1, hp1⟩; obtain ⟨p, c, rfl⟩ := hr1.lies.of_len; obtain ⟨hc, hf⟩ := kcell hp1.nil)
  obtain ⟨hl, hk⟩ := made hr1 hp1 (.string { data := #[98, 101, 102, 111, 114, 101] }) (.slice p (encUint x).length c)
  refine bodyPost_ret (v := .agg #[.string { data := #[98, 101, 102, 111, 114, 101] }, .slice p (encUint x).length c]) ?_ rfl ⟨p, c, rfl, hl, hk⟩
  simp [results, Yba.results18, go_sem, hc]

end Go.Proofs.Ybulkblam
