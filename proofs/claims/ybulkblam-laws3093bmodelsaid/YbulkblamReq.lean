import Derived.Test.YbulkblamHead
namespace Go.Proofs.Ybulkblam
open Go.RowKit
set_option linter.unusedVariables false
set_option linter.unusedSimpArgs false

/-- The fields' bytes. -/
def fieldsList (fs : List Fld) : List Int := fs.flatMap fun f => encStr f.1 ++ f.2.2

theorem fieldsList_next {fs : List Fld} {k : Nat} {n : ByteArray} {x : Value} {ns : List Int} (h : fs[k]? = some (n, x, ns)) : fieldsList (fs.take (k + 1)) = fieldsList (fs.take k) ++ (encStr n ++ ns) := by
  rw [List.take_add_one, h]
  simp [fieldsList]

theorem cell_new (w : World) (cs : Array Value) (t : TypeId) (fr : Nat × Nat) (j : Nat) : (w.alloc (.cells cs t fr)).cell? ⟨w.heap.size, j, none⟩ = cs[j]? := by
  simp only [World.cell?, alloc_new]
  rfl

/-- No field is long. -/
def Small (fs : List Fld) : Prop := ∀ (k : Nat) (n : ByteArray) (x : Value) (ns : List Int), fs[k]? = some (n, x, ns) → n.size ≤ 131072 ∧ ns.length ≤ 131080

theorem fieldsList_len {fs : List Fld} (h : Small fs) : ∀ k, k ≤ fs.length → (fieldsList (fs.take k)).length ≤ k * 262200
  | 0, _ => by simp [fieldsList]
  | k + 1, hk => by
    have ih := fieldsList_len h k (by omega)
    have hf : fs[k]? = some fs[k] := List.getElem?_eq_getElem (by omega)
    obtain ⟨h1, h2⟩ := h k fs[k].1 fs[k].2.1 fs[k].2.2 hf
    rw [fieldsList_next (n := fs[k].1) (x := fs[k].2.1) (ns := fs[k].2.2) hf]
    have := encStr_len fs[k].1
    simp only [List.length_append]
    omega

theorem req_mid {w wr w2 : World} {v u v2 : Value} {zs us : List Int} {g k c : Nat} {fs : List Fld} {n : ByteArray} {p : Option Addr} {ns : List Int} (hs : Sofar w v zs us wr u) (HH : Held w g 0 fs) (HC : Clear w v g fs)
    (hfk : fs[k]? = some (n, .slice p ns.length c, ns)) (hr2 : Row w2 v2 ((zs ++ us) ++ encStr n)) (hp2 : Put (wr.alloc (.cells #[.string n, .slice p ns.length c] 42)) u w2 v2) :
    w2.cell? ⟨wr.heap.size, 1, none⟩ = some (.slice p ns.length c) ∧ wr.heap.size < w2.heap.size ∧ Sofar w v zs (us ++ encStr n) w2 v2 ∧ Lies w2 (.slice p ns.length c) ns := by
  have hfar : Far (wr.alloc (.cells #[.string n, .slice p ns.length c] 42)) u wr.heap.size := hs.1.far (Nat.le_refl _) (by simp)
  have hc2 : w2.cell? ⟨wr.heap.size, 1, none⟩ = some (.slice p ns.length c) := by
    rw [hp2.1.cell hfar.1 (hfar.2 1)]
    exact cell_new wr _ _ _ _
  have hs2 := hs.more hr2 (Put.ahead (World.keptBut_alloc wr _ _) hp2)
  exact ⟨hc2, World.block_lt_of_cell? _ _ hc2, hs2, ((HH.put HC hs2.2) k n _ ns hfk).2.2⟩

set_option maxHeartbeats 1000000 in
set_option maxRecDepth 100000 in
theorem req_any {w : World} {v : Value} {zs : List Int} (hr0 : Row w v zs) (oper : ByteArray) (a b : Int) (g cap : Nat) (fs : List Fld) (hn : fs.length ≤ 1024) (hf : Small fs) (hh : Held w g 0 fs) (hc : Clear w v g fs)
    (hb : zs.length + oper.size + 300000000 ≤ 140737488355328) (ha : a ≤ 9223372036854775807) (hbb : b ≤ 9223372036854775807) :
    Calls Yba.prog 13 #[v, .string oper, .int .i64 a, .int .i64 b, .slice (some ⟨g, 0, none⟩) fs.length cap] w (Adds v zs (headList fs.length oper a b ++ fieldsList fs) w) := by
  have h1 := encMap_len (3 + fs.length)
  have h2 := encStr_len { data := #[111, 112, 101, 114] }
  have h3 := encStr_len oper
  have h4 := encStr_len { data := #[110, 111, 100, 101, 105, 100] }
  have h5 := encInt_len a
  have h6 := encStr_len { data := #[101, 99, 104, 111] }
  have e2 : ({ data := #[111, 112, 101, 114] } : ByteArray).size = 4 := rfl
  have e4 : ({ data := #[110, 111, 100, 101, 105, 100] } : ByteArray).size = 6 := rfl
  have e6 : ({ data := #[101, 99, 104, 111] } : ByteArray).size = 4 := rfl
  have HH := hidden hh
  have HC := hidden hc
  have HF := hidden hf
  clear hh hc hf
  go_enter Yba.func13, Yba.ntmps13
  go_wp2_with (first
    | (go_at_call 25; refine (map_any hr0 _ (by omega) (by omega)).mono ?_; rintro e w1 ⟨v1, rfl, hr1, hp1⟩; have hs := Sofar.first hr1 hp1; clear hr0 hr1 hp1)
    | (go_at_call 26; refine (str_any hs.1 _ (by simp only [List.length_append]; omega)).mono ?_; rintro e w1 ⟨v1, rfl, hr1, hp1⟩; replace hs := hs.more hr1 hp1; clear hr1 hp1)
    | (go_at_call 27; refine (int_any hs.1 _ (by simp only [List.length_append]; omega) (by assumption)).mono ?_; rintro e w1 ⟨v1, rfl, hr1, hp1⟩; replace hs := hs.more hr1 hp1; clear hr1 hp1))
  go_loopw [0, 35] (fun u i wr => ∃ k : Nat, k ≤ fs.length ∧ i = .int .i64 k ∧ Sofar w v zs (headList fs.length oper a b ++ fieldsList (fs.take k)) wr u) (fun _ i _ => fs.length - (intOf i).toNat)
  case atStart => exact ⟨0, Nat.zero_le _, rfl, by simpa only [headList, fieldsList, List.take_zero, List.flatMap_nil, List.append_nil, List.append_assoc] using hs⟩
  case round =>
    clear hs h1 h2 h3 h4 h5 h6 e2 e4 e6
    obtain ⟨k, hk, rfl, hs⟩ := hrel
    have hl1 := headList_len fs.length oper a b
    have hl2 := fieldsList_len HF.out k hk
    by_cases hlt : k < fs.length
    · have hfk : fs[k]? = some (fs[k].1, fs[k].2.1, fs[k].2.2) := List.getElem?_eq_getElem hlt
      generalize fs[k].1 = n at hfk
      generalize fs[k].2.1 = x at hfk
      generalize fs[k].2.2 = ns at hfk
      obtain ⟨hs1, hs2⟩ := HF.out k n x ns hfk
      obtain ⟨c0, c1, hl⟩ := (HH.out.put HC.out hs.2) k n x ns hfk
      obtain ⟨p, c, rfl⟩ := hl.of_len
      have HN := hidden (fieldsList_next hfk)
      have hln := encStr_len n
      have i1 : (k : Int) < (fs.length : Int) := by omega
      rw [Nat.zero_add, Nat.mul_comm] at c0 c1
      have HK := hidden hfk
      clear hfk hl
      rename World => wr
      have hgg : g < wr.heap.size := World.block_lt_of_cell? _ _ c0
      go_wp2_with (first
        | (go_at_call 26; refine (str_any (hs.1.alloc _) _ (by simp only [List.length_append]; omega)).mono ?_; rintro e w2 ⟨v2, rfl, hr2, hp2⟩; obtain ⟨hc2, hz2, hs2, hl2⟩ := req_mid hs HH.out HC.out HK.out hr2 hp2; clear hs hr2 hp2 c0 c1 hgg)
        | (at_builtin; refine wpList_row rfl (.tmp 43) (.tmp 45) 37 rfl _ _ rfl hs2.1 _ ns.length ns rfl hl2.src (by simp only [List.length_append]; omega) ?_; intro v3 w3 hr3 hp3))
      go_roundw
      case rel => exact ⟨k + 1, by omega, by go_num, by rw [HN.out]; simpa only [List.append_assoc] using hs2.more hr3 hp3⟩
      case measure => simp [intOf]; omega
    · obtain rfl : k = fs.length := by omega
      have hs' := hs
      clear hs
      go_wp2
      go_ret
      exact hs'.done (by simp)

end Go.Proofs.Ybulkblam
