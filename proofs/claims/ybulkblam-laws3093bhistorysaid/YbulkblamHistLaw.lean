import Derived.Test.YbulkblamHist
namespace Go.Proofs.Ybulkblam
open Go.RowKit
set_option linter.unusedVariables false
set_option linter.unusedSimpArgs false

/-- AppendRequest to nil, of two fields that lie in the newest block. -/
theorem req_two (w : World) (oper : ByteArray) (a b : Int) (n1 n2 : ByteArray) (p1 p2 : Option Addr) (c1 c2 : Nat) (ns1 ns2 : List Int) (t : TypeId) (hl1 : Lies w (.slice p1 ns1.length c1) ns1) (hl2 : Lies w (.slice p2 ns2.length c2) ns2)
    (s1 : n1.size ≤ 131072) (s2 : n2.size ≤ 131072) (m1 : ns1.length ≤ 131080) (m2 : ns2.length ≤ 131080) (ho : oper.size ≤ 131072) (ha : a ≤ 9223372036854775807) (hbb : b ≤ 9223372036854775807) :
    Calls Yba.prog 13 #[.slice none 0 0, .string oper, .int .i64 a, .int .i64 b, .slice (some ⟨w.heap.size, 0, none⟩) 2 2] (w.alloc (.cells #[.string n1, .slice p1 ns1.length c1, .string n2, .slice p2 ns2.length c2] t))
      fun e w' => ∃ v', e = .returned v' ∧ Row w' v' (headList 2 oper a b ++ (encStr n1 ++ (ns1 ++ (encStr n2 ++ ns2)))) ∧ w.keptBut w' (fun _ => False) := by
  have ka := World.keptBut_alloc w (.cells #[.string n1, .slice p1 ns1.length c1, .string n2, .slice p2 ns2.length c2] t) (fun _ => False)
  have hcn := cell_new w #[.string n1, .slice p1 ns1.length c1, .string n2, .slice p2 ns2.length c2] t (0, 0)
  have hh : Held (w.alloc (.cells #[.string n1, .slice p1 ns1.length c1, .string n2, .slice p2 ns2.length c2] t)) w.heap.size 0 [(n1, .slice p1 ns1.length c1, ns1), (n2, .slice p2 ns2.length c2, ns2)] := by
    intro k n x ns hk
    match k, hk with
    | 0, hk =>
      simp at hk
      obtain ⟨rfl, rfl, rfl⟩ := hk
      exact ⟨hcn 0, hcn 1, hl1.old ka⟩
    | 1, hk =>
      simp at hk
      obtain ⟨rfl, rfl, rfl⟩ := hk
      exact ⟨hcn 2, hcn 3, hl2.old ka⟩
    | k + 2, hk => simp at hk
  refine (req_any (row_nil _) oper a b w.heap.size 2 [(n1, .slice p1 ns1.length c1, ns1), (n2, .slice p2 ns2.length c2, ns2)] (by simp) ?_ hh (hh.clear (by simp)) (by simp; omega) ha hbb).mono ?_
  · intro k n x ns hk
    match k, hk with
    | 0, hk =>
      simp at hk
      obtain ⟨rfl, rfl, rfl⟩ := hk
      exact ⟨s1, m1⟩
    | 1, hk =>
      simp at hk
      obtain ⟨rfl, rfl, rfl⟩ := hk
      exact ⟨s2, m2⟩
    | k + 2, hk => simp at hk
  · rintro e w' ⟨v', rfl, hr, hp⟩
    exact ⟨v', rfl, by simpa [fieldsList] using hr, kept_trans ka hp.nil⟩

set_option maxHeartbeats 1000000 in
set_option maxRecDepth 100000 in
theorem hist_long (s : ByteArray) (x a b : Int) (w : World) (hs : ¬ s.size ≤ 131072) :
    Calls Yba.prog 7 #[.string s, .int .u64 x, .int .i64 a, .int .i64 b] w fun e w' => e = .returned (.bool true) ∧ w.keptBut w' (fun _ => False) := by
  have i1 : (131072 : Int) < (s.size : Int) := by omega
  go_enter Yba.func7, Yba.ntmps7
  go_wp2
  go_ret
  exact ⟨rfl, World.keptBut_refl _ _⟩

set_option maxHeartbeats 1000000 in
set_option maxRecDepth 100000 in
theorem hist_walk (s : ByteArray) (x a b : Int) (w : World) (hs : s.size ≤ 131072) (ha : a ≤ 9223372036854775807) (hbb : b ≤ 9223372036854775807) :
    Calls Yba.prog 7 #[.string s, .int .u64 x, .int .i64 a, .int .i64 b] w fun e w' => e = .returned (.bool true) ∧ w.keptBut w' (fun _ => False) := by
  have h1 := headList_len 2 { data := #[72, 73, 83, 84, 79, 82, 89] } a b
  have h2 := encStr_len { data := #[107, 101, 121] }
  have h3 := encStr_len s
  have h4 := encStr_len { data := #[98, 101, 102, 111, 114, 101] }
  have h5 := encUint_len x
  have e1 : ({ data := #[72, 73, 83, 84, 79, 82, 89] } : ByteArray).size = 7 := rfl
  have e2 : ({ data := #[107, 101, 121] } : ByteArray).size = 3 := rfl
  have e4 : ({ data := #[98, 101, 102, 111, 114, 101] } : ByteArray).size = 6 := rfl
  have i1 : ¬ (131072 : Int) < (s.size : Int) := by omega
  go_enter Yba.func7, Yba.ntmps7
  go_wp2_with (first
    | (go_at_call 17; refine (key_any _ s hs).mono ?_; rintro e w1 ⟨p1, c1, rfl, hl1, hk1⟩)
    | (go_at_call 18; refine (before_any _ x).mono ?_; rintro e w2 ⟨p2, c2, rfl, hl2, hk2⟩; replace hl1 := hl1.old hk2; replace hk1 := kept_trans hk1 hk2; clear hk2)
    | (go_at_call 13; refine (req_two _ _ a b _ _ p1 p2 c1 c2 _ _ _ hl1 hl2 (by omega) (by omega) (by omega) (by omega) (by omega) ha hbb).mono ?_; rintro e w3 ⟨v3, rfl, hr3, hk3⟩; replace hk1 := kept_trans hk1 hk3; have hg := hr3.lies; clear hk3 hl1 hl2 hr3)
    | (go_at_call 14; refine (zhead_any (row_nil _) 2 _ a b (by omega) (by omega) (by simp only [List.length_nil]; omega) ha hbb).mono ?_; rintro e w4 ⟨v4, rfl, hr4, hp4⟩; have hS := Sofar.first hr4 hp4; clear hr4 hp4)
    | (go_at_call 15; refine (zstr_any hS.1 _ (by simp only [List.length_append, List.length_nil]; omega)).mono ?_; rintro e w5 ⟨v5, rfl, hr5, hp5⟩; replace hS := hS.more hr5 hp5; clear hr5 hp5)
    | (go_at_call 19; refine (zuint_any hS.1 _ (by simp only [List.length_append, List.length_nil]; omega)).mono ?_; rintro e w5 ⟨v5, rfl, hr5, hp5⟩; replace hS := hS.more hr5 hp5; clear hr5 hp5; replace hg := hg.old hS.2.nil; have hL := hS.1.lies; simp only [List.nil_append, List.append_assoc] at hL; replace hk1 := kept_trans hk1 hS.2.nil)
    | (go_at_call 16; refine (equal_any hg hL).mono ?_; rintro e w6 ⟨rfl, rfl⟩))
  go_ret
  exact ⟨rfl, hk1⟩

end Go.Proofs.Ybulkblam
