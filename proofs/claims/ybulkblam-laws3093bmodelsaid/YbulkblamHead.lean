import Derived.Test.YbulkblamStr2
import Derived.Test.YbulkblamLies
namespace Go.Proofs.Ybulkblam
open Go.RowKit
set_option linter.unusedVariables false
set_option linter.unusedSimpArgs false

theorem encMap_len (x : Int) : (encMap x).length ≤ 5 := by
  unfold encMap
  repeat' split
  all_goals simp [beTop_len]

abbrev sOper : ByteArray := { data := #[111, 112, 101, 114] }
abbrev sNode : ByteArray := { data := #[110, 111, 100, 101, 105, 100] }
abbrev sEcho : ByteArray := { data := #[101, 99, 104, 111] }

/-- The head of a request. -/
def headList (n : Int) (oper : ByteArray) (a b : Int) : List Int :=
  encMap (3 + n) ++ (encStr sOper ++ (encStr oper ++ (encStr sNode ++ (encInt a ++ (encStr sEcho ++ encInt b)))))

theorem headList_len (n : Int) (oper : ByteArray) (a b : Int) : (headList n oper a b).length ≤ oper.size + 62 := by
  have h1 := encMap_len (3 + n)
  have h2 := encStr_len sOper
  have h3 := encStr_len oper
  have h4 := encStr_len sNode
  have h5 := encInt_len a
  have h6 := encStr_len sEcho
  have h7 := encInt_len b
  have e2 : sOper.size = 4 := rfl
  have e4 : sNode.size = 6 := rfl
  have e6 : sEcho.size = 4 := rfl
  simp only [headList, List.length_append]
  omega

/-- So far: the bytes us have been appended to zs. -/
def Sofar (w : World) (v : Value) (zs : List Int) (us : List Int) (w' : World) (v' : Value) : Prop := Row w' v' (zs ++ us) ∧ Put w v w' v'

theorem Sofar.more {w w1 w2 : World} {v v1 v2 : Value} {zs us ns : List Int} (h : Sofar w v zs us w1 v1) (hr : Row w2 v2 ((zs ++ us) ++ ns)) (hp : Put w1 v1 w2 v2) : Sofar w v zs (us ++ ns) w2 v2 :=
  ⟨by rw [← List.append_assoc]; exact hr, h.2.trans hp⟩

theorem Sofar.done {w w' : World} {v v' : Value} {zs us ns : List Int} (h : Sofar w v zs us w' v') (e : us = ns) : Adds v zs ns w (.returned v') w' := by
  subst e
  exact ⟨_, rfl, h.1, h.2⟩

theorem Sofar.first {w w2 : World} {v v2 : Value} {zs ns : List Int} (hr : Row w2 v2 (zs ++ ns)) (hp : Put w v w2 v2) : Sofar w v zs ns w2 v2 := ⟨hr, hp⟩

set_option maxHeartbeats 1000000 in
set_option maxRecDepth 100000 in
theorem zhead_any {w : World} {v : Value} {zs : List Int} (hr0 : Row w v zs) (n : Int) (oper : ByteArray) (a b : Int) (hn : 0 ≤ n) (hn2 : n ≤ 4096) (hb : zs.length + oper.size + 128 ≤ 140737488355328) (ha : a ≤ 9223372036854775807) (hbb : b ≤ 9223372036854775807) :
    Calls Yba.prog 14 #[v, .int .i64 n, .string oper, .int .i64 a, .int .i64 b] w (Adds v zs (headList n oper a b) w) := by
  have h1 := encMap_len (3 + n)
  have h2 := encStr_len { data := #[111, 112, 101, 114] }
  have h3 := encStr_len oper
  have h4 := encStr_len { data := #[110, 111, 100, 101, 105, 100] }
  have h5 := encInt_len a
  have h6 := encStr_len { data := #[101, 99, 104, 111] }
  have e2 : ({ data := #[111, 112, 101, 114] } : ByteArray).size = 4 := rfl
  have e4 : ({ data := #[110, 111, 100, 101, 105, 100] } : ByteArray).size = 6 := rfl
  have e6 : ({ data := #[101, 99, 104, 111] } : ByteArray).size = 4 := rfl
  go_enter Yba.func14, Yba.ntmps14
  go_wp2_with (first
    | (go_at_call 28; refine (zmap_any hr0 _ (by omega) (by omega)).mono ?_; rintro e w1 ⟨v1, rfl, hr1, hp1⟩; have hs := Sofar.first hr1 hp1; clear hr0 hr1 hp1)
    | (go_at_call 15; refine (zstr_any hs.1 _ (by simp only [List.length_append]; omega)).mono ?_; rintro e w1 ⟨v1, rfl, hr1, hp1⟩; replace hs := hs.more hr1 hp1; clear hr1 hp1)
    | (go_at_call 29; refine (zint_any hs.1 _ (by simp only [List.length_append]; omega) (by assumption)).mono ?_; rintro e w1 ⟨v1, rfl, hr1, hp1⟩; replace hs := hs.more hr1 hp1; clear hr1 hp1))
  go_ret
  exact hs.done (by simp only [headList, List.append_assoc])

end Go.Proofs.Ybulkblam
