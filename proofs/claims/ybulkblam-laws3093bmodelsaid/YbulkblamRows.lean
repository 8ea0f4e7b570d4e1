/-
  No cell of these rows narrows 'for every input' (looked for: loops, veiled, ifaces, maps, wideKeys, modest, calm, conditions, laid).
  DERIVED. THE GIVEN ROWS OF THIS SEAT. 5 by the template 'for every input the law returns true; each argument reads behind the call as it read before'; 0 by the template 'total and deterministic' (their statements: YbulkblamTotals.lean).
  GIVEN WITH THE SEED: the statements are not yours to turn. If you find one false, say at which input.
  Laid BY PROGRAM, IN A SANDBOX (cutbox-rows.mjs): the forced cells as the released guide's own fill.sh prints them over the translation 24552195766972be… (all of the seat's roots in one cut). By AI agents, Wed Nov 11 2026. No macro, syntax, notation, axiom, sorry.
-/
import Derived.Test.YbulkblamChecked
import GoSem.Claim
import GoSem.ClaimJoined
import GoSem.ClaimMapViews
import Derived.JoinedTies
import Derived.KernelRfl
namespace Go.Proofs.Ybulkblam
/- THE CELL 'sum', in the pinned program and in every row, IS THE sha256 OF THE DUMP (.gsa) THAT YbulkblamProg.lean LOADS. Nothing in Lean hashes anything: it is a label: what it is worth is what the hold of that sum in a sandbox is worth. -/
noncomputable def Yba.pinned : Pinned := { name := "ybulkblam", sum := "24552195766972be2d8a322794dc9df79c0a4251e988450b628fa4a9851f3a58", checked := Yba.checked }
namespace Rows
def none {H : Type} : Left H := { results := [], args := [] }

/-- 'protocol.LawS3093AModel': WHATEVER THE INPUT: true; the input reads as it did. -/
def lawS3093AModelSpec : ChangeSpec := { name := "lawS3093AModel", fn := fun _ => fun
  | [d1, d2, d3, d4] => { results := [.lit (.bool true)], args := [d1, d2, d3, d4] }
  | _ => none }
def lawS3093AModelRow : OpenClaim := { program := "ybulkblam", sum := "24552195766972be2d8a322794dc9df79c0a4251e988450b628fa4a9851f3a58", func := "example.com/pebblemesh/pebblemesh/protocol.LawS3093AModel", spec := "lawS3093AModel", inPlace := ["math/bits.Sub64"], named := ["encoding/binary.LittleEndian"], apart := false }
def LawS3093AModelSaid : Prop := lawS3093AModelRow.holds Yba.pinned (OpenSpec.ofChange lawS3093AModelSpec)

/-- ITS FALSE NEIGHBOUR: 'it returns false'. Refute it at one input. -/
def lawS3093AModelWrong : ChangeSpec := { name := "lawS3093AModel", fn := fun _ => fun
  | [d1, d2, d3, d4] => { results := [.lit (.bool false)], args := [d1, d2, d3, d4] }
  | _ => none }
def LawS3093AModelWrongFalsely : Prop := lawS3093AModelRow.holds Yba.pinned (OpenSpec.ofChange lawS3093AModelWrong)

/-- 'protocol.LawS3093AInt': WHATEVER THE INPUT: true; the input reads as it did. -/
def lawS3093AIntSpec : ChangeSpec := { name := "lawS3093AInt", fn := fun _ => fun
  | [d1, d2] => { results := [.lit (.bool true)], args := [d1, d2] }
  | _ => none }
def lawS3093AIntRow : OpenClaim := { program := "ybulkblam", sum := "24552195766972be2d8a322794dc9df79c0a4251e988450b628fa4a9851f3a58", func := "example.com/pebblemesh/pebblemesh/protocol.LawS3093AInt", spec := "lawS3093AInt", named := ["encoding/binary.LittleEndian"], apart := false }
def LawS3093AIntSaid : Prop := lawS3093AIntRow.holds Yba.pinned (OpenSpec.ofChange lawS3093AIntSpec)

/-- ITS FALSE NEIGHBOUR: 'it returns false'. Refute it at one input. -/
def lawS3093AIntWrong : ChangeSpec := { name := "lawS3093AInt", fn := fun _ => fun
  | [d1, d2] => { results := [.lit (.bool false)], args := [d1, d2] }
  | _ => none }
def LawS3093AIntWrongFalsely : Prop := lawS3093AIntRow.holds Yba.pinned (OpenSpec.ofChange lawS3093AIntWrong)

/-- 'protocol.LawS3093ANext': WHATEVER THE INPUT: true; the input reads as it did. -/
def lawS3093ANextSpec : ChangeSpec := { name := "lawS3093ANext", fn := fun _ => fun
  | [d1, d2] => { results := [.lit (.bool true)], args := [d1, d2] }
  | _ => none }
def lawS3093ANextRow : OpenClaim := { program := "ybulkblam", sum := "24552195766972be2d8a322794dc9df79c0a4251e988450b628fa4a9851f3a58", func := "example.com/pebblemesh/pebblemesh/protocol.LawS3093ANext", spec := "lawS3093ANext", named := ["encoding/binary.LittleEndian"], apart := false }
def LawS3093ANextSaid : Prop := lawS3093ANextRow.holds Yba.pinned (OpenSpec.ofChange lawS3093ANextSpec)

/-- ITS FALSE NEIGHBOUR: 'it returns false'. Refute it at one input. -/
def lawS3093ANextWrong : ChangeSpec := { name := "lawS3093ANext", fn := fun _ => fun
  | [d1, d2] => { results := [.lit (.bool false)], args := [d1, d2] }
  | _ => none }
def LawS3093ANextWrongFalsely : Prop := lawS3093ANextRow.holds Yba.pinned (OpenSpec.ofChange lawS3093ANextWrong)

/-- 'protocol.LawS3093BModel': WHATEVER THE INPUT: true; the input reads as it did. -/
def lawS3093BModelSpec : ChangeSpec := { name := "lawS3093BModel", fn := fun _ => fun
  | [d1, d2, d3, d4, d5] => { results := [.lit (.bool true)], args := [d1, d2, d3, d4, d5] }
  | _ => none }
def lawS3093BModelRow : OpenClaim := { program := "ybulkblam", sum := "24552195766972be2d8a322794dc9df79c0a4251e988450b628fa4a9851f3a58", func := "example.com/pebblemesh/pebblemesh/protocol.LawS3093BModel", spec := "lawS3093BModel", named := ["encoding/binary.BigEndian"], apart := false }
def LawS3093BModelSaid : Prop := lawS3093BModelRow.holds Yba.pinned (OpenSpec.ofChange lawS3093BModelSpec)

/-- ITS FALSE NEIGHBOUR: 'it returns false'. Refute it at one input. -/
def lawS3093BModelWrong : ChangeSpec := { name := "lawS3093BModel", fn := fun _ => fun
  | [d1, d2, d3, d4, d5] => { results := [.lit (.bool false)], args := [d1, d2, d3, d4, d5] }
  | _ => none }
def LawS3093BModelWrongFalsely : Prop := lawS3093BModelRow.holds Yba.pinned (OpenSpec.ofChange lawS3093BModelWrong)

/-- 'protocol.LawS3093BHistory': WHATEVER THE INPUT: true; the input reads as it did. -/
def lawS3093BHistorySpec : ChangeSpec := { name := "lawS3093BHistory", fn := fun _ => fun
  | [d1, d2, d3, d4] => { results := [.lit (.bool true)], args := [d1, d2, d3, d4] }
  | _ => none }
def lawS3093BHistoryRow : OpenClaim := { program := "ybulkblam", sum := "24552195766972be2d8a322794dc9df79c0a4251e988450b628fa4a9851f3a58", func := "example.com/pebblemesh/pebblemesh/protocol.LawS3093BHistory", spec := "lawS3093BHistory", named := ["encoding/binary.BigEndian"], apart := false }
def LawS3093BHistorySaid : Prop := lawS3093BHistoryRow.holds Yba.pinned (OpenSpec.ofChange lawS3093BHistorySpec)

/-- ITS FALSE NEIGHBOUR: 'it returns false'. Refute it at one input. -/
def lawS3093BHistoryWrong : ChangeSpec := { name := "lawS3093BHistory", fn := fun _ => fun
  | [d1, d2, d3, d4] => { results := [.lit (.bool false)], args := [d1, d2, d3, d4] }
  | _ => none }
def LawS3093BHistoryWrongFalsely : Prop := lawS3093BHistoryRow.holds Yba.pinned (OpenSpec.ofChange lawS3093BHistoryWrong)

end Rows
end Go.Proofs.Ybulkblam
