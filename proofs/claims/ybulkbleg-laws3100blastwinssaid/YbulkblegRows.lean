/-
  No cell of these rows narrows 'for every input' (looked for: loops, veiled, ifaces, maps, wideKeys, modest, calm, conditions, laid).
  DERIVED. THE GIVEN ROWS OF THIS SEAT. 1 by the template 'for every input the law returns true; each argument reads behind the call as it read before'; 0 by the template 'total and deterministic' (their statements: YbulkblegTotals.lean).
  GIVEN WITH THE SEED: the statements are not yours to turn. If you find one false, say at which input.
  Laid BY PROGRAM, IN A SANDBOX (cutbox-rows.mjs): the forced cells as the released guide's own fill.sh prints them over the translation ae1c9439057f20a0… (all of the seat's roots in one cut). By AI agents, Wed Nov 11 2026. No macro, syntax, notation, axiom, sorry.
-/
import Derived.Test.YbulkblegChecked
import GoSem.Claim
import GoSem.ClaimJoined
import GoSem.ClaimMapViews
import Derived.JoinedTies
import Derived.KernelRfl
namespace Go.Proofs.Ybulkbleg
/- THE CELL 'sum', in the pinned program and in every row, IS THE sha256 OF THE DUMP (.gsa) THAT YbulkblegProg.lean LOADS. Nothing in Lean hashes anything: it is a label: what it is worth is what the hold of that sum in a sandbox is worth. -/
noncomputable def Yba.pinned : Pinned := { name := "ybulkbleg", sum := "ae1c9439057f20a019edfe7622c2035df39e6e250774cbab99276641904de8d8", checked := Yba.checked }
namespace Rows
def none {H : Type} : Left H := { results := [], args := [] }

/-- 'git.LawS3100BLastWins': WHATEVER THE INPUT: true; the input reads as it did. -/
def lawS3100BLastWinsSpec : ChangeSpec := { name := "lawS3100BLastWins", fn := fun _ => fun
  | [d] => { results := [.lit (.bool true)], args := [d] }
  | _ => none }
def lawS3100BLastWinsRow : OpenClaim := { program := "ybulkbleg", sum := "ae1c9439057f20a019edfe7622c2035df39e6e250774cbab99276641904de8d8", func := "example.com/magpie/magpie/internal/git.LawS3100BLastWins", spec := "lawS3100BLastWins", apart := false }
def LawS3100BLastWinsSaid : Prop := lawS3100BLastWinsRow.holds Yba.pinned (OpenSpec.ofChange lawS3100BLastWinsSpec)

/-- ITS FALSE NEIGHBOUR: 'it returns false'. Refute it at one input. -/
def lawS3100BLastWinsWrong : ChangeSpec := { name := "lawS3100BLastWins", fn := fun _ => fun
  | [d] => { results := [.lit (.bool false)], args := [d] }
  | _ => none }
def LawS3100BLastWinsWrongFalsely : Prop := lawS3100BLastWinsRow.holds Yba.pinned (OpenSpec.ofChange lawS3100BLastWinsWrong)

end Rows
end Go.Proofs.Ybulkbleg
