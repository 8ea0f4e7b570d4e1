/-
  No cell of these rows narrows 'for every input' (looked for: loops, veiled, ifaces, maps, wideKeys, modest, calm, conditions, laid).
  DERIVED. THE GIVEN ROWS OF THIS SEAT. 2 by the template 'for every input the law returns true; each argument reads behind the call as it read before'; 0 by the template 'total and deterministic' (their statements: YbulkbkxgTotals.lean).
  GIVEN WITH THE SEED: the statements are not yours to turn. If you find one false, say at which input.
  Laid BY PROGRAM, IN A SANDBOX (cutbox-rows.mjs): the forced cells as the released guide's own fill.sh prints them over the translation 88e23bc811271fca… (all of the seat's roots in one cut). By AI agents, Wed Nov 11 2026. No macro, syntax, notation, axiom, sorry.
-/
import Derived.Test.YbulkbkxgChecked
import GoSem.Claim
import GoSem.ClaimJoined
import GoSem.ClaimMapViews
import Derived.JoinedTies
import Derived.KernelRfl
namespace Go.Proofs.Ybulkbkxg
/- THE CELL 'sum', in the pinned program and in every row, IS THE sha256 OF THE DUMP (.gsa) THAT YbulkbkxgProg.lean LOADS. Nothing in Lean hashes anything: it is a label: what it is worth is what the hold of that sum in a sandbox is worth. -/
noncomputable def Yba.pinned : Pinned := { name := "ybulkbkxg", sum := "88e23bc811271fca6d3c2bea961b7ed3de2b65fffa5293b7cc5366c621132937", checked := Yba.checked }
namespace Rows
def none {H : Type} : Left H := { results := [], args := [] }

/-- 'check.LawS3087AMark': WHATEVER THE INPUT: true; the input reads as it did. -/
def lawS3087AMarkSpec : ChangeSpec := { name := "lawS3087AMark", fn := fun _ => fun
  | [d1, d2, d3, d4] => { results := [.lit (.bool true)], args := [d1, d2, d3, d4] }
  | _ => none }
def lawS3087AMarkRow : OpenClaim := { program := "ybulkbkxg", sum := "88e23bc811271fca6d3c2bea961b7ed3de2b65fffa5293b7cc5366c621132937", func := "example.com/oriel/oriel/internal/check.LawS3087AMark", spec := "lawS3087AMark", apart := false }
def LawS3087AMarkSaid : Prop := lawS3087AMarkRow.holds Yba.pinned (OpenSpec.ofChange lawS3087AMarkSpec)

/-- ITS FALSE NEIGHBOUR: 'it returns false'. Refute it at one input. -/
def lawS3087AMarkWrong : ChangeSpec := { name := "lawS3087AMark", fn := fun _ => fun
  | [d1, d2, d3, d4] => { results := [.lit (.bool false)], args := [d1, d2, d3, d4] }
  | _ => none }
def LawS3087AMarkWrongFalsely : Prop := lawS3087AMarkRow.holds Yba.pinned (OpenSpec.ofChange lawS3087AMarkWrong)

/-- 'check.LawS3087AScript': WHATEVER THE INPUT: true; the input reads as it did. -/
def lawS3087AScriptSpec : ChangeSpec := { name := "lawS3087AScript", fn := fun _ => fun
  | [d] => { results := [.lit (.bool true)], args := [d] }
  | _ => none }
def lawS3087AScriptRow : OpenClaim := { program := "ybulkbkxg", sum := "88e23bc811271fca6d3c2bea961b7ed3de2b65fffa5293b7cc5366c621132937", func := "example.com/oriel/oriel/internal/check.LawS3087AScript", spec := "lawS3087AScript", apart := false }
def LawS3087AScriptSaid : Prop := lawS3087AScriptRow.holds Yba.pinned (OpenSpec.ofChange lawS3087AScriptSpec)

/-- ITS FALSE NEIGHBOUR: 'it returns false'. Refute it at one input. -/
def lawS3087AScriptWrong : ChangeSpec := { name := "lawS3087AScript", fn := fun _ => fun
  | [d] => { results := [.lit (.bool false)], args := [d] }
  | _ => none }
def LawS3087AScriptWrongFalsely : Prop := lawS3087AScriptRow.holds Yba.pinned (OpenSpec.ofChange lawS3087AScriptWrong)

end Rows
end Go.Proofs.Ybulkbkxg
