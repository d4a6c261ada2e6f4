/-
  No cell of these rows narrows 'for every input' (looked for: loops, veiled, ifaces, maps, wideKeys, modest, calm, conditions, laid).
  DERIVED. THE GIVEN ROWS OF THIS SEAT. 4 by the template 'for every input the law returns true; each argument reads behind the call as it read before'; 0 by the template 'total and deterministic' (their statements: YbulkbrmmTotals.lean).
  GIVEN WITH THE SEED: the statements are not yours to turn. If you find one false, say at which input.
  Laid BY PROGRAM, IN A SANDBOX (cutbox-rows.mjs): the forced cells as the released guide's own fill.sh prints them over the translation d448e1360b3c051d… (all of the seat's roots in one cut). By AI agents, Wed Nov 11 2026. No macro, syntax, notation, axiom, sorry.
-/
import Derived.Test.YbulkbrmmChecked
import GoSem.Claim
import GoSem.ClaimJoined
import GoSem.ClaimMapViews
import Derived.JoinedTies
import Derived.KernelRfl
namespace Go.Proofs.Ybulkbrmm
/- THE CELL 'sum', in the pinned program and in every row, IS THE sha256 OF THE DUMP (.gsa) THAT YbulkbrmmProg.lean LOADS. Nothing in Lean hashes anything: it is a label: what it is worth is what the hold of that sum in a sandbox is worth. -/
noncomputable def Yba.pinned : Pinned := { name := "ybulkbrmm", sum := "d448e1360b3c051d3c0dfcbf45c86923abe66cb88d03b553b867f1b74c25e7f8", checked := Yba.checked }
namespace Rows
def none {H : Type} : Left H := { results := [], args := [] }

/-- 'seriatim.LawS3405BUnlink': WHATEVER THE INPUT: true; the input reads as it did. -/
def lawS3405BUnlinkSpec : ChangeSpec := { name := "lawS3405BUnlink", fn := fun _ => fun
  | [d1, d2] => { results := [.lit (.bool true)], args := [d1, d2] }
  | _ => none }
def lawS3405BUnlinkRow : OpenClaim := { program := "ybulkbrmm", sum := "d448e1360b3c051d3c0dfcbf45c86923abe66cb88d03b553b867f1b74c25e7f8", func := "example.com/seriatim/seriatim.LawS3405BUnlink", spec := "lawS3405BUnlink", apart := false }
def LawS3405BUnlinkSaid : Prop := lawS3405BUnlinkRow.holds Yba.pinned (OpenSpec.ofChange lawS3405BUnlinkSpec)

/-- ITS FALSE NEIGHBOUR: 'it returns false'. Refute it at one input. -/
def lawS3405BUnlinkWrong : ChangeSpec := { name := "lawS3405BUnlink", fn := fun _ => fun
  | [d1, d2] => { results := [.lit (.bool false)], args := [d1, d2] }
  | _ => none }
def LawS3405BUnlinkWrongFalsely : Prop := lawS3405BUnlinkRow.holds Yba.pinned (OpenSpec.ofChange lawS3405BUnlinkWrong)

/-- 'seriatim.LawS3405BRequeue': WHATEVER THE INPUT: true; the input reads as it did. -/
def lawS3405BRequeueSpec : ChangeSpec := { name := "lawS3405BRequeue", fn := fun _ => fun
  | [d1, d2, d3] => { results := [.lit (.bool true)], args := [d1, d2, d3] }
  | _ => none }
def lawS3405BRequeueRow : OpenClaim := { program := "ybulkbrmm", sum := "d448e1360b3c051d3c0dfcbf45c86923abe66cb88d03b553b867f1b74c25e7f8", func := "example.com/seriatim/seriatim.LawS3405BRequeue", spec := "lawS3405BRequeue", apart := false }
def LawS3405BRequeueSaid : Prop := lawS3405BRequeueRow.holds Yba.pinned (OpenSpec.ofChange lawS3405BRequeueSpec)

/-- ITS FALSE NEIGHBOUR: 'it returns false'. Refute it at one input. -/
def lawS3405BRequeueWrong : ChangeSpec := { name := "lawS3405BRequeue", fn := fun _ => fun
  | [d1, d2, d3] => { results := [.lit (.bool false)], args := [d1, d2, d3] }
  | _ => none }
def LawS3405BRequeueWrongFalsely : Prop := lawS3405BRequeueRow.holds Yba.pinned (OpenSpec.ofChange lawS3405BRequeueWrong)

/-- 'seriatim.LawS3405CExact': WHATEVER THE INPUT: true; the input reads as it did. -/
def lawS3405CExactSpec : ChangeSpec := { name := "lawS3405CExact", fn := fun _ => fun
  | [d1, d2, d3, d4, d5, d6] => { results := [.lit (.bool true)], args := [d1, d2, d3, d4, d5, d6] }
  | _ => none }
def lawS3405CExactRow : OpenClaim := { program := "ybulkbrmm", sum := "d448e1360b3c051d3c0dfcbf45c86923abe66cb88d03b553b867f1b74c25e7f8", func := "example.com/seriatim/seriatim.LawS3405CExact", spec := "lawS3405CExact", apart := false }
def LawS3405CExactSaid : Prop := lawS3405CExactRow.holds Yba.pinned (OpenSpec.ofChange lawS3405CExactSpec)

/-- ITS FALSE NEIGHBOUR: 'it returns false'. Refute it at one input. -/
def lawS3405CExactWrong : ChangeSpec := { name := "lawS3405CExact", fn := fun _ => fun
  | [d1, d2, d3, d4, d5, d6] => { results := [.lit (.bool false)], args := [d1, d2, d3, d4, d5, d6] }
  | _ => none }
def LawS3405CExactWrongFalsely : Prop := lawS3405CExactRow.holds Yba.pinned (OpenSpec.ofChange lawS3405CExactWrong)

/-- 'seriatim.LawS3405CCloses': WHATEVER THE INPUT: true; the input reads as it did. -/
def lawS3405CClosesSpec : ChangeSpec := { name := "lawS3405CCloses", fn := fun _ => fun
  | [d1, d2, d3, d4, d5, d6, d7] => { results := [.lit (.bool true)], args := [d1, d2, d3, d4, d5, d6, d7] }
  | _ => none }
def lawS3405CClosesRow : OpenClaim := { program := "ybulkbrmm", sum := "d448e1360b3c051d3c0dfcbf45c86923abe66cb88d03b553b867f1b74c25e7f8", func := "example.com/seriatim/seriatim.LawS3405CCloses", spec := "lawS3405CCloses", apart := false }
def LawS3405CClosesSaid : Prop := lawS3405CClosesRow.holds Yba.pinned (OpenSpec.ofChange lawS3405CClosesSpec)

/-- ITS FALSE NEIGHBOUR: 'it returns false'. Refute it at one input. -/
def lawS3405CClosesWrong : ChangeSpec := { name := "lawS3405CCloses", fn := fun _ => fun
  | [d1, d2, d3, d4, d5, d6, d7] => { results := [.lit (.bool false)], args := [d1, d2, d3, d4, d5, d6, d7] }
  | _ => none }
def LawS3405CClosesWrongFalsely : Prop := lawS3405CClosesRow.holds Yba.pinned (OpenSpec.ofChange lawS3405CClosesWrong)

end Rows
end Go.Proofs.Ybulkbrmm
