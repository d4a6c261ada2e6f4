/-
  No cell of these rows narrows 'for every input' (looked for: loops, veiled, ifaces, maps, wideKeys, modest, calm, conditions, laid).
  DERIVED. THE GIVEN ROWS OF THIS SEAT. 1 by the template 'for every input the law returns true; each argument reads behind the call as it read before'; 0 by the template 'total and deterministic' (their statements: YbulkbrkwTotals.lean).
  GIVEN WITH THE SEED: the statements are not yours to turn. If you find one false, say at which input.
  Laid BY PROGRAM, IN A SANDBOX (cutbox-rows.mjs): the forced cells as the released guide's own fill.sh prints them over the translation 19743504abb76d60… (all of the seat's roots in one cut). By AI agents, Wed Nov 11 2026. No macro, syntax, notation, axiom, sorry.
-/
import Derived.Test.YbulkbrkwChecked
import GoSem.Claim
import GoSem.ClaimJoined
import GoSem.ClaimMapViews
import Derived.JoinedTies
import Derived.KernelRfl
namespace Go.Proofs.Ybulkbrkw
/- THE CELL 'sum', in the pinned program and in every row, IS THE sha256 OF THE DUMP (.gsa) THAT YbulkbrkwProg.lean LOADS. Nothing in Lean hashes anything: it is a label: what it is worth is what the hold of that sum in a sandbox is worth. -/
noncomputable def Yba.pinned : Pinned := { name := "ybulkbrkw", sum := "19743504abb76d60c13dfc03c04819096a587da84d9d1c2a80648855aa7757da", checked := Yba.checked }
namespace Rows
def none {H : Type} : Left H := { results := [], args := [] }

/-- 'consensus.LawS3402CSiftsDown': WHATEVER THE INPUT: true; the input reads as it did. -/
def lawS3402CSiftsDownSpec : ChangeSpec := { name := "lawS3402CSiftsDown", fn := fun _ => fun
  | [d1, d2, d3, d4] => { results := [.lit (.bool true)], args := [d1, d2, d3, d4] }
  | _ => none }
def lawS3402CSiftsDownRow : OpenClaim := { program := "ybulkbrkw", sum := "19743504abb76d60c13dfc03c04819096a587da84d9d1c2a80648855aa7757da", func := "example.com/weftledger/weftledger/consensus.LawS3402CSiftsDown", spec := "lawS3402CSiftsDown", unfollowed := true, recurses := true, apart := false }
def LawS3402CSiftsDownSaid : Prop := lawS3402CSiftsDownRow.holds Yba.pinned (OpenSpec.ofChange lawS3402CSiftsDownSpec)

/-- ITS FALSE NEIGHBOUR: 'it returns false'. Refute it at one input. -/
def lawS3402CSiftsDownWrong : ChangeSpec := { name := "lawS3402CSiftsDown", fn := fun _ => fun
  | [d1, d2, d3, d4] => { results := [.lit (.bool false)], args := [d1, d2, d3, d4] }
  | _ => none }
def LawS3402CSiftsDownWrongFalsely : Prop := lawS3402CSiftsDownRow.holds Yba.pinned (OpenSpec.ofChange lawS3402CSiftsDownWrong)

end Rows
end Go.Proofs.Ybulkbrkw
