/-
  No cell of these rows narrows 'for every input' (looked for: loops, veiled, ifaces, maps, wideKeys, modest, calm, conditions, laid).
  DERIVED. THE GIVEN ROWS OF THIS SEAT. 4 by the template 'for every input the law returns true; each argument reads behind the call as it read before'; 0 by the template 'total and deterministic' (their statements: YbulkbrkiTotals.lean).
  GIVEN WITH THE SEED: the statements are not yours to turn. If you find one false, say at which input.
  Laid BY PROGRAM, IN A SANDBOX (cutbox-rows.mjs): the forced cells as the released guide's own fill.sh prints them over the translation d8ce41fcae0825f2… (all of the seat's roots in one cut). By AI agents, Wed Nov 11 2026. No macro, syntax, notation, axiom, sorry.
-/
import Derived.Test.YbulkbrkiChecked
import GoSem.Claim
import GoSem.ClaimJoined
import GoSem.ClaimMapViews
import Derived.JoinedTies
import Derived.KernelRfl
namespace Go.Proofs.Ybulkbrki
/- THE CELL 'sum', in the pinned program and in every row, IS THE sha256 OF THE DUMP (.gsa) THAT YbulkbrkiProg.lean LOADS. Nothing in Lean hashes anything: it is a label: what it is worth is what the hold of that sum in a sandbox is worth. -/
noncomputable def Yba.pinned : Pinned := { name := "ybulkbrki", sum := "d8ce41fcae0825f2e26aa69be53f5f1ebe709141994251407db5350770b538fc", checked := Yba.checked }
namespace Rows
def none {H : Type} : Left H := { results := [], args := [] }

/-- 'fund.LawS3401AExact': WHATEVER THE INPUT: true; the input reads as it did. -/
def lawS3401AExactSpec : ChangeSpec := { name := "lawS3401AExact", fn := fun _ => fun
  | [d1, d2, d3, d4, d5] => { results := [.lit (.bool true)], args := [d1, d2, d3, d4, d5] }
  | _ => none }
def lawS3401AExactRow : OpenClaim := { program := "ybulkbrki", sum := "d8ce41fcae0825f2e26aa69be53f5f1ebe709141994251407db5350770b538fc", func := "example.com/tuoguan/tuoguan/fund.LawS3401AExact", spec := "lawS3401AExact", apart := false }
def LawS3401AExactSaid : Prop := lawS3401AExactRow.holds Yba.pinned (OpenSpec.ofChange lawS3401AExactSpec)

/-- ITS FALSE NEIGHBOUR: 'it returns false'. Refute it at one input. -/
def lawS3401AExactWrong : ChangeSpec := { name := "lawS3401AExact", fn := fun _ => fun
  | [d1, d2, d3, d4, d5] => { results := [.lit (.bool false)], args := [d1, d2, d3, d4, d5] }
  | _ => none }
def LawS3401AExactWrongFalsely : Prop := lawS3401AExactRow.holds Yba.pinned (OpenSpec.ofChange lawS3401AExactWrong)

/-- 'fund.LawS3401ANoBond': WHATEVER THE INPUT: true; the input reads as it did. -/
def lawS3401ANoBondSpec : ChangeSpec := { name := "lawS3401ANoBond", fn := fun _ => fun
  | [d1, d2, d3] => { results := [.lit (.bool true)], args := [d1, d2, d3] }
  | _ => none }
def lawS3401ANoBondRow : OpenClaim := { program := "ybulkbrki", sum := "d8ce41fcae0825f2e26aa69be53f5f1ebe709141994251407db5350770b538fc", func := "example.com/tuoguan/tuoguan/fund.LawS3401ANoBond", spec := "lawS3401ANoBond", apart := false }
def LawS3401ANoBondSaid : Prop := lawS3401ANoBondRow.holds Yba.pinned (OpenSpec.ofChange lawS3401ANoBondSpec)

/-- ITS FALSE NEIGHBOUR: 'it returns false'. Refute it at one input. -/
def lawS3401ANoBondWrong : ChangeSpec := { name := "lawS3401ANoBond", fn := fun _ => fun
  | [d1, d2, d3] => { results := [.lit (.bool false)], args := [d1, d2, d3] }
  | _ => none }
def LawS3401ANoBondWrongFalsely : Prop := lawS3401ANoBondRow.holds Yba.pinned (OpenSpec.ofChange lawS3401ANoBondWrong)

/-- 'decimal.LawS3401CExact': WHATEVER THE INPUT: true; the input reads as it did. -/
def lawS3401CExactSpec : ChangeSpec := { name := "lawS3401CExact", fn := fun _ => fun
  | [d1, d2, d3] => { results := [.lit (.bool true)], args := [d1, d2, d3] }
  | _ => none }
def lawS3401CExactRow : OpenClaim := { program := "ybulkbrki", sum := "d8ce41fcae0825f2e26aa69be53f5f1ebe709141994251407db5350770b538fc", func := "example.com/tuoguan/tuoguan/decimal.LawS3401CExact", spec := "lawS3401CExact", apart := false }
def LawS3401CExactSaid : Prop := lawS3401CExactRow.holds Yba.pinned (OpenSpec.ofChange lawS3401CExactSpec)

/-- ITS FALSE NEIGHBOUR: 'it returns false'. Refute it at one input. -/
def lawS3401CExactWrong : ChangeSpec := { name := "lawS3401CExact", fn := fun _ => fun
  | [d1, d2, d3] => { results := [.lit (.bool false)], args := [d1, d2, d3] }
  | _ => none }
def LawS3401CExactWrongFalsely : Prop := lawS3401CExactRow.holds Yba.pinned (OpenSpec.ofChange lawS3401CExactWrong)

/-- 'decimal.LawS3401CFromInt': WHATEVER THE INPUT: true; the input reads as it did. -/
def lawS3401CFromIntSpec : ChangeSpec := { name := "lawS3401CFromInt", fn := fun _ => fun
  | [d] => { results := [.lit (.bool true)], args := [d] }
  | _ => none }
def lawS3401CFromIntRow : OpenClaim := { program := "ybulkbrki", sum := "d8ce41fcae0825f2e26aa69be53f5f1ebe709141994251407db5350770b538fc", func := "example.com/tuoguan/tuoguan/decimal.LawS3401CFromInt", spec := "lawS3401CFromInt", apart := false }
def LawS3401CFromIntSaid : Prop := lawS3401CFromIntRow.holds Yba.pinned (OpenSpec.ofChange lawS3401CFromIntSpec)

/-- ITS FALSE NEIGHBOUR: 'it returns false'. Refute it at one input. -/
def lawS3401CFromIntWrong : ChangeSpec := { name := "lawS3401CFromInt", fn := fun _ => fun
  | [d] => { results := [.lit (.bool false)], args := [d] }
  | _ => none }
def LawS3401CFromIntWrongFalsely : Prop := lawS3401CFromIntRow.holds Yba.pinned (OpenSpec.ofChange lawS3401CFromIntWrong)

end Rows
end Go.Proofs.Ybulkbrki
