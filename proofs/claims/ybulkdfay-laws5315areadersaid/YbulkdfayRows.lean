/-
  No cell of these rows narrows 'for every input' (looked for: loops, veiled, ifaces, maps, wideKeys, modest, calm, conditions, laid).
  DERIVED. THE GIVEN ROWS OF THIS SEAT. 2 by the template 'for every input the law returns true; each argument reads behind the call as it read before'; 0 by the template 'total and deterministic' (their statements: YbulkdfayTotals.lean).
  GIVEN WITH THE SEED: the statements are not yours to turn. If you find one false, say at which input.
  Laid BY PROGRAM, IN A SANDBOX (cutbox-rows.mjs): the forced cells as the released guide's own fill.sh prints them over the translation 5b9ae74bb156546e… (all of the seat's roots in one cut). By AI agents, Wed Nov 11 2026. No macro, syntax, notation, axiom, sorry.
-/
import Derived.Test.YbulkdfayChecked
import GoSem.Claim
import GoSem.ClaimJoined
import GoSem.ClaimMapViews
import Derived.JoinedTies
import Derived.KernelRfl
namespace Go.Proofs.Ybulkdfay
/- THE CELL 'sum', in the pinned program and in every row, IS THE sha256 OF THE DUMP (.gsa) THAT YbulkdfayProg.lean LOADS. Nothing in Lean hashes anything: it is a label: what it is worth is what the hold of that sum in a sandbox is worth. -/
noncomputable def Yba.pinned : Pinned := { name := "ybulkdfay", sum := "5b9ae74bb156546ec2ccd556a4359e695302668bb3c53b2994f20e277e003736", checked := Yba.checked }
namespace Rows
def none {H : Type} : Left H := { results := [], args := [] }

/-- 'message.LawS5315AReader': WHATEVER THE INPUT: true; the input reads as it did. -/
def lawS5315AReaderSpec : ChangeSpec := { name := "lawS5315AReader", fn := fun _ => fun
  | [d1, d2, d3, d4] => { results := [.lit (.bool true)], args := [d1, d2, d3, d4] }
  | _ => none }
def lawS5315AReaderRow : OpenClaim := { program := "ybulkdfay", sum := "5b9ae74bb156546ec2ccd556a4359e695302668bb3c53b2994f20e277e003736", func := "example.com/dipper/dipper/message.LawS5315AReader", spec := "lawS5315AReader", apart := false }
def LawS5315AReaderSaid : Prop := lawS5315AReaderRow.holds Yba.pinned (OpenSpec.ofChange lawS5315AReaderSpec)

/-- ITS FALSE NEIGHBOUR: 'it returns false'. Refute it at one input. -/
def lawS5315AReaderWrong : ChangeSpec := { name := "lawS5315AReader", fn := fun _ => fun
  | [d1, d2, d3, d4] => { results := [.lit (.bool false)], args := [d1, d2, d3, d4] }
  | _ => none }
def LawS5315AReaderWrongFalsely : Prop := lawS5315AReaderRow.holds Yba.pinned (OpenSpec.ofChange lawS5315AReaderWrong)

/-- 'message.LawS5315AKeepsInput': WHATEVER THE INPUT: true; the input reads as it did. -/
def lawS5315AKeepsInputSpec : ChangeSpec := { name := "lawS5315AKeepsInput", fn := fun _ => fun
  | [d1, d2] => { results := [.lit (.bool true)], args := [d1, d2] }
  | _ => none }
def lawS5315AKeepsInputRow : OpenClaim := { program := "ybulkdfay", sum := "5b9ae74bb156546ec2ccd556a4359e695302668bb3c53b2994f20e277e003736", func := "example.com/dipper/dipper/message.LawS5315AKeepsInput", spec := "lawS5315AKeepsInput", apart := false }
def LawS5315AKeepsInputSaid : Prop := lawS5315AKeepsInputRow.holds Yba.pinned (OpenSpec.ofChange lawS5315AKeepsInputSpec)

/-- ITS FALSE NEIGHBOUR: 'it returns false'. Refute it at one input. -/
def lawS5315AKeepsInputWrong : ChangeSpec := { name := "lawS5315AKeepsInput", fn := fun _ => fun
  | [d1, d2] => { results := [.lit (.bool false)], args := [d1, d2] }
  | _ => none }
def LawS5315AKeepsInputWrongFalsely : Prop := lawS5315AKeepsInputRow.holds Yba.pinned (OpenSpec.ofChange lawS5315AKeepsInputWrong)

end Rows
end Go.Proofs.Ybulkdfay
