/-
  No cell of these rows narrows 'for every input' (looked for: loops, veiled, ifaces, maps, wideKeys, modest, calm, conditions, laid).
  DERIVED. THE GIVEN ROWS OF THIS SEAT. 2 by the template 'for every input the law returns true; each argument reads behind the call as it read before'; 0 by the template 'total and deterministic' (their statements: YbulkdfeeTotals.lean).
  GIVEN WITH THE SEED: the statements are not yours to turn. If you find one false, say at which input.
  Laid BY PROGRAM, IN A SANDBOX (cutbox-rows.mjs): the forced cells as the released guide's own fill.sh prints them over the translation 2591f80f405e6043… (all of the seat's roots in one cut). By AI agents, Wed Nov 11 2026. No macro, syntax, notation, axiom, sorry.
-/
import Derived.Test.YbulkdfeeChecked
import GoSem.Claim
import GoSem.ClaimJoined
import GoSem.ClaimMapViews
import Derived.JoinedTies
import Derived.KernelRfl
namespace Go.Proofs.Ybulkdfee
/- THE CELL 'sum', in the pinned program and in every row, IS THE sha256 OF THE DUMP (.gsa) THAT YbulkdfeeProg.lean LOADS. Nothing in Lean hashes anything: it is a label: what it is worth is what the hold of that sum in a sandbox is worth. -/
noncomputable def Yba.pinned : Pinned := { name := "ybulkdfee", sum := "2591f80f405e60439e0ab3b788b7ece4727d654c31f7c5e50cdd3d5bdb881507", checked := Yba.checked }
namespace Rows
def none {H : Type} : Left H := { results := [], args := [] }

/-- 'seriatim.LawS5321AExact': WHATEVER THE INPUT: true; the input reads as it did. -/
def lawS5321AExactSpec : ChangeSpec := { name := "lawS5321AExact", fn := fun _ => fun
  | [d1, d2, d3] => { results := [.lit (.bool true)], args := [d1, d2, d3] }
  | _ => none }
def lawS5321AExactRow : OpenClaim := { program := "ybulkdfee", sum := "2591f80f405e60439e0ab3b788b7ece4727d654c31f7c5e50cdd3d5bdb881507", func := "example.com/seriatim/seriatim.LawS5321AExact", spec := "lawS5321AExact", unfollowed := true, recurses := true, apart := false }
def LawS5321AExactSaid : Prop := lawS5321AExactRow.holds Yba.pinned (OpenSpec.ofChange lawS5321AExactSpec)

/-- ITS FALSE NEIGHBOUR: 'it returns false'. Refute it at one input. -/
def lawS5321AExactWrong : ChangeSpec := { name := "lawS5321AExact", fn := fun _ => fun
  | [d1, d2, d3] => { results := [.lit (.bool false)], args := [d1, d2, d3] }
  | _ => none }
def LawS5321AExactWrongFalsely : Prop := lawS5321AExactRow.holds Yba.pinned (OpenSpec.ofChange lawS5321AExactWrong)

/-- 'seriatim.LawS5321CStep': WHATEVER THE INPUT: true; the input reads as it did. -/
def lawS5321CStepSpec : ChangeSpec := { name := "lawS5321CStep", fn := fun _ => fun
  | [d1, d2, d3, d4, d5] => { results := [.lit (.bool true)], args := [d1, d2, d3, d4, d5] }
  | _ => none }
def lawS5321CStepRow : OpenClaim := { program := "ybulkdfee", sum := "2591f80f405e60439e0ab3b788b7ece4727d654c31f7c5e50cdd3d5bdb881507", func := "example.com/seriatim/seriatim.LawS5321CStep", spec := "lawS5321CStep", apart := false }
def LawS5321CStepSaid : Prop := lawS5321CStepRow.holds Yba.pinned (OpenSpec.ofChange lawS5321CStepSpec)

/-- ITS FALSE NEIGHBOUR: 'it returns false'. Refute it at one input. -/
def lawS5321CStepWrong : ChangeSpec := { name := "lawS5321CStep", fn := fun _ => fun
  | [d1, d2, d3, d4, d5] => { results := [.lit (.bool false)], args := [d1, d2, d3, d4, d5] }
  | _ => none }
def LawS5321CStepWrongFalsely : Prop := lawS5321CStepRow.holds Yba.pinned (OpenSpec.ofChange lawS5321CStepWrong)

end Rows
end Go.Proofs.Ybulkdfee
