/-
  No cell of these rows narrows 'for every input' (looked for: loops, veiled, ifaces, maps, wideKeys, modest, calm, conditions, laid).
  DERIVED. THE GIVEN ROWS OF THIS SEAT. 3 by the template 'for every input the law returns true; each argument reads behind the call as it read before'; 0 by the template 'total and deterministic' (their statements: YbulkdfgwTotals.lean).
  GIVEN WITH THE SEED: the statements are not yours to turn. If you find one false, say at which input.
  Laid BY PROGRAM, IN A SANDBOX (cutbox-rows.mjs): the forced cells as the released guide's own fill.sh prints them over the translation 9ffcfd57ebb6c303… (all of the seat's roots in one cut). By AI agents, Wed Nov 11 2026. No macro, syntax, notation, axiom, sorry.
-/
import Derived.Test.YbulkdfgwChecked
import GoSem.Claim
import GoSem.ClaimJoined
import GoSem.ClaimMapViews
import Derived.JoinedTies
import Derived.KernelRfl
namespace Go.Proofs.Ybulkdfgw
/- THE CELL 'sum', in the pinned program and in every row, IS THE sha256 OF THE DUMP (.gsa) THAT YbulkdfgwProg.lean LOADS. Nothing in Lean hashes anything: it is a label: what it is worth is what the hold of that sum in a sandbox is worth. -/
noncomputable def Yba.pinned : Pinned := { name := "ybulkdfgw", sum := "9ffcfd57ebb6c30397bb3a505bcc492240839101e900c0cde81c3ed2f8ae9f09", checked := Yba.checked }
namespace Rows
def none {H : Type} : Left H := { results := [], args := [] }

/-- 'node.LawS5326AStored': WHATEVER THE INPUT: true; the input reads as it did. -/
def lawS5326AStoredSpec : ChangeSpec := { name := "lawS5326AStored", fn := fun _ => fun
  | [d1, d2] => { results := [.lit (.bool true)], args := [d1, d2] }
  | _ => none }
def lawS5326AStoredRow : OpenClaim := { program := "ybulkdfgw", sum := "9ffcfd57ebb6c30397bb3a505bcc492240839101e900c0cde81c3ed2f8ae9f09", func := "example.com/ringwise/ringwise/node.LawS5326AStored", spec := "lawS5326AStored", inPlace := ["sync/atomic.LoadPointer", "sync/atomic.StoreUint32", "sync/atomic.StorePointer"], apart := false }
def LawS5326AStoredSaid : Prop := lawS5326AStoredRow.holds Yba.pinned (OpenSpec.ofChange lawS5326AStoredSpec)

/-- ITS FALSE NEIGHBOUR: 'it returns false'. Refute it at one input. -/
def lawS5326AStoredWrong : ChangeSpec := { name := "lawS5326AStored", fn := fun _ => fun
  | [d1, d2] => { results := [.lit (.bool false)], args := [d1, d2] }
  | _ => none }
def LawS5326AStoredWrongFalsely : Prop := lawS5326AStoredRow.holds Yba.pinned (OpenSpec.ofChange lawS5326AStoredWrong)

/-- 'node.LawS5326AWatchNotes': WHATEVER THE INPUT: true; the input reads as it did. -/
def lawS5326AWatchNotesSpec : ChangeSpec := { name := "lawS5326AWatchNotes", fn := fun _ => fun
  | [d1, d2] => { results := [.lit (.bool true)], args := [d1, d2] }
  | _ => none }
def lawS5326AWatchNotesRow : OpenClaim := { program := "ybulkdfgw", sum := "9ffcfd57ebb6c30397bb3a505bcc492240839101e900c0cde81c3ed2f8ae9f09", func := "example.com/ringwise/ringwise/node.LawS5326AWatchNotes", spec := "lawS5326AWatchNotes", inPlace := ["sync/atomic.LoadPointer", "sync/atomic.StoreUint32", "sync/atomic.StorePointer", "sync/atomic.LoadUint32"], apart := false }
def LawS5326AWatchNotesSaid : Prop := lawS5326AWatchNotesRow.holds Yba.pinned (OpenSpec.ofChange lawS5326AWatchNotesSpec)

/-- ITS FALSE NEIGHBOUR: 'it returns false'. Refute it at one input. -/
def lawS5326AWatchNotesWrong : ChangeSpec := { name := "lawS5326AWatchNotes", fn := fun _ => fun
  | [d1, d2] => { results := [.lit (.bool false)], args := [d1, d2] }
  | _ => none }
def LawS5326AWatchNotesWrongFalsely : Prop := lawS5326AWatchNotesRow.holds Yba.pinned (OpenSpec.ofChange lawS5326AWatchNotesWrong)

/-- 'holdings.LawS5326CModel': WHATEVER THE INPUT: true; the input reads as it did. -/
def lawS5326CModelSpec : ChangeSpec := { name := "lawS5326CModel", fn := fun _ => fun
  | [d1, d2, d3, d4, d5, d6, d7, d8] => { results := [.lit (.bool true)], args := [d1, d2, d3, d4, d5, d6, d7, d8] }
  | _ => none }
def lawS5326CModelRow : OpenClaim := { program := "ybulkdfgw", sum := "9ffcfd57ebb6c30397bb3a505bcc492240839101e900c0cde81c3ed2f8ae9f09", func := "example.com/ringwise/ringwise/holdings.LawS5326CModel", spec := "lawS5326CModel", inPlace := ["internal/bytealg.Compare"], apart := false }
def LawS5326CModelSaid : Prop := lawS5326CModelRow.holds Yba.pinned (OpenSpec.ofChange lawS5326CModelSpec)

/-- ITS FALSE NEIGHBOUR: 'it returns false'. Refute it at one input. -/
def lawS5326CModelWrong : ChangeSpec := { name := "lawS5326CModel", fn := fun _ => fun
  | [d1, d2, d3, d4, d5, d6, d7, d8] => { results := [.lit (.bool false)], args := [d1, d2, d3, d4, d5, d6, d7, d8] }
  | _ => none }
def LawS5326CModelWrongFalsely : Prop := lawS5326CModelRow.holds Yba.pinned (OpenSpec.ofChange lawS5326CModelWrong)

end Rows
end Go.Proofs.Ybulkdfgw
