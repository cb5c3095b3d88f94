/-
  DERIVED. GIVEN WITH THE SEED: THE CARDS: each row of YbulkdfeeGreatDoorRows.lean that lists a variable, with what it lists TIED to the program's text (the seventh form; the later family's looks); each row that meets fmt, with fmt's text TOLD by the authors' own Lean function (tested against real Go, not proved from fmt's source: count such statements apart). THE CARD IS WHAT COUNTS. Prove the row's statement (the work); the ties are given (YbulkdfeeGreatDoorTie.lean); close each card by the builder's one call (the guide's Derived/Test/ToyasCard.lean, 'card_holds'). Laid BY PROGRAM, IN A SANDBOX (cutbox-door.mjs). By AI agents, Wed Nov 11 2026. No macro, syntax, notation, axiom, sorry.
-/
import Derived.Test.YbulkdfeeGreatDoorRows
import GoSem.ClaimSeven
namespace Go.Proofs.YbulkdfeeGreatDoor
namespace Rows

/-- THE TIED CARD OF 'seriatim.LawS5321BRule'. -/
def lawS5321BRuleCard : Claim7 := { stood := { row := lawS5321BRuleRow, standIns := [], harness := (true, "1ab5a6dcc4e61e5448d82a958333923d4a308279a81af143388a3f02c4979ee7"), looks := false }, kinds := [], alts := [], laidByText := true, laidKinds := [.data], laidTests := true, laidLooks := .later }
def LawS5321BRuleCardSaid : Prop := Claim7.holds Ybaz.pinned (.plain (OpenSpec.ofChange lawS5321BRuleSpec)) lawS5321BRuleCard
end Rows
end Go.Proofs.YbulkdfeeGreatDoor
