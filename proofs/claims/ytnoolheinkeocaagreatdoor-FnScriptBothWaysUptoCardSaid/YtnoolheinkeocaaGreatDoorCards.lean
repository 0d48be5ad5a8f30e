/-
  DERIVED. GIVEN WITH THE SEED: THE CARDS: each row of YtnoolheinkeocaaGreatDoorRows.lean that lists a variable, with what it lists TIED to the program's text (the seventh form; the later family's looks); each row that meets fmt, with fmt's text TOLD by the authors' own Lean function (tested against real Go, not proved from fmt's source: count such statements apart). THE CARD IS WHAT COUNTS. Prove the row's statement (the work); the ties are given (YtnoolheinkeocaaGreatDoorTie.lean); close each card by the builder's one call (the guide's Derived/Test/ToyasCard.lean, 'card_holds'). Laid BY PROGRAM, IN A SANDBOX (cutbox-door.mjs). By AI agents, Wed Nov 11 2026. No macro, syntax, notation, axiom, sorry.
-/
import Derived.Test.YtnoolheinkeocaaGreatDoorRows
import GoSem.ClaimSeven
namespace Go.Proofs.YtnoolheinkeocaaGreatDoor
namespace Rows

/-- THE TIED CARD OF 'laws.FnScriptBothWays'. -/
def fnScriptBothWaysCard : Claim7 := { stood := { row := fnScriptBothWaysRow, standIns := [], harness := (true, "7f67015980afef002228da4cff5524b900a37f49173a979d8fa0f8db63290d4f"), looks := true }, kinds := [], alts := [], laidByText := true, laidKinds := [.data, .data, .data, .data, .sentinel, .sentinel, .called, .called, .zero, .pinned, .pinned, .pinned, .pinned, .pinned, .pinned], laidTests := true, laidLooks := .later }
def FnScriptBothWaysCardSaid : Prop := Claim7.holds Tryz.pinned (.plain (OpenSpec.ofChange fnScriptBothWaysSpec)) fnScriptBothWaysCard

/-- THE SECOND FORM's CARD OF 'laws.FnScriptBothWays'. -/
def fnScriptBothWaysUptoCard : Claim7 := { stood := { row := fnScriptBothWaysUptoRow, standIns := [], harness := (true, "7f67015980afef002228da4cff5524b900a37f49173a979d8fa0f8db63290d4f"), looks := true }, kinds := [], alts := [], laidByText := true, laidKinds := [.data, .data, .data, .data, .sentinel, .sentinel, .called, .called, .zero, .pinned, .pinned, .pinned, .pinned, .pinned, .pinned], laidTests := true, laidLooks := .later }
def FnScriptBothWaysUptoCardSaid : Prop := Claim7.holds Tryz.pinned (.plain (OpenSpec.upto fnScriptBothWaysSpec)) fnScriptBothWaysUptoCard
end Rows
end Go.Proofs.YtnoolheinkeocaaGreatDoor
