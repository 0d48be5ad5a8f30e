/-
  DERIVED. GIVEN WITH THE SEED: THE CARDS: each row of YtnoolheinkeocaaDoorRows.lean that lists a variable, with what it lists TIED to the program's text (the seventh form; the later family's looks); each row that meets fmt, with fmt's text TOLD by the authors' own Lean function (tested against real Go, not proved from fmt's source: count such statements apart). THE CARD IS WHAT COUNTS. Prove the row's statement (the work); the ties are given (YtnoolheinkeocaaDoorTie.lean); close each card by the builder's one call (the guide's Derived/Test/ToyasCard.lean, 'card_holds'). Laid BY PROGRAM, IN A SANDBOX (cutbox-door.mjs). By AI agents, Wed Nov 11 2026. No macro, syntax, notation, axiom, sorry.
-/
import Derived.Test.YtnoolheinkeocaaDoorRows
import GoSem.ClaimSeven
namespace Go.Proofs.YtnoolheinkeocaaDoor
namespace Rows

/-- THE TIED CARD OF 'laws.FnPrefixTextsInARow'. -/
def fnPrefixTextsInARowCard : Claim7 := { stood := { row := fnPrefixTextsInARowRow, standIns := [], harness := (true, "50d96b88c90979c9047b098f1b9322ce2f63d7f6f00667c238c732c9e9796a2d"), looks := true }, kinds := [], alts := [], laidByText := true, laidKinds := [.data, .data, .data, .data, .sentinel, .sentinel, .called, .called, .zero, .pinned, .pinned, .pinned, .pinned, .pinned, .pinned], laidTests := true, laidLooks := .later }
def FnPrefixTextsInARowCardSaid : Prop := Claim7.holds Tryd.pinned (.plain (OpenSpec.ofChange fnPrefixTextsInARowSpec)) fnPrefixTextsInARowCard

/-- THE TIED CARD OF 'laws.FnBinariesCut'. -/
def fnBinariesCutCard : Claim7 := { stood := { row := fnBinariesCutRow, standIns := [], harness := (true, "50d96b88c90979c9047b098f1b9322ce2f63d7f6f00667c238c732c9e9796a2d"), looks := true }, kinds := [], alts := [], laidByText := true, laidKinds := [.data, .data, .data, .data, .sentinel, .sentinel, .called, .called, .zero, .pinned, .pinned, .pinned, .pinned, .pinned, .pinned], laidTests := true, laidLooks := .later }
def FnBinariesCutCardSaid : Prop := Claim7.holds Tryd.pinned (.plain (OpenSpec.ofChange fnBinariesCutSpec)) fnBinariesCutCard

/-- THE TIED CARD OF 'laws.FnTextCuts'. -/
def fnTextCutsCard : Claim7 := { stood := { row := fnTextCutsRow, standIns := [], harness := (true, "50d96b88c90979c9047b098f1b9322ce2f63d7f6f00667c238c732c9e9796a2d"), looks := true }, kinds := [], alts := [], laidByText := true, laidKinds := [.data, .data, .data, .data, .sentinel, .sentinel, .called, .called, .zero, .pinned, .pinned, .pinned, .pinned, .pinned, .pinned], laidTests := true, laidLooks := .later }
def FnTextCutsCardSaid : Prop := Claim7.holds Tryd.pinned (.plain (OpenSpec.ofChange fnTextCutsSpec)) fnTextCutsCard

/-- THE SECOND FORM's CARD OF 'laws.FnPrefixTextsInARow'. -/
def fnPrefixTextsInARowUptoCard : Claim7 := { stood := { row := fnPrefixTextsInARowUptoRow, standIns := [], harness := (true, "50d96b88c90979c9047b098f1b9322ce2f63d7f6f00667c238c732c9e9796a2d"), looks := true }, kinds := [], alts := [], laidByText := true, laidKinds := [.data, .data, .data, .data, .sentinel, .sentinel, .called, .called, .zero, .pinned, .pinned, .pinned, .pinned, .pinned, .pinned], laidTests := true, laidLooks := .later }
def FnPrefixTextsInARowUptoCardSaid : Prop := Claim7.holds Tryd.pinned (.plain (OpenSpec.upto fnPrefixTextsInARowSpec)) fnPrefixTextsInARowUptoCard

/-- THE SECOND FORM's CARD OF 'laws.FnBinariesCut'. -/
def fnBinariesCutUptoCard : Claim7 := { stood := { row := fnBinariesCutUptoRow, standIns := [], harness := (true, "50d96b88c90979c9047b098f1b9322ce2f63d7f6f00667c238c732c9e9796a2d"), looks := true }, kinds := [], alts := [], laidByText := true, laidKinds := [.data, .data, .data, .data, .sentinel, .sentinel, .called, .called, .zero, .pinned, .pinned, .pinned, .pinned, .pinned, .pinned], laidTests := true, laidLooks := .later }
def FnBinariesCutUptoCardSaid : Prop := Claim7.holds Tryd.pinned (.plain (OpenSpec.upto fnBinariesCutSpec)) fnBinariesCutUptoCard

/-- THE SECOND FORM's CARD OF 'laws.FnTextCuts'. -/
def fnTextCutsUptoCard : Claim7 := { stood := { row := fnTextCutsUptoRow, standIns := [], harness := (true, "50d96b88c90979c9047b098f1b9322ce2f63d7f6f00667c238c732c9e9796a2d"), looks := true }, kinds := [], alts := [], laidByText := true, laidKinds := [.data, .data, .data, .data, .sentinel, .sentinel, .called, .called, .zero, .pinned, .pinned, .pinned, .pinned, .pinned, .pinned], laidTests := true, laidLooks := .later }
def FnTextCutsUptoCardSaid : Prop := Claim7.holds Tryd.pinned (.plain (OpenSpec.upto fnTextCutsSpec)) fnTextCutsUptoCard
end Rows
end Go.Proofs.YtnoolheinkeocaaDoor
