/-
  DERIVED. GIVEN WITH THE SEED: THE CARDS: each row of YtocckokbdacdfaaDoorRows.lean that lists a variable, with what it lists TIED to the program's text (the seventh form; the later family's looks); each row that meets fmt, with fmt's text TOLD by the authors' own Lean function (tested against real Go, not proved from fmt's source: count such statements apart). THE CARD IS WHAT COUNTS. Prove the row's statement (the work); the ties are given (YtocckokbdacdfaaDoorTie.lean); close each card by the builder's one call (the guide's Derived/Test/ToyasCard.lean, 'card_holds'). Laid BY PROGRAM, IN A SANDBOX (cutbox-door.mjs). By AI agents, Wed Nov 11 2026. No macro, syntax, notation, axiom, sorry.
-/
import Derived.Test.YtocckokbdacdfaaDoorRows
import GoSem.ClaimSeven
namespace Go.Proofs.YtocckokbdacdfaaDoor
namespace Rows

/-- THE TIED CARD OF 'laws.FnRanks'. -/
def fnRanksCard : Claim7 := { stood := { row := fnRanksRow, standIns := [], harness := (true, "a83f414ba7956e78ab862cb617b0aa0af2027472a13ce4c425f28d70dccee0a6"), looks := false }, kinds := [], alts := [], laidByText := true, laidKinds := [.called, .called, .zero], laidTests := true, laidLooks := .later }
def FnRanksCardSaid : Prop := Claim7.holds Tryd.pinned (.plain (OpenSpec.ofChange fnRanksSpec)) fnRanksCard

/-- THE TIED CARD OF 'laws.FnWalkInTwo'. -/
def fnWalkInTwoCard : Claim7 := { stood := { row := fnWalkInTwoRow, standIns := [], harness := (true, "a83f414ba7956e78ab862cb617b0aa0af2027472a13ce4c425f28d70dccee0a6"), looks := false }, kinds := [], alts := [], laidByText := true, laidKinds := [.called, .called, .zero], laidTests := true, laidLooks := .later }
def FnWalkInTwoCardSaid : Prop := Claim7.holds Tryd.pinned (.plain (OpenSpec.ofChange fnWalkInTwoSpec)) fnWalkInTwoCard

/-- THE TIED CARD OF 'laws.FnGateBetween'. -/
def fnGateBetweenCard : Claim7 := { stood := { row := fnGateBetweenRow, standIns := [], harness := (true, "a83f414ba7956e78ab862cb617b0aa0af2027472a13ce4c425f28d70dccee0a6"), looks := false }, kinds := [], alts := [], laidByText := true, laidKinds := [.called, .called, .zero], laidTests := true, laidLooks := .later }
def FnGateBetweenCardSaid : Prop := Claim7.holds Tryd.pinned (.plain (OpenSpec.ofChange fnGateBetweenSpec)) fnGateBetweenCard

/-- THE TIED CARD OF 'laws.FnWalkThereAndBack'. -/
def fnWalkThereAndBackCard : Claim7 := { stood := { row := fnWalkThereAndBackRow, standIns := [], harness := (true, "a83f414ba7956e78ab862cb617b0aa0af2027472a13ce4c425f28d70dccee0a6"), looks := false }, kinds := [], alts := [], laidByText := true, laidKinds := [.called, .called, .zero], laidTests := true, laidLooks := .later }
def FnWalkThereAndBackCardSaid : Prop := Claim7.holds Tryd.pinned (.plain (OpenSpec.ofChange fnWalkThereAndBackSpec)) fnWalkThereAndBackCard

/-- THE TIED CARD OF 'laws.FnWalkAscends'. -/
def fnWalkAscendsCard : Claim7 := { stood := { row := fnWalkAscendsRow, standIns := [], harness := (true, "a83f414ba7956e78ab862cb617b0aa0af2027472a13ce4c425f28d70dccee0a6"), looks := false }, kinds := [], alts := [], laidByText := true, laidKinds := [.called, .called, .zero], laidTests := true, laidLooks := .later }
def FnWalkAscendsCardSaid : Prop := Claim7.holds Tryd.pinned (.plain (OpenSpec.ofChange fnWalkAscendsSpec)) fnWalkAscendsCard

/-- THE TIED CARD OF 'laws.FnWalkCounted'. -/
def fnWalkCountedCard : Claim7 := { stood := { row := fnWalkCountedRow, standIns := [], harness := (true, "a83f414ba7956e78ab862cb617b0aa0af2027472a13ce4c425f28d70dccee0a6"), looks := false }, kinds := [], alts := [], laidByText := true, laidKinds := [.called, .called, .zero], laidTests := true, laidLooks := .later }
def FnWalkCountedCardSaid : Prop := Claim7.holds Tryd.pinned (.plain (OpenSpec.ofChange fnWalkCountedSpec)) fnWalkCountedCard

/-- THE TIED CARD OF 'laws.FnWalkLeavesNoneOut'. -/
def fnWalkLeavesNoneOutCard : Claim7 := { stood := { row := fnWalkLeavesNoneOutRow, standIns := [], harness := (true, "a83f414ba7956e78ab862cb617b0aa0af2027472a13ce4c425f28d70dccee0a6"), looks := false }, kinds := [], alts := [], laidByText := true, laidKinds := [.called, .called, .zero], laidTests := true, laidLooks := .later }
def FnWalkLeavesNoneOutCardSaid : Prop := Claim7.holds Tryd.pinned (.plain (OpenSpec.ofChange fnWalkLeavesNoneOutSpec)) fnWalkLeavesNoneOutCard

/-- THE TIED CARD OF 'laws.FnGateOfNeighbours'. -/
def fnGateOfNeighboursCard : Claim7 := { stood := { row := fnGateOfNeighboursRow, standIns := [], harness := (true, "a83f414ba7956e78ab862cb617b0aa0af2027472a13ce4c425f28d70dccee0a6"), looks := false }, kinds := [], alts := [], laidByText := true, laidKinds := [.called, .called, .zero], laidTests := true, laidLooks := .later }
def FnGateOfNeighboursCardSaid : Prop := Claim7.holds Tryd.pinned (.plain (OpenSpec.ofChange fnGateOfNeighboursSpec)) fnGateOfNeighboursCard

/-- THE SECOND FORM's CARD OF 'laws.FnRanks'. -/
def fnRanksUptoCard : Claim7 := { stood := { row := fnRanksUptoRow, standIns := [], harness := (true, "a83f414ba7956e78ab862cb617b0aa0af2027472a13ce4c425f28d70dccee0a6"), looks := false }, kinds := [], alts := [], laidByText := true, laidKinds := [.called, .called, .zero], laidTests := true, laidLooks := .later }
def FnRanksUptoCardSaid : Prop := Claim7.holds Tryd.pinned (.plain (OpenSpec.upto fnRanksSpec)) fnRanksUptoCard

/-- THE SECOND FORM's CARD OF 'laws.FnWalkInTwo'. -/
def fnWalkInTwoUptoCard : Claim7 := { stood := { row := fnWalkInTwoUptoRow, standIns := [], harness := (true, "a83f414ba7956e78ab862cb617b0aa0af2027472a13ce4c425f28d70dccee0a6"), looks := false }, kinds := [], alts := [], laidByText := true, laidKinds := [.called, .called, .zero], laidTests := true, laidLooks := .later }
def FnWalkInTwoUptoCardSaid : Prop := Claim7.holds Tryd.pinned (.plain (OpenSpec.upto fnWalkInTwoSpec)) fnWalkInTwoUptoCard

/-- THE SECOND FORM's CARD OF 'laws.FnGateBetween'. -/
def fnGateBetweenUptoCard : Claim7 := { stood := { row := fnGateBetweenUptoRow, standIns := [], harness := (true, "a83f414ba7956e78ab862cb617b0aa0af2027472a13ce4c425f28d70dccee0a6"), looks := false }, kinds := [], alts := [], laidByText := true, laidKinds := [.called, .called, .zero], laidTests := true, laidLooks := .later }
def FnGateBetweenUptoCardSaid : Prop := Claim7.holds Tryd.pinned (.plain (OpenSpec.upto fnGateBetweenSpec)) fnGateBetweenUptoCard

/-- THE SECOND FORM's CARD OF 'laws.FnWalkThereAndBack'. -/
def fnWalkThereAndBackUptoCard : Claim7 := { stood := { row := fnWalkThereAndBackUptoRow, standIns := [], harness := (true, "a83f414ba7956e78ab862cb617b0aa0af2027472a13ce4c425f28d70dccee0a6"), looks := false }, kinds := [], alts := [], laidByText := true, laidKinds := [.called, .called, .zero], laidTests := true, laidLooks := .later }
def FnWalkThereAndBackUptoCardSaid : Prop := Claim7.holds Tryd.pinned (.plain (OpenSpec.upto fnWalkThereAndBackSpec)) fnWalkThereAndBackUptoCard

/-- THE SECOND FORM's CARD OF 'laws.FnWalkAscends'. -/
def fnWalkAscendsUptoCard : Claim7 := { stood := { row := fnWalkAscendsUptoRow, standIns := [], harness := (true, "a83f414ba7956e78ab862cb617b0aa0af2027472a13ce4c425f28d70dccee0a6"), looks := false }, kinds := [], alts := [], laidByText := true, laidKinds := [.called, .called, .zero], laidTests := true, laidLooks := .later }
def FnWalkAscendsUptoCardSaid : Prop := Claim7.holds Tryd.pinned (.plain (OpenSpec.upto fnWalkAscendsSpec)) fnWalkAscendsUptoCard

/-- THE SECOND FORM's CARD OF 'laws.FnWalkCounted'. -/
def fnWalkCountedUptoCard : Claim7 := { stood := { row := fnWalkCountedUptoRow, standIns := [], harness := (true, "a83f414ba7956e78ab862cb617b0aa0af2027472a13ce4c425f28d70dccee0a6"), looks := false }, kinds := [], alts := [], laidByText := true, laidKinds := [.called, .called, .zero], laidTests := true, laidLooks := .later }
def FnWalkCountedUptoCardSaid : Prop := Claim7.holds Tryd.pinned (.plain (OpenSpec.upto fnWalkCountedSpec)) fnWalkCountedUptoCard

/-- THE SECOND FORM's CARD OF 'laws.FnWalkLeavesNoneOut'. -/
def fnWalkLeavesNoneOutUptoCard : Claim7 := { stood := { row := fnWalkLeavesNoneOutUptoRow, standIns := [], harness := (true, "a83f414ba7956e78ab862cb617b0aa0af2027472a13ce4c425f28d70dccee0a6"), looks := false }, kinds := [], alts := [], laidByText := true, laidKinds := [.called, .called, .zero], laidTests := true, laidLooks := .later }
def FnWalkLeavesNoneOutUptoCardSaid : Prop := Claim7.holds Tryd.pinned (.plain (OpenSpec.upto fnWalkLeavesNoneOutSpec)) fnWalkLeavesNoneOutUptoCard

/-- THE SECOND FORM's CARD OF 'laws.FnGateOfNeighbours'. -/
def fnGateOfNeighboursUptoCard : Claim7 := { stood := { row := fnGateOfNeighboursUptoRow, standIns := [], harness := (true, "a83f414ba7956e78ab862cb617b0aa0af2027472a13ce4c425f28d70dccee0a6"), looks := false }, kinds := [], alts := [], laidByText := true, laidKinds := [.called, .called, .zero], laidTests := true, laidLooks := .later }
def FnGateOfNeighboursUptoCardSaid : Prop := Claim7.holds Tryd.pinned (.plain (OpenSpec.upto fnGateOfNeighboursSpec)) fnGateOfNeighboursUptoCard
end Rows
end Go.Proofs.YtocckokbdacdfaaDoor
