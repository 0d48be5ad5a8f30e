/-
  DERIVED. GIVEN WITH THE SEED: THE CARDS: each row of YtckfgdohpmllmaaDoorRows.lean that lists a variable, with what it lists TIED to the program's text (the seventh form; the later family's looks); each row that meets fmt, with fmt's text TOLD by the authors' own Lean function (tested against real Go, not proved from fmt's source: count such statements apart). THE CARD IS WHAT COUNTS. Prove the row's statement (the work); the ties are given (YtckfgdohpmllmaaDoorTie.lean); close each card by the builder's one call (the guide's Derived/Test/ToyasCard.lean, 'card_holds'). Laid BY PROGRAM, IN A SANDBOX (cutbox-door.mjs). By AI agents, Wed Nov 11 2026. No macro, syntax, notation, axiom, sorry.
-/
import Derived.Test.YtckfgdohpmllmaaDoorRows
import GoSem.ClaimSeven
namespace Go.Proofs.YtckfgdohpmllmaaDoor
namespace Rows

/-- THE TIED CARD OF 'laws.FnLeftOut'. -/
def fnLeftOutCard : Claim7 := { stood := { row := fnLeftOutRow, standIns := [], harness := (true, "27eafaf8d110955dcaff3928d2f9acec5abbbdc03feb215f2f7cb9388c4fdf19"), looks := false }, kinds := [], alts := [], laidByText := true, laidKinds := [.called, .called, .zero], laidTests := true, laidLooks := .later }
def FnLeftOutCardSaid : Prop := Claim7.holds Tryd.pinned (.plain (OpenSpec.ofChange fnLeftOutSpec)) fnLeftOutCard

/-- THE TIED CARD OF 'laws.FnMasksInARow'. -/
def fnMasksInARowCard : Claim7 := { stood := { row := fnMasksInARowRow, standIns := [], harness := (true, "27eafaf8d110955dcaff3928d2f9acec5abbbdc03feb215f2f7cb9388c4fdf19"), looks := false }, kinds := [], alts := [], laidByText := true, laidKinds := [.data, .data, .data, .called, .called, .zero], laidTests := true, laidLooks := .later }
def FnMasksInARowCardSaid : Prop := Claim7.holds Tryd.pinned (.plain (OpenSpec.ofChange fnMasksInARowSpec)) fnMasksInARowCard

/-- THE TIED CARD OF 'laws.FnAllInCommon'. -/
def fnAllInCommonCard : Claim7 := { stood := { row := fnAllInCommonRow, standIns := [], harness := (true, "27eafaf8d110955dcaff3928d2f9acec5abbbdc03feb215f2f7cb9388c4fdf19"), looks := false }, kinds := [], alts := [], laidByText := true, laidKinds := [.data, .data, .data, .called, .called, .zero], laidTests := true, laidLooks := .later }
def FnAllInCommonCardSaid : Prop := Claim7.holds Tryd.pinned (.plain (OpenSpec.ofChange fnAllInCommonSpec)) fnAllInCommonCard

/-- THE TIED CARD OF 'laws.FnBothContain'. -/
def fnBothContainCard : Claim7 := { stood := { row := fnBothContainRow, standIns := [], harness := (true, "27eafaf8d110955dcaff3928d2f9acec5abbbdc03feb215f2f7cb9388c4fdf19"), looks := false }, kinds := [], alts := [], laidByText := true, laidKinds := [.data, .data, .data, .called, .called, .zero], laidTests := true, laidLooks := .later }
def FnBothContainCardSaid : Prop := Claim7.holds Tryd.pinned (.plain (OpenSpec.ofChange fnBothContainSpec)) fnBothContainCard

/-- THE TIED CARD OF 'laws.FnCutParts'. -/
def fnCutPartsCard : Claim7 := { stood := { row := fnCutPartsRow, standIns := [], harness := (true, "27eafaf8d110955dcaff3928d2f9acec5abbbdc03feb215f2f7cb9388c4fdf19"), looks := false }, kinds := [], alts := [], laidByText := true, laidKinds := [.data, .data, .data, .called, .called, .zero], laidTests := true, laidLooks := .later }
def FnCutPartsCardSaid : Prop := Claim7.holds Tryd.pinned (.plain (OpenSpec.ofChange fnCutPartsSpec)) fnCutPartsCard

/-- THE TIED CARD OF 'laws.FnSortedAlike'. -/
def fnSortedAlikeCard : Claim7 := { stood := { row := fnSortedAlikeRow, standIns := [], harness := (true, "27eafaf8d110955dcaff3928d2f9acec5abbbdc03feb215f2f7cb9388c4fdf19"), looks := false }, kinds := [], alts := [], laidByText := true, laidKinds := [.data, .data, .data, .called, .called, .zero], laidTests := true, laidLooks := .later }
def FnSortedAlikeCardSaid : Prop := Claim7.holds Tryd.pinned (.plain (OpenSpec.ofChange fnSortedAlikeSpec)) fnSortedAlikeCard

/-- THE TIED CARD OF 'laws.FnCommonBits'. -/
def fnCommonBitsCard : Claim7 := { stood := { row := fnCommonBitsRow, standIns := [], harness := (true, "27eafaf8d110955dcaff3928d2f9acec5abbbdc03feb215f2f7cb9388c4fdf19"), looks := false }, kinds := [], alts := [], laidByText := true, laidKinds := [.data, .data, .data, .called, .called, .zero], laidTests := true, laidLooks := .later }
def FnCommonBitsCardSaid : Prop := Claim7.holds Tryd.pinned (.plain (OpenSpec.ofChange fnCommonBitsSpec)) fnCommonBitsCard

/-- THE TIED CARD OF 'laws.FnRangeCover'. -/
def fnRangeCoverCard : Claim7 := { stood := { row := fnRangeCoverRow, standIns := [], harness := (true, "27eafaf8d110955dcaff3928d2f9acec5abbbdc03feb215f2f7cb9388c4fdf19"), looks := false }, kinds := [], alts := [], laidByText := true, laidKinds := [.data, .data, .data, .called, .called, .zero], laidTests := true, laidLooks := .later }
def FnRangeCoverCardSaid : Prop := Claim7.holds Tryd.pinned (.plain (OpenSpec.ofChange fnRangeCoverSpec)) fnRangeCoverCard

/-- THE TIED CARD OF 'laws.FnNestedRun'. -/
def fnNestedRunCard : Claim7 := { stood := { row := fnNestedRunRow, standIns := [], harness := (true, "27eafaf8d110955dcaff3928d2f9acec5abbbdc03feb215f2f7cb9388c4fdf19"), looks := false }, kinds := [], alts := [], laidByText := true, laidKinds := [.data, .data, .data, .called, .called, .zero], laidTests := true, laidLooks := .later }
def FnNestedRunCardSaid : Prop := Claim7.holds Tryd.pinned (.plain (OpenSpec.ofChange fnNestedRunSpec)) fnNestedRunCard

/-- THE TIED CARD OF 'laws.FnOverlapRun'. -/
def fnOverlapRunCard : Claim7 := { stood := { row := fnOverlapRunRow, standIns := [], harness := (true, "27eafaf8d110955dcaff3928d2f9acec5abbbdc03feb215f2f7cb9388c4fdf19"), looks := false }, kinds := [], alts := [], laidByText := true, laidKinds := [.data, .data, .data, .called, .called, .zero], laidTests := true, laidLooks := .later }
def FnOverlapRunCardSaid : Prop := Claim7.holds Tryd.pinned (.plain (OpenSpec.ofChange fnOverlapRunSpec)) fnOverlapRunCard

/-- THE TIED CARD OF 'laws.FnPartsAbut'. -/
def fnPartsAbutCard : Claim7 := { stood := { row := fnPartsAbutRow, standIns := [], harness := (true, "27eafaf8d110955dcaff3928d2f9acec5abbbdc03feb215f2f7cb9388c4fdf19"), looks := false }, kinds := [], alts := [], laidByText := true, laidKinds := [.data, .data, .data, .called, .called, .zero], laidTests := true, laidLooks := .later }
def FnPartsAbutCardSaid : Prop := Claim7.holds Tryd.pinned (.plain (OpenSpec.ofChange fnPartsAbutSpec)) fnPartsAbutCard

/-- THE TIED CARD OF 'laws.FnMaskedInOrder'. -/
def fnMaskedInOrderCard : Claim7 := { stood := { row := fnMaskedInOrderRow, standIns := [], harness := (true, "27eafaf8d110955dcaff3928d2f9acec5abbbdc03feb215f2f7cb9388c4fdf19"), looks := false }, kinds := [], alts := [], laidByText := true, laidKinds := [.data, .data, .data, .called, .called, .zero], laidTests := true, laidLooks := .later }
def FnMaskedInOrderCardSaid : Prop := Claim7.holds Tryd.pinned (.plain (OpenSpec.ofChange fnMaskedInOrderSpec)) fnMaskedInOrderCard

/-- THE TIED CARD OF 'laws.FnLongestMatch'. -/
def fnLongestMatchCard : Claim7 := { stood := { row := fnLongestMatchRow, standIns := [], harness := (true, "27eafaf8d110955dcaff3928d2f9acec5abbbdc03feb215f2f7cb9388c4fdf19"), looks := false }, kinds := [], alts := [], laidByText := true, laidKinds := [.data, .data, .data, .called, .called, .zero], laidTests := true, laidLooks := .later }
def FnLongestMatchCardSaid : Prop := Claim7.holds Tryd.pinned (.plain (OpenSpec.ofChange fnLongestMatchSpec)) fnLongestMatchCard

/-- THE TIED CARD OF 'laws.FnAggregate'. -/
def fnAggregateCard : Claim7 := { stood := { row := fnAggregateRow, standIns := [], harness := (true, "27eafaf8d110955dcaff3928d2f9acec5abbbdc03feb215f2f7cb9388c4fdf19"), looks := false }, kinds := [], alts := [], laidByText := true, laidKinds := [.data, .data, .data, .called, .called, .zero], laidTests := true, laidLooks := .later }
def FnAggregateCardSaid : Prop := Claim7.holds Tryd.pinned (.plain (OpenSpec.ofChange fnAggregateSpec)) fnAggregateCard

/-- THE SECOND FORM's CARD OF 'laws.FnLeftOut'. -/
def fnLeftOutUptoCard : Claim7 := { stood := { row := fnLeftOutUptoRow, standIns := [], harness := (true, "27eafaf8d110955dcaff3928d2f9acec5abbbdc03feb215f2f7cb9388c4fdf19"), looks := false }, kinds := [], alts := [], laidByText := true, laidKinds := [.called, .called, .zero], laidTests := true, laidLooks := .later }
def FnLeftOutUptoCardSaid : Prop := Claim7.holds Tryd.pinned (.plain (OpenSpec.upto fnLeftOutSpec)) fnLeftOutUptoCard

/-- THE SECOND FORM's CARD OF 'laws.FnMasksInARow'. -/
def fnMasksInARowUptoCard : Claim7 := { stood := { row := fnMasksInARowUptoRow, standIns := [], harness := (true, "27eafaf8d110955dcaff3928d2f9acec5abbbdc03feb215f2f7cb9388c4fdf19"), looks := false }, kinds := [], alts := [], laidByText := true, laidKinds := [.data, .data, .data, .called, .called, .zero], laidTests := true, laidLooks := .later }
def FnMasksInARowUptoCardSaid : Prop := Claim7.holds Tryd.pinned (.plain (OpenSpec.upto fnMasksInARowSpec)) fnMasksInARowUptoCard

/-- THE SECOND FORM's CARD OF 'laws.FnAllInCommon'. -/
def fnAllInCommonUptoCard : Claim7 := { stood := { row := fnAllInCommonUptoRow, standIns := [], harness := (true, "27eafaf8d110955dcaff3928d2f9acec5abbbdc03feb215f2f7cb9388c4fdf19"), looks := false }, kinds := [], alts := [], laidByText := true, laidKinds := [.data, .data, .data, .called, .called, .zero], laidTests := true, laidLooks := .later }
def FnAllInCommonUptoCardSaid : Prop := Claim7.holds Tryd.pinned (.plain (OpenSpec.upto fnAllInCommonSpec)) fnAllInCommonUptoCard

/-- THE SECOND FORM's CARD OF 'laws.FnBothContain'. -/
def fnBothContainUptoCard : Claim7 := { stood := { row := fnBothContainUptoRow, standIns := [], harness := (true, "27eafaf8d110955dcaff3928d2f9acec5abbbdc03feb215f2f7cb9388c4fdf19"), looks := false }, kinds := [], alts := [], laidByText := true, laidKinds := [.data, .data, .data, .called, .called, .zero], laidTests := true, laidLooks := .later }
def FnBothContainUptoCardSaid : Prop := Claim7.holds Tryd.pinned (.plain (OpenSpec.upto fnBothContainSpec)) fnBothContainUptoCard

/-- THE SECOND FORM's CARD OF 'laws.FnCutParts'. -/
def fnCutPartsUptoCard : Claim7 := { stood := { row := fnCutPartsUptoRow, standIns := [], harness := (true, "27eafaf8d110955dcaff3928d2f9acec5abbbdc03feb215f2f7cb9388c4fdf19"), looks := false }, kinds := [], alts := [], laidByText := true, laidKinds := [.data, .data, .data, .called, .called, .zero], laidTests := true, laidLooks := .later }
def FnCutPartsUptoCardSaid : Prop := Claim7.holds Tryd.pinned (.plain (OpenSpec.upto fnCutPartsSpec)) fnCutPartsUptoCard

/-- THE SECOND FORM's CARD OF 'laws.FnSortedAlike'. -/
def fnSortedAlikeUptoCard : Claim7 := { stood := { row := fnSortedAlikeUptoRow, standIns := [], harness := (true, "27eafaf8d110955dcaff3928d2f9acec5abbbdc03feb215f2f7cb9388c4fdf19"), looks := false }, kinds := [], alts := [], laidByText := true, laidKinds := [.data, .data, .data, .called, .called, .zero], laidTests := true, laidLooks := .later }
def FnSortedAlikeUptoCardSaid : Prop := Claim7.holds Tryd.pinned (.plain (OpenSpec.upto fnSortedAlikeSpec)) fnSortedAlikeUptoCard

/-- THE SECOND FORM's CARD OF 'laws.FnCommonBits'. -/
def fnCommonBitsUptoCard : Claim7 := { stood := { row := fnCommonBitsUptoRow, standIns := [], harness := (true, "27eafaf8d110955dcaff3928d2f9acec5abbbdc03feb215f2f7cb9388c4fdf19"), looks := false }, kinds := [], alts := [], laidByText := true, laidKinds := [.data, .data, .data, .called, .called, .zero], laidTests := true, laidLooks := .later }
def FnCommonBitsUptoCardSaid : Prop := Claim7.holds Tryd.pinned (.plain (OpenSpec.upto fnCommonBitsSpec)) fnCommonBitsUptoCard

/-- THE SECOND FORM's CARD OF 'laws.FnRangeCover'. -/
def fnRangeCoverUptoCard : Claim7 := { stood := { row := fnRangeCoverUptoRow, standIns := [], harness := (true, "27eafaf8d110955dcaff3928d2f9acec5abbbdc03feb215f2f7cb9388c4fdf19"), looks := false }, kinds := [], alts := [], laidByText := true, laidKinds := [.data, .data, .data, .called, .called, .zero], laidTests := true, laidLooks := .later }
def FnRangeCoverUptoCardSaid : Prop := Claim7.holds Tryd.pinned (.plain (OpenSpec.upto fnRangeCoverSpec)) fnRangeCoverUptoCard

/-- THE SECOND FORM's CARD OF 'laws.FnNestedRun'. -/
def fnNestedRunUptoCard : Claim7 := { stood := { row := fnNestedRunUptoRow, standIns := [], harness := (true, "27eafaf8d110955dcaff3928d2f9acec5abbbdc03feb215f2f7cb9388c4fdf19"), looks := false }, kinds := [], alts := [], laidByText := true, laidKinds := [.data, .data, .data, .called, .called, .zero], laidTests := true, laidLooks := .later }
def FnNestedRunUptoCardSaid : Prop := Claim7.holds Tryd.pinned (.plain (OpenSpec.upto fnNestedRunSpec)) fnNestedRunUptoCard

/-- THE SECOND FORM's CARD OF 'laws.FnOverlapRun'. -/
def fnOverlapRunUptoCard : Claim7 := { stood := { row := fnOverlapRunUptoRow, standIns := [], harness := (true, "27eafaf8d110955dcaff3928d2f9acec5abbbdc03feb215f2f7cb9388c4fdf19"), looks := false }, kinds := [], alts := [], laidByText := true, laidKinds := [.data, .data, .data, .called, .called, .zero], laidTests := true, laidLooks := .later }
def FnOverlapRunUptoCardSaid : Prop := Claim7.holds Tryd.pinned (.plain (OpenSpec.upto fnOverlapRunSpec)) fnOverlapRunUptoCard

/-- THE SECOND FORM's CARD OF 'laws.FnPartsAbut'. -/
def fnPartsAbutUptoCard : Claim7 := { stood := { row := fnPartsAbutUptoRow, standIns := [], harness := (true, "27eafaf8d110955dcaff3928d2f9acec5abbbdc03feb215f2f7cb9388c4fdf19"), looks := false }, kinds := [], alts := [], laidByText := true, laidKinds := [.data, .data, .data, .called, .called, .zero], laidTests := true, laidLooks := .later }
def FnPartsAbutUptoCardSaid : Prop := Claim7.holds Tryd.pinned (.plain (OpenSpec.upto fnPartsAbutSpec)) fnPartsAbutUptoCard

/-- THE SECOND FORM's CARD OF 'laws.FnMaskedInOrder'. -/
def fnMaskedInOrderUptoCard : Claim7 := { stood := { row := fnMaskedInOrderUptoRow, standIns := [], harness := (true, "27eafaf8d110955dcaff3928d2f9acec5abbbdc03feb215f2f7cb9388c4fdf19"), looks := false }, kinds := [], alts := [], laidByText := true, laidKinds := [.data, .data, .data, .called, .called, .zero], laidTests := true, laidLooks := .later }
def FnMaskedInOrderUptoCardSaid : Prop := Claim7.holds Tryd.pinned (.plain (OpenSpec.upto fnMaskedInOrderSpec)) fnMaskedInOrderUptoCard

/-- THE SECOND FORM's CARD OF 'laws.FnLongestMatch'. -/
def fnLongestMatchUptoCard : Claim7 := { stood := { row := fnLongestMatchUptoRow, standIns := [], harness := (true, "27eafaf8d110955dcaff3928d2f9acec5abbbdc03feb215f2f7cb9388c4fdf19"), looks := false }, kinds := [], alts := [], laidByText := true, laidKinds := [.data, .data, .data, .called, .called, .zero], laidTests := true, laidLooks := .later }
def FnLongestMatchUptoCardSaid : Prop := Claim7.holds Tryd.pinned (.plain (OpenSpec.upto fnLongestMatchSpec)) fnLongestMatchUptoCard

/-- THE SECOND FORM's CARD OF 'laws.FnAggregate'. -/
def fnAggregateUptoCard : Claim7 := { stood := { row := fnAggregateUptoRow, standIns := [], harness := (true, "27eafaf8d110955dcaff3928d2f9acec5abbbdc03feb215f2f7cb9388c4fdf19"), looks := false }, kinds := [], alts := [], laidByText := true, laidKinds := [.data, .data, .data, .called, .called, .zero], laidTests := true, laidLooks := .later }
def FnAggregateUptoCardSaid : Prop := Claim7.holds Tryd.pinned (.plain (OpenSpec.upto fnAggregateSpec)) fnAggregateUptoCard
end Rows
end Go.Proofs.YtckfgdohpmllmaaDoor
