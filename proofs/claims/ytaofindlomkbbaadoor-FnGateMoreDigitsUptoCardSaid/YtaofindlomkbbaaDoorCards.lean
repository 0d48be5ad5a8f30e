/-
  DERIVED. GIVEN WITH THE SEED: THE CARDS: each row of YtaofindlomkbbaaDoorRows.lean that lists a variable, with what it lists TIED to the program's text (the seventh form; the later family's looks); each row that meets fmt, with fmt's text TOLD by the authors' own Lean function (tested against real Go, not proved from fmt's source: count such statements apart). THE CARD IS WHAT COUNTS. Prove the row's statement (the work); the ties are given (YtaofindlomkbbaaDoorTie.lean); close each card by the builder's one call (the guide's Derived/Test/ToyasCard.lean, 'card_holds'). Laid BY PROGRAM, IN A SANDBOX (cutbox-door.mjs). By AI agents, Wed Nov 11 2026. No macro, syntax, notation, axiom, sorry.
-/
import Derived.Test.YtaofindlomkbbaaDoorRows
import GoSem.ClaimSeven
namespace Go.Proofs.YtaofindlomkbbaaDoor
namespace Rows

/-- THE TIED CARD OF 'laws.FnGateCutText'. -/
def fnGateCutTextCard : Claim7 := { stood := { row := fnGateCutTextRow, standIns := [], harness := (true, "3e35a170f45963a069ace18dc734c719923dbd3567f23726a0eb624626e88a6d"), looks := true }, kinds := [], alts := [], laidByText := true, laidKinds := [.data, .data, .data, .data, .sentinel, .sentinel, .called, .called, .zero, .pinned, .pinned, .pinned, .pinned, .pinned, .pinned], laidTests := true, laidLooks := .later }
def FnGateCutTextCardSaid : Prop := Claim7.holds Tryd.pinned (.plain (OpenSpec.ofChange fnGateCutTextSpec)) fnGateCutTextCard

/-- THE TIED CARD OF 'laws.FnGateMoreDigits'. -/
def fnGateMoreDigitsCard : Claim7 := { stood := { row := fnGateMoreDigitsRow, standIns := [], harness := (true, "3e35a170f45963a069ace18dc734c719923dbd3567f23726a0eb624626e88a6d"), looks := true }, kinds := [], alts := [], laidByText := true, laidKinds := [.data, .data, .data, .data, .sentinel, .sentinel, .called, .called, .zero, .pinned, .pinned, .pinned, .pinned, .pinned, .pinned], laidTests := true, laidLooks := .later }
def FnGateMoreDigitsCardSaid : Prop := Claim7.holds Tryd.pinned (.plain (OpenSpec.ofChange fnGateMoreDigitsSpec)) fnGateMoreDigitsCard

/-- THE TIED CARD OF 'laws.FnGateOtherMark'. -/
def fnGateOtherMarkCard : Claim7 := { stood := { row := fnGateOtherMarkRow, standIns := [], harness := (true, "3e35a170f45963a069ace18dc734c719923dbd3567f23726a0eb624626e88a6d"), looks := true }, kinds := [], alts := [], laidByText := true, laidKinds := [.data, .data, .data, .data, .sentinel, .sentinel, .called, .called, .zero, .pinned, .pinned, .pinned, .pinned, .pinned, .pinned], laidTests := true, laidLooks := .later }
def FnGateOtherMarkCardSaid : Prop := Claim7.holds Tryd.pinned (.plain (OpenSpec.ofChange fnGateOtherMarkSpec)) fnGateOtherMarkCard

/-- THE TIED CARD OF 'laws.FnGateZerosAhead'. -/
def fnGateZerosAheadCard : Claim7 := { stood := { row := fnGateZerosAheadRow, standIns := [], harness := (true, "3e35a170f45963a069ace18dc734c719923dbd3567f23726a0eb624626e88a6d"), looks := true }, kinds := [], alts := [], laidByText := true, laidKinds := [.data, .data, .data, .data, .sentinel, .sentinel, .called, .called, .zero, .pinned, .pinned, .pinned, .pinned, .pinned, .pinned], laidTests := true, laidLooks := .later }
def FnGateZerosAheadCardSaid : Prop := Claim7.holds Tryd.pinned (.plain (OpenSpec.ofChange fnGateZerosAheadSpec)) fnGateZerosAheadCard

/-- THE SECOND FORM's CARD OF 'laws.FnGateCutText'. -/
def fnGateCutTextUptoCard : Claim7 := { stood := { row := fnGateCutTextUptoRow, standIns := [], harness := (true, "3e35a170f45963a069ace18dc734c719923dbd3567f23726a0eb624626e88a6d"), looks := true }, kinds := [], alts := [], laidByText := true, laidKinds := [.data, .data, .data, .data, .sentinel, .sentinel, .called, .called, .zero, .pinned, .pinned, .pinned, .pinned, .pinned, .pinned], laidTests := true, laidLooks := .later }
def FnGateCutTextUptoCardSaid : Prop := Claim7.holds Tryd.pinned (.plain (OpenSpec.upto fnGateCutTextSpec)) fnGateCutTextUptoCard

/-- THE SECOND FORM's CARD OF 'laws.FnGateMoreDigits'. -/
def fnGateMoreDigitsUptoCard : Claim7 := { stood := { row := fnGateMoreDigitsUptoRow, standIns := [], harness := (true, "3e35a170f45963a069ace18dc734c719923dbd3567f23726a0eb624626e88a6d"), looks := true }, kinds := [], alts := [], laidByText := true, laidKinds := [.data, .data, .data, .data, .sentinel, .sentinel, .called, .called, .zero, .pinned, .pinned, .pinned, .pinned, .pinned, .pinned], laidTests := true, laidLooks := .later }
def FnGateMoreDigitsUptoCardSaid : Prop := Claim7.holds Tryd.pinned (.plain (OpenSpec.upto fnGateMoreDigitsSpec)) fnGateMoreDigitsUptoCard

/-- THE SECOND FORM's CARD OF 'laws.FnGateOtherMark'. -/
def fnGateOtherMarkUptoCard : Claim7 := { stood := { row := fnGateOtherMarkUptoRow, standIns := [], harness := (true, "3e35a170f45963a069ace18dc734c719923dbd3567f23726a0eb624626e88a6d"), looks := true }, kinds := [], alts := [], laidByText := true, laidKinds := [.data, .data, .data, .data, .sentinel, .sentinel, .called, .called, .zero, .pinned, .pinned, .pinned, .pinned, .pinned, .pinned], laidTests := true, laidLooks := .later }
def FnGateOtherMarkUptoCardSaid : Prop := Claim7.holds Tryd.pinned (.plain (OpenSpec.upto fnGateOtherMarkSpec)) fnGateOtherMarkUptoCard

/-- THE SECOND FORM's CARD OF 'laws.FnGateZerosAhead'. -/
def fnGateZerosAheadUptoCard : Claim7 := { stood := { row := fnGateZerosAheadUptoRow, standIns := [], harness := (true, "3e35a170f45963a069ace18dc734c719923dbd3567f23726a0eb624626e88a6d"), looks := true }, kinds := [], alts := [], laidByText := true, laidKinds := [.data, .data, .data, .data, .sentinel, .sentinel, .called, .called, .zero, .pinned, .pinned, .pinned, .pinned, .pinned, .pinned], laidTests := true, laidLooks := .later }
def FnGateZerosAheadUptoCardSaid : Prop := Claim7.holds Tryd.pinned (.plain (OpenSpec.upto fnGateZerosAheadSpec)) fnGateZerosAheadUptoCard
end Rows
end Go.Proofs.YtaofindlomkbbaaDoor
