/-
  NARROWER THAN 'FOR EVERY INPUT', by the rows' own cells (each row's printed sentence says how): FnRanks: laid · FnWalkInTwo: laid · FnGateBetween: laid · FnWalkThereAndBack: laid · FnWalkAscends: laid · FnWalkCounted: laid · FnWalkLeavesNoneOut: laid · FnGateOfNeighbours: laid.
  DERIVED. THE GIVEN ROWS OF THIS SEAT. 8 by the template 'for every input the law returns true; each argument reads behind the call as it read before'; 0 by the template 'total and deterministic' (their statements: YtocckokbdacdfaaDoorTotals.lean).
  GIVEN WITH THE SEED: the statements are not yours to turn. If you find one false, say at which input.
  Laid BY PROGRAM, IN A SANDBOX (cutbox-rows.mjs): the forced cells as the released guide's own fill.sh prints them over the translation 05e758e6c2cef679… (all of the seat's roots in one cut). By AI agents, Wed Nov 11 2026. No macro, syntax, notation, axiom, sorry.
-/
import Derived.Test.YtocckokbdacdfaaDoorChecked
import GoSem.Claim
import GoSem.ClaimJoined
import GoSem.ClaimMapViews
import Derived.JoinedTies
import Derived.KernelRfl
namespace Go.Proofs.YtocckokbdacdfaaDoor
/- THE CELL 'sum', in the pinned program and in every row, IS THE sha256 OF THE DUMP (.gsa) THAT YtocckokbdacdfaaDoorProg.lean LOADS. Nothing in Lean hashes anything: it is a label: what it is worth is what the hold of that sum in a sandbox is worth. -/
noncomputable def Tryd.pinned : Pinned := { name := "ytocckokbdacdfaadoor", sum := "05e758e6c2cef679f6389075eb8214a006cfd004fc020f85e832a404a316f381", checked := Tryd.checked }
namespace Rows
def none {H : Type} : Left H := { results := [], args := [] }

/- WHAT THE LISTED PACKAGE-LEVEL VARIABLES READ AS WHEN THE CALL BEGINS. Each datum BY PROGRAM (the guide's laid-datum.mjs) off the statement by which the dump's own 'gosem.cut.vars' lays the variable. In a bare row this is a premise. The card (YtocckokbdacdfaaDoorCards.lean) ties it to the program's text. -/
def laid_net_netip_z4 {H : Type} : DataW H := .agg [.ptr (.agg [.lit (.bool false), .lit (.string [])])]
def laid_net_netip_z6noz {H : Type} : DataW H := .agg [.ptr (.agg [.lit (.bool true), .lit (.string [])])]
def laid_net_netip_z0 {H : Type} : DataW H := .agg [.nil]

/-- 'laws.FnRanks': WHATEVER THE INPUT: true; the input reads as it did. -/
def fnRanksSpec : ChangeSpec := { name := "fnRanks", fn := fun _ => fun
  | [d] => { results := [.lit (.bool true)], args := [d] }
  | _ => none }
def fnRanksRow : OpenClaim := { program := "ytocckokbdacdfaadoor", sum := "05e758e6c2cef679f6389075eb8214a006cfd004fc020f85e832a404a316f381", func := "loop.example/lib-g01423/laws.FnRanks", spec := "fnRanks", inPlace := ["unique.Make[net/netip.addrDetail]"], named := ["net/netip.z4", "net/netip.z6noz", "net/netip.z0"], apart := false, laid := [("net/netip.z4", laid_net_netip_z4), ("net/netip.z6noz", laid_net_netip_z6noz), ("net/netip.z0", laid_net_netip_z0)] }
def FnRanksSaid : Prop := fnRanksRow.holds Tryd.pinned (OpenSpec.ofChange fnRanksSpec)

/-- ITS FALSE NEIGHBOUR: 'it returns false'. Refute it at one input. -/
def fnRanksWrong : ChangeSpec := { name := "fnRanks", fn := fun _ => fun
  | [d] => { results := [.lit (.bool false)], args := [d] }
  | _ => none }
def FnRanksWrongFalsely : Prop := fnRanksRow.holds Tryd.pinned (OpenSpec.ofChange fnRanksWrong)

/-- 'laws.FnWalkInTwo': WHATEVER THE INPUT: true; the input reads as it did. -/
def fnWalkInTwoSpec : ChangeSpec := { name := "fnWalkInTwo", fn := fun _ => fun
  | [d1, d2, d3] => { results := [.lit (.bool true)], args := [d1, d2, d3] }
  | _ => none }
def fnWalkInTwoRow : OpenClaim := { program := "ytocckokbdacdfaadoor", sum := "05e758e6c2cef679f6389075eb8214a006cfd004fc020f85e832a404a316f381", func := "loop.example/lib-g01423/laws.FnWalkInTwo", spec := "fnWalkInTwo", inPlace := ["unique.Make[net/netip.addrDetail]", "math/bits.Add64"], named := ["net/netip.z4", "net/netip.z6noz", "net/netip.z0"], apart := false, laid := [("net/netip.z4", laid_net_netip_z4), ("net/netip.z6noz", laid_net_netip_z6noz), ("net/netip.z0", laid_net_netip_z0)] }
def FnWalkInTwoSaid : Prop := fnWalkInTwoRow.holds Tryd.pinned (OpenSpec.ofChange fnWalkInTwoSpec)

/-- ITS FALSE NEIGHBOUR: 'it returns false'. Refute it at one input. -/
def fnWalkInTwoWrong : ChangeSpec := { name := "fnWalkInTwo", fn := fun _ => fun
  | [d1, d2, d3] => { results := [.lit (.bool false)], args := [d1, d2, d3] }
  | _ => none }
def FnWalkInTwoWrongFalsely : Prop := fnWalkInTwoRow.holds Tryd.pinned (OpenSpec.ofChange fnWalkInTwoWrong)

/-- 'laws.FnGateBetween': WHATEVER THE INPUT: true; the input reads as it did. -/
def fnGateBetweenSpec : ChangeSpec := { name := "fnGateBetween", fn := fun _ => fun
  | [d1, d2, d3, d4, d5] => { results := [.lit (.bool true)], args := [d1, d2, d3, d4, d5] }
  | _ => none }
def fnGateBetweenRow : OpenClaim := { program := "ytocckokbdacdfaadoor", sum := "05e758e6c2cef679f6389075eb8214a006cfd004fc020f85e832a404a316f381", func := "loop.example/lib-g01423/laws.FnGateBetween", spec := "fnGateBetween", inPlace := ["unique.Make[net/netip.addrDetail]"], named := ["net/netip.z4", "net/netip.z6noz", "net/netip.z0"], apart := false, laid := [("net/netip.z4", laid_net_netip_z4), ("net/netip.z6noz", laid_net_netip_z6noz), ("net/netip.z0", laid_net_netip_z0)] }
def FnGateBetweenSaid : Prop := fnGateBetweenRow.holds Tryd.pinned (OpenSpec.ofChange fnGateBetweenSpec)

/-- ITS FALSE NEIGHBOUR: 'it returns false'. Refute it at one input. -/
def fnGateBetweenWrong : ChangeSpec := { name := "fnGateBetween", fn := fun _ => fun
  | [d1, d2, d3, d4, d5] => { results := [.lit (.bool false)], args := [d1, d2, d3, d4, d5] }
  | _ => none }
def FnGateBetweenWrongFalsely : Prop := fnGateBetweenRow.holds Tryd.pinned (OpenSpec.ofChange fnGateBetweenWrong)

/-- 'laws.FnWalkThereAndBack': WHATEVER THE INPUT: true; the input reads as it did. -/
def fnWalkThereAndBackSpec : ChangeSpec := { name := "fnWalkThereAndBack", fn := fun _ => fun
  | [d1, d2] => { results := [.lit (.bool true)], args := [d1, d2] }
  | _ => none }
def fnWalkThereAndBackRow : OpenClaim := { program := "ytocckokbdacdfaadoor", sum := "05e758e6c2cef679f6389075eb8214a006cfd004fc020f85e832a404a316f381", func := "loop.example/lib-g01423/laws.FnWalkThereAndBack", spec := "fnWalkThereAndBack", inPlace := ["unique.Make[net/netip.addrDetail]", "math/bits.Add64", "math/bits.Sub64"], named := ["net/netip.z4", "net/netip.z6noz", "net/netip.z0"], apart := false, laid := [("net/netip.z4", laid_net_netip_z4), ("net/netip.z6noz", laid_net_netip_z6noz), ("net/netip.z0", laid_net_netip_z0)] }
def FnWalkThereAndBackSaid : Prop := fnWalkThereAndBackRow.holds Tryd.pinned (OpenSpec.ofChange fnWalkThereAndBackSpec)

/-- ITS FALSE NEIGHBOUR: 'it returns false'. Refute it at one input. -/
def fnWalkThereAndBackWrong : ChangeSpec := { name := "fnWalkThereAndBack", fn := fun _ => fun
  | [d1, d2] => { results := [.lit (.bool false)], args := [d1, d2] }
  | _ => none }
def FnWalkThereAndBackWrongFalsely : Prop := fnWalkThereAndBackRow.holds Tryd.pinned (OpenSpec.ofChange fnWalkThereAndBackWrong)

/-- 'laws.FnWalkAscends': WHATEVER THE INPUT: true; the input reads as it did. -/
def fnWalkAscendsSpec : ChangeSpec := { name := "fnWalkAscends", fn := fun _ => fun
  | [d1, d2] => { results := [.lit (.bool true)], args := [d1, d2] }
  | _ => none }
def fnWalkAscendsRow : OpenClaim := { program := "ytocckokbdacdfaadoor", sum := "05e758e6c2cef679f6389075eb8214a006cfd004fc020f85e832a404a316f381", func := "loop.example/lib-g01423/laws.FnWalkAscends", spec := "fnWalkAscends", inPlace := ["unique.Make[net/netip.addrDetail]", "math/bits.Add64"], named := ["net/netip.z4", "net/netip.z6noz", "net/netip.z0"], apart := false, laid := [("net/netip.z4", laid_net_netip_z4), ("net/netip.z6noz", laid_net_netip_z6noz), ("net/netip.z0", laid_net_netip_z0)] }
def FnWalkAscendsSaid : Prop := fnWalkAscendsRow.holds Tryd.pinned (OpenSpec.ofChange fnWalkAscendsSpec)

/-- ITS FALSE NEIGHBOUR: 'it returns false'. Refute it at one input. -/
def fnWalkAscendsWrong : ChangeSpec := { name := "fnWalkAscends", fn := fun _ => fun
  | [d1, d2] => { results := [.lit (.bool false)], args := [d1, d2] }
  | _ => none }
def FnWalkAscendsWrongFalsely : Prop := fnWalkAscendsRow.holds Tryd.pinned (OpenSpec.ofChange fnWalkAscendsWrong)

/-- 'laws.FnWalkCounted': WHATEVER THE INPUT: true; the input reads as it did. -/
def fnWalkCountedSpec : ChangeSpec := { name := "fnWalkCounted", fn := fun _ => fun
  | [d1, d2, d3] => { results := [.lit (.bool true)], args := [d1, d2, d3] }
  | _ => none }
def fnWalkCountedRow : OpenClaim := { program := "ytocckokbdacdfaadoor", sum := "05e758e6c2cef679f6389075eb8214a006cfd004fc020f85e832a404a316f381", func := "loop.example/lib-g01423/laws.FnWalkCounted", spec := "fnWalkCounted", inPlace := ["unique.Make[net/netip.addrDetail]", "math/bits.Add64"], named := ["net/netip.z4", "net/netip.z6noz", "net/netip.z0"], apart := false, laid := [("net/netip.z4", laid_net_netip_z4), ("net/netip.z6noz", laid_net_netip_z6noz), ("net/netip.z0", laid_net_netip_z0)] }
def FnWalkCountedSaid : Prop := fnWalkCountedRow.holds Tryd.pinned (OpenSpec.ofChange fnWalkCountedSpec)

/-- ITS FALSE NEIGHBOUR: 'it returns false'. Refute it at one input. -/
def fnWalkCountedWrong : ChangeSpec := { name := "fnWalkCounted", fn := fun _ => fun
  | [d1, d2, d3] => { results := [.lit (.bool false)], args := [d1, d2, d3] }
  | _ => none }
def FnWalkCountedWrongFalsely : Prop := fnWalkCountedRow.holds Tryd.pinned (OpenSpec.ofChange fnWalkCountedWrong)

/-- 'laws.FnWalkLeavesNoneOut': WHATEVER THE INPUT: true; the input reads as it did. -/
def fnWalkLeavesNoneOutSpec : ChangeSpec := { name := "fnWalkLeavesNoneOut", fn := fun _ => fun
  | [d1, d2, d3] => { results := [.lit (.bool true)], args := [d1, d2, d3] }
  | _ => none }
def fnWalkLeavesNoneOutRow : OpenClaim := { program := "ytocckokbdacdfaadoor", sum := "05e758e6c2cef679f6389075eb8214a006cfd004fc020f85e832a404a316f381", func := "loop.example/lib-g01423/laws.FnWalkLeavesNoneOut", spec := "fnWalkLeavesNoneOut", inPlace := ["unique.Make[net/netip.addrDetail]", "math/bits.Add64"], named := ["net/netip.z4", "net/netip.z6noz", "net/netip.z0"], apart := false, laid := [("net/netip.z4", laid_net_netip_z4), ("net/netip.z6noz", laid_net_netip_z6noz), ("net/netip.z0", laid_net_netip_z0)] }
def FnWalkLeavesNoneOutSaid : Prop := fnWalkLeavesNoneOutRow.holds Tryd.pinned (OpenSpec.ofChange fnWalkLeavesNoneOutSpec)

/-- ITS FALSE NEIGHBOUR: 'it returns false'. Refute it at one input. -/
def fnWalkLeavesNoneOutWrong : ChangeSpec := { name := "fnWalkLeavesNoneOut", fn := fun _ => fun
  | [d1, d2, d3] => { results := [.lit (.bool false)], args := [d1, d2, d3] }
  | _ => none }
def FnWalkLeavesNoneOutWrongFalsely : Prop := fnWalkLeavesNoneOutRow.holds Tryd.pinned (OpenSpec.ofChange fnWalkLeavesNoneOutWrong)

/-- 'laws.FnGateOfNeighbours': WHATEVER THE INPUT: true; the input reads as it did. -/
def fnGateOfNeighboursSpec : ChangeSpec := { name := "fnGateOfNeighbours", fn := fun _ => fun
  | [d1, d2, d3, d4, d5] => { results := [.lit (.bool true)], args := [d1, d2, d3, d4, d5] }
  | _ => none }
def fnGateOfNeighboursRow : OpenClaim := { program := "ytocckokbdacdfaadoor", sum := "05e758e6c2cef679f6389075eb8214a006cfd004fc020f85e832a404a316f381", func := "loop.example/lib-g01423/laws.FnGateOfNeighbours", spec := "fnGateOfNeighbours", inPlace := ["unique.Make[net/netip.addrDetail]", "math/bits.Add64"], named := ["net/netip.z4", "net/netip.z6noz", "net/netip.z0"], apart := false, laid := [("net/netip.z4", laid_net_netip_z4), ("net/netip.z6noz", laid_net_netip_z6noz), ("net/netip.z0", laid_net_netip_z0)] }
def FnGateOfNeighboursSaid : Prop := fnGateOfNeighboursRow.holds Tryd.pinned (OpenSpec.ofChange fnGateOfNeighboursSpec)

/-- ITS FALSE NEIGHBOUR: 'it returns false'. Refute it at one input. -/
def fnGateOfNeighboursWrong : ChangeSpec := { name := "fnGateOfNeighbours", fn := fun _ => fun
  | [d1, d2, d3, d4, d5] => { results := [.lit (.bool false)], args := [d1, d2, d3, d4, d5] }
  | _ => none }
def FnGateOfNeighboursWrongFalsely : Prop := fnGateOfNeighboursRow.holds Tryd.pinned (OpenSpec.ofChange fnGateOfNeighboursWrong)

/- THE SECOND FORM. 'bulk': how many values and letters a reading holds, each counted each time it is reached (what is shared counts as often as it is met; a slice's spare places count too). A statement '..UptoSaid' is the law's where the arguments, and the package variables that the reading takes, are together of bulk at most 1048576: NARROWER than '..Said'. Prove '..Said' where nothing that the law and all that it calls make is longer than what came in: it says more and counts as full. Else prove '..UptoSaid'. A law counts once. -/
mutual
def uptoBulk {H : Type} : DataW H → Nat
  | .lit (.string bytes) => bytes.length + 1
  | .lit _ => 1
  | .nil => 1
  | .ptr d => uptoBulk d + 1
  | .slice elems spare => uptoBulkAll elems + uptoBulkAll spare + 1
  | .agg parts => uptoBulkAll parts + 1
  | .iface _ d => uptoBulk d + 1
  | .map entries => uptoBulkEntries entries + 1
  | .held _ => 1
def uptoBulkAll {H : Type} : List (DataW H) → Nat
  | [] => 0
  | d :: r => uptoBulk d + uptoBulkAll r
def uptoBulkEntries {H : Type} : List (Lit × DataW H) → Nat
  | [] => 0
  | x :: r => uptoBulkEntry x + uptoBulkEntries r
def uptoBulkEntry {H : Type} : Lit × DataW H → Nat
  | (.string bytes, d) => bytes.length + uptoBulk d + 1
  | (_, d) => uptoBulk d + 1
 end
def uptoSmall : (H : Type) → List (DataW H) → Bool := fun _ ds => decide (uptoBulkAll ds ≤ 1048576)
def OpenSpec.upto (s : _root_.Go.ChangeSpec) : _root_.Go.OpenSpec := { _root_.Go.OpenSpec.ofChange s with cond := some uptoSmall }

/-- 'laws.FnRanks', WHERE WHAT IT READS IS OF BULK AT MOST 1048576: true; the input reads as it did. -/
def fnRanksUptoRow : OpenClaim := { program := "ytocckokbdacdfaadoor", sum := "05e758e6c2cef679f6389075eb8214a006cfd004fc020f85e832a404a316f381", func := "loop.example/lib-g01423/laws.FnRanks", spec := "fnRanks", inPlace := ["unique.Make[net/netip.addrDetail]"], named := ["net/netip.z4", "net/netip.z6noz", "net/netip.z0"], apart := false, laid := [("net/netip.z4", laid_net_netip_z4), ("net/netip.z6noz", laid_net_netip_z6noz), ("net/netip.z0", laid_net_netip_z0)], narrowed := true }
def FnRanksUptoSaid : Prop := fnRanksUptoRow.holds Tryd.pinned (OpenSpec.upto fnRanksSpec)

/-- 'laws.FnWalkInTwo', WHERE WHAT IT READS IS OF BULK AT MOST 1048576: true; the input reads as it did. -/
def fnWalkInTwoUptoRow : OpenClaim := { program := "ytocckokbdacdfaadoor", sum := "05e758e6c2cef679f6389075eb8214a006cfd004fc020f85e832a404a316f381", func := "loop.example/lib-g01423/laws.FnWalkInTwo", spec := "fnWalkInTwo", inPlace := ["unique.Make[net/netip.addrDetail]", "math/bits.Add64"], named := ["net/netip.z4", "net/netip.z6noz", "net/netip.z0"], apart := false, laid := [("net/netip.z4", laid_net_netip_z4), ("net/netip.z6noz", laid_net_netip_z6noz), ("net/netip.z0", laid_net_netip_z0)], narrowed := true }
def FnWalkInTwoUptoSaid : Prop := fnWalkInTwoUptoRow.holds Tryd.pinned (OpenSpec.upto fnWalkInTwoSpec)

/-- 'laws.FnGateBetween', WHERE WHAT IT READS IS OF BULK AT MOST 1048576: true; the input reads as it did. -/
def fnGateBetweenUptoRow : OpenClaim := { program := "ytocckokbdacdfaadoor", sum := "05e758e6c2cef679f6389075eb8214a006cfd004fc020f85e832a404a316f381", func := "loop.example/lib-g01423/laws.FnGateBetween", spec := "fnGateBetween", inPlace := ["unique.Make[net/netip.addrDetail]"], named := ["net/netip.z4", "net/netip.z6noz", "net/netip.z0"], apart := false, laid := [("net/netip.z4", laid_net_netip_z4), ("net/netip.z6noz", laid_net_netip_z6noz), ("net/netip.z0", laid_net_netip_z0)], narrowed := true }
def FnGateBetweenUptoSaid : Prop := fnGateBetweenUptoRow.holds Tryd.pinned (OpenSpec.upto fnGateBetweenSpec)

/-- 'laws.FnWalkThereAndBack', WHERE WHAT IT READS IS OF BULK AT MOST 1048576: true; the input reads as it did. -/
def fnWalkThereAndBackUptoRow : OpenClaim := { program := "ytocckokbdacdfaadoor", sum := "05e758e6c2cef679f6389075eb8214a006cfd004fc020f85e832a404a316f381", func := "loop.example/lib-g01423/laws.FnWalkThereAndBack", spec := "fnWalkThereAndBack", inPlace := ["unique.Make[net/netip.addrDetail]", "math/bits.Add64", "math/bits.Sub64"], named := ["net/netip.z4", "net/netip.z6noz", "net/netip.z0"], apart := false, laid := [("net/netip.z4", laid_net_netip_z4), ("net/netip.z6noz", laid_net_netip_z6noz), ("net/netip.z0", laid_net_netip_z0)], narrowed := true }
def FnWalkThereAndBackUptoSaid : Prop := fnWalkThereAndBackUptoRow.holds Tryd.pinned (OpenSpec.upto fnWalkThereAndBackSpec)

/-- 'laws.FnWalkAscends', WHERE WHAT IT READS IS OF BULK AT MOST 1048576: true; the input reads as it did. -/
def fnWalkAscendsUptoRow : OpenClaim := { program := "ytocckokbdacdfaadoor", sum := "05e758e6c2cef679f6389075eb8214a006cfd004fc020f85e832a404a316f381", func := "loop.example/lib-g01423/laws.FnWalkAscends", spec := "fnWalkAscends", inPlace := ["unique.Make[net/netip.addrDetail]", "math/bits.Add64"], named := ["net/netip.z4", "net/netip.z6noz", "net/netip.z0"], apart := false, laid := [("net/netip.z4", laid_net_netip_z4), ("net/netip.z6noz", laid_net_netip_z6noz), ("net/netip.z0", laid_net_netip_z0)], narrowed := true }
def FnWalkAscendsUptoSaid : Prop := fnWalkAscendsUptoRow.holds Tryd.pinned (OpenSpec.upto fnWalkAscendsSpec)

/-- 'laws.FnWalkCounted', WHERE WHAT IT READS IS OF BULK AT MOST 1048576: true; the input reads as it did. -/
def fnWalkCountedUptoRow : OpenClaim := { program := "ytocckokbdacdfaadoor", sum := "05e758e6c2cef679f6389075eb8214a006cfd004fc020f85e832a404a316f381", func := "loop.example/lib-g01423/laws.FnWalkCounted", spec := "fnWalkCounted", inPlace := ["unique.Make[net/netip.addrDetail]", "math/bits.Add64"], named := ["net/netip.z4", "net/netip.z6noz", "net/netip.z0"], apart := false, laid := [("net/netip.z4", laid_net_netip_z4), ("net/netip.z6noz", laid_net_netip_z6noz), ("net/netip.z0", laid_net_netip_z0)], narrowed := true }
def FnWalkCountedUptoSaid : Prop := fnWalkCountedUptoRow.holds Tryd.pinned (OpenSpec.upto fnWalkCountedSpec)

/-- 'laws.FnWalkLeavesNoneOut', WHERE WHAT IT READS IS OF BULK AT MOST 1048576: true; the input reads as it did. -/
def fnWalkLeavesNoneOutUptoRow : OpenClaim := { program := "ytocckokbdacdfaadoor", sum := "05e758e6c2cef679f6389075eb8214a006cfd004fc020f85e832a404a316f381", func := "loop.example/lib-g01423/laws.FnWalkLeavesNoneOut", spec := "fnWalkLeavesNoneOut", inPlace := ["unique.Make[net/netip.addrDetail]", "math/bits.Add64"], named := ["net/netip.z4", "net/netip.z6noz", "net/netip.z0"], apart := false, laid := [("net/netip.z4", laid_net_netip_z4), ("net/netip.z6noz", laid_net_netip_z6noz), ("net/netip.z0", laid_net_netip_z0)], narrowed := true }
def FnWalkLeavesNoneOutUptoSaid : Prop := fnWalkLeavesNoneOutUptoRow.holds Tryd.pinned (OpenSpec.upto fnWalkLeavesNoneOutSpec)

/-- 'laws.FnGateOfNeighbours', WHERE WHAT IT READS IS OF BULK AT MOST 1048576: true; the input reads as it did. -/
def fnGateOfNeighboursUptoRow : OpenClaim := { program := "ytocckokbdacdfaadoor", sum := "05e758e6c2cef679f6389075eb8214a006cfd004fc020f85e832a404a316f381", func := "loop.example/lib-g01423/laws.FnGateOfNeighbours", spec := "fnGateOfNeighbours", inPlace := ["unique.Make[net/netip.addrDetail]", "math/bits.Add64"], named := ["net/netip.z4", "net/netip.z6noz", "net/netip.z0"], apart := false, laid := [("net/netip.z4", laid_net_netip_z4), ("net/netip.z6noz", laid_net_netip_z6noz), ("net/netip.z0", laid_net_netip_z0)], narrowed := true }
def FnGateOfNeighboursUptoSaid : Prop := fnGateOfNeighboursUptoRow.holds Tryd.pinned (OpenSpec.upto fnGateOfNeighboursSpec)

end Rows
end Go.Proofs.YtocckokbdacdfaaDoor
