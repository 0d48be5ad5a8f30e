/-
  NARROWER THAN 'FOR EVERY INPUT', by the rows' own cells (each row's printed sentence says how): FnLeftOut: laid · FnMasksInARow: laid · FnAllInCommon: laid · FnBothContain: laid · FnCutParts: laid · FnSortedAlike: laid · FnCommonBits: laid · FnRangeCover: laid · FnNestedRun: laid · FnOverlapRun: laid · FnPartsAbut: laid · FnMaskedInOrder: laid · FnLongestMatch: laid · FnAggregate: laid.
  DERIVED. THE GIVEN ROWS OF THIS SEAT. 14 by the template 'for every input the law returns true; each argument reads behind the call as it read before'; 0 by the template 'total and deterministic' (their statements: YtckfgdohpmllmaaDoorTotals.lean).
  GIVEN WITH THE SEED: the statements are not yours to turn. If you find one false, say at which input.
  Laid BY PROGRAM, IN A SANDBOX (cutbox-rows.mjs): the forced cells as the released guide's own fill.sh prints them over the translation 2d331faf99b85be5… (all of the seat's roots in one cut). By AI agents, Wed Nov 11 2026. No macro, syntax, notation, axiom, sorry.
-/
import Derived.Test.YtckfgdohpmllmaaDoorChecked
import GoSem.Claim
import GoSem.ClaimJoined
import GoSem.ClaimMapViews
import Derived.JoinedTies
import Derived.KernelRfl
namespace Go.Proofs.YtckfgdohpmllmaaDoor
/- THE CELL 'sum', in the pinned program and in every row, IS THE sha256 OF THE DUMP (.gsa) THAT YtckfgdohpmllmaaDoorProg.lean LOADS. Nothing in Lean hashes anything: it is a label: what it is worth is what the hold of that sum in a sandbox is worth. -/
noncomputable def Tryd.pinned : Pinned := { name := "ytckfgdohpmllmaadoor", sum := "2d331faf99b85be572439ace395c9a9bca34724708dc8ca1f48aef7ff97a71e6", checked := Tryd.checked }
namespace Rows
def none {H : Type} : Left H := { results := [], args := [] }

/- WHAT THE LISTED PACKAGE-LEVEL VARIABLES READ AS WHEN THE CALL BEGINS. Each datum BY PROGRAM (the guide's laid-datum.mjs) off the statement by which the dump's own 'gosem.cut.vars' lays the variable. In a bare row this is a premise. The card (YtckfgdohpmllmaaDoorCards.lean) ties it to the program's text. -/
def laid_net_netip_z4 {H : Type} : DataW H := .agg [.ptr (.agg [.lit (.bool false), .lit (.string [])])]
def laid_net_netip_z6noz {H : Type} : DataW H := .agg [.ptr (.agg [.lit (.bool true), .lit (.string [])])]
def laid_net_netip_z0 {H : Type} : DataW H := .agg [.nil]
def laid_math_bits_deBruijn32tab {H : Type} : DataW H := .agg [.lit (.int .u8 0), .lit (.int .u8 1), .lit (.int .u8 28), .lit (.int .u8 2), .lit (.int .u8 29), .lit (.int .u8 14), .lit (.int .u8 24), .lit (.int .u8 3), .lit (.int .u8 30), .lit (.int .u8 22), .lit (.int .u8 20), .lit (.int .u8 15), .lit (.int .u8 25), .lit (.int .u8 17), .lit (.int .u8 4), .lit (.int .u8 8), .lit (.int .u8 31), .lit (.int .u8 27), .lit (.int .u8 13), .lit (.int .u8 23), .lit (.int .u8 21), .lit (.int .u8 19), .lit (.int .u8 16), .lit (.int .u8 7), .lit (.int .u8 26), .lit (.int .u8 12), .lit (.int .u8 18), .lit (.int .u8 6), .lit (.int .u8 11), .lit (.int .u8 5), .lit (.int .u8 10), .lit (.int .u8 9)]
def laid_math_bits_deBruijn64tab {H : Type} : DataW H := .agg [.lit (.int .u8 0), .lit (.int .u8 1), .lit (.int .u8 56), .lit (.int .u8 2), .lit (.int .u8 57), .lit (.int .u8 49), .lit (.int .u8 28), .lit (.int .u8 3), .lit (.int .u8 61), .lit (.int .u8 58), .lit (.int .u8 42), .lit (.int .u8 50), .lit (.int .u8 38), .lit (.int .u8 29), .lit (.int .u8 17), .lit (.int .u8 4), .lit (.int .u8 62), .lit (.int .u8 47), .lit (.int .u8 59), .lit (.int .u8 36), .lit (.int .u8 45), .lit (.int .u8 43), .lit (.int .u8 51), .lit (.int .u8 22), .lit (.int .u8 53), .lit (.int .u8 39), .lit (.int .u8 33), .lit (.int .u8 30), .lit (.int .u8 24), .lit (.int .u8 18), .lit (.int .u8 12), .lit (.int .u8 5), .lit (.int .u8 63), .lit (.int .u8 55), .lit (.int .u8 48), .lit (.int .u8 27), .lit (.int .u8 60), .lit (.int .u8 41), .lit (.int .u8 37), .lit (.int .u8 16), .lit (.int .u8 46), .lit (.int .u8 35), .lit (.int .u8 44), .lit (.int .u8 21), .lit (.int .u8 52), .lit (.int .u8 32), .lit (.int .u8 23), .lit (.int .u8 11), .lit (.int .u8 54), .lit (.int .u8 26), .lit (.int .u8 40), .lit (.int .u8 15), .lit (.int .u8 34), .lit (.int .u8 20), .lit (.int .u8 31), .lit (.int .u8 10), .lit (.int .u8 25), .lit (.int .u8 14), .lit (.int .u8 19), .lit (.int .u8 9), .lit (.int .u8 13), .lit (.int .u8 8), .lit (.int .u8 7), .lit (.int .u8 6)]
def laid_internal_strconv_uint64pow10 {H : Type} : DataW H := .agg [.lit (.int .u64 1), .lit (.int .u64 10), .lit (.int .u64 100), .lit (.int .u64 1000), .lit (.int .u64 10000), .lit (.int .u64 100000), .lit (.int .u64 1000000), .lit (.int .u64 10000000), .lit (.int .u64 100000000), .lit (.int .u64 1000000000), .lit (.int .u64 10000000000), .lit (.int .u64 100000000000), .lit (.int .u64 1000000000000), .lit (.int .u64 10000000000000), .lit (.int .u64 100000000000000), .lit (.int .u64 1000000000000000), .lit (.int .u64 10000000000000000), .lit (.int .u64 100000000000000000), .lit (.int .u64 1000000000000000000), .lit (.int .u64 10000000000000000000)]

/-- 'laws.FnLeftOut': WHATEVER THE INPUT: true; the input reads as it did. -/
def fnLeftOutSpec : ChangeSpec := { name := "fnLeftOut", fn := fun _ => fun
  | [d1, d2, d3, d4, d5] => { results := [.lit (.bool true)], args := [d1, d2, d3, d4, d5] }
  | _ => none }
def fnLeftOutRow : OpenClaim := { program := "ytckfgdohpmllmaadoor", sum := "2d331faf99b85be572439ace395c9a9bca34724708dc8ca1f48aef7ff97a71e6", func := "loop.example/lib-g01423/laws.FnLeftOut", spec := "fnLeftOut", inPlace := ["unique.Make[net/netip.addrDetail]"], named := ["net/netip.z4", "net/netip.z6noz", "net/netip.z0"], apart := false, laid := [("net/netip.z4", laid_net_netip_z4), ("net/netip.z6noz", laid_net_netip_z6noz), ("net/netip.z0", laid_net_netip_z0)] }
def FnLeftOutSaid : Prop := fnLeftOutRow.holds Tryd.pinned (OpenSpec.ofChange fnLeftOutSpec)

/-- ITS FALSE NEIGHBOUR: 'it returns false'. Refute it at one input. -/
def fnLeftOutWrong : ChangeSpec := { name := "fnLeftOut", fn := fun _ => fun
  | [d1, d2, d3, d4, d5] => { results := [.lit (.bool false)], args := [d1, d2, d3, d4, d5] }
  | _ => none }
def FnLeftOutWrongFalsely : Prop := fnLeftOutRow.holds Tryd.pinned (OpenSpec.ofChange fnLeftOutWrong)

/-- 'laws.FnMasksInARow': WHATEVER THE INPUT: true; the input reads as it did. -/
def fnMasksInARowSpec : ChangeSpec := { name := "fnMasksInARow", fn := fun _ => fun
  | [d1, d2] => { results := [.lit (.bool true)], args := [d1, d2] }
  | _ => none }
def fnMasksInARowRow : OpenClaim := { program := "ytckfgdohpmllmaadoor", sum := "2d331faf99b85be572439ace395c9a9bca34724708dc8ca1f48aef7ff97a71e6", func := "loop.example/lib-g01423/laws.FnMasksInARow", spec := "fnMasksInARow", inPlace := ["unique.Make[net/netip.addrDetail]"], named := ["net/netip.z4", "net/netip.z6noz", "net/netip.z0", "internal/strconv.uint64pow10", "math/bits.deBruijn32tab", "math/bits.deBruijn64tab"], apart := false, laid := [("math/bits.deBruijn32tab", laid_math_bits_deBruijn32tab), ("math/bits.deBruijn64tab", laid_math_bits_deBruijn64tab), ("internal/strconv.uint64pow10", laid_internal_strconv_uint64pow10), ("net/netip.z4", laid_net_netip_z4), ("net/netip.z6noz", laid_net_netip_z6noz), ("net/netip.z0", laid_net_netip_z0)] }
def FnMasksInARowSaid : Prop := fnMasksInARowRow.holds Tryd.pinned (OpenSpec.ofChange fnMasksInARowSpec)

/-- ITS FALSE NEIGHBOUR: 'it returns false'. Refute it at one input. -/
def fnMasksInARowWrong : ChangeSpec := { name := "fnMasksInARow", fn := fun _ => fun
  | [d1, d2] => { results := [.lit (.bool false)], args := [d1, d2] }
  | _ => none }
def FnMasksInARowWrongFalsely : Prop := fnMasksInARowRow.holds Tryd.pinned (OpenSpec.ofChange fnMasksInARowWrong)

/-- 'laws.FnAllInCommon': WHATEVER THE INPUT: true; the input reads as it did. -/
def fnAllInCommonSpec : ChangeSpec := { name := "fnAllInCommon", fn := fun _ => fun
  | [d1, d2, d3] => { results := [.lit (.bool true)], args := [d1, d2, d3] }
  | _ => none }
def fnAllInCommonRow : OpenClaim := { program := "ytckfgdohpmllmaadoor", sum := "2d331faf99b85be572439ace395c9a9bca34724708dc8ca1f48aef7ff97a71e6", func := "loop.example/lib-g01423/laws.FnAllInCommon", spec := "fnAllInCommon", inPlace := ["unique.Make[net/netip.addrDetail]"], named := ["net/netip.z4", "net/netip.z6noz", "net/netip.z0", "internal/strconv.uint64pow10", "math/bits.deBruijn32tab", "math/bits.deBruijn64tab"], apart := false, laid := [("math/bits.deBruijn32tab", laid_math_bits_deBruijn32tab), ("math/bits.deBruijn64tab", laid_math_bits_deBruijn64tab), ("internal/strconv.uint64pow10", laid_internal_strconv_uint64pow10), ("net/netip.z4", laid_net_netip_z4), ("net/netip.z6noz", laid_net_netip_z6noz), ("net/netip.z0", laid_net_netip_z0)] }
def FnAllInCommonSaid : Prop := fnAllInCommonRow.holds Tryd.pinned (OpenSpec.ofChange fnAllInCommonSpec)

/-- ITS FALSE NEIGHBOUR: 'it returns false'. Refute it at one input. -/
def fnAllInCommonWrong : ChangeSpec := { name := "fnAllInCommon", fn := fun _ => fun
  | [d1, d2, d3] => { results := [.lit (.bool false)], args := [d1, d2, d3] }
  | _ => none }
def FnAllInCommonWrongFalsely : Prop := fnAllInCommonRow.holds Tryd.pinned (OpenSpec.ofChange fnAllInCommonWrong)

/-- 'laws.FnBothContain': WHATEVER THE INPUT: true; the input reads as it did. -/
def fnBothContainSpec : ChangeSpec := { name := "fnBothContain", fn := fun _ => fun
  | [d1, d2, d3] => { results := [.lit (.bool true)], args := [d1, d2, d3] }
  | _ => none }
def fnBothContainRow : OpenClaim := { program := "ytckfgdohpmllmaadoor", sum := "2d331faf99b85be572439ace395c9a9bca34724708dc8ca1f48aef7ff97a71e6", func := "loop.example/lib-g01423/laws.FnBothContain", spec := "fnBothContain", inPlace := ["unique.Make[net/netip.addrDetail]"], named := ["net/netip.z4", "net/netip.z6noz", "net/netip.z0", "internal/strconv.uint64pow10", "math/bits.deBruijn32tab", "math/bits.deBruijn64tab"], apart := false, laid := [("math/bits.deBruijn32tab", laid_math_bits_deBruijn32tab), ("math/bits.deBruijn64tab", laid_math_bits_deBruijn64tab), ("internal/strconv.uint64pow10", laid_internal_strconv_uint64pow10), ("net/netip.z4", laid_net_netip_z4), ("net/netip.z6noz", laid_net_netip_z6noz), ("net/netip.z0", laid_net_netip_z0)] }
def FnBothContainSaid : Prop := fnBothContainRow.holds Tryd.pinned (OpenSpec.ofChange fnBothContainSpec)

/-- ITS FALSE NEIGHBOUR: 'it returns false'. Refute it at one input. -/
def fnBothContainWrong : ChangeSpec := { name := "fnBothContain", fn := fun _ => fun
  | [d1, d2, d3] => { results := [.lit (.bool false)], args := [d1, d2, d3] }
  | _ => none }
def FnBothContainWrongFalsely : Prop := fnBothContainRow.holds Tryd.pinned (OpenSpec.ofChange fnBothContainWrong)

/-- 'laws.FnCutParts': WHATEVER THE INPUT: true; the input reads as it did. -/
def fnCutPartsSpec : ChangeSpec := { name := "fnCutParts", fn := fun _ => fun
  | [d1, d2, d3, d4] => { results := [.lit (.bool true)], args := [d1, d2, d3, d4] }
  | _ => none }
def fnCutPartsRow : OpenClaim := { program := "ytckfgdohpmllmaadoor", sum := "2d331faf99b85be572439ace395c9a9bca34724708dc8ca1f48aef7ff97a71e6", func := "loop.example/lib-g01423/laws.FnCutParts", spec := "fnCutParts", inPlace := ["unique.Make[net/netip.addrDetail]"], named := ["net/netip.z4", "net/netip.z6noz", "net/netip.z0", "internal/strconv.uint64pow10", "math/bits.deBruijn32tab", "math/bits.deBruijn64tab"], apart := false, laid := [("math/bits.deBruijn32tab", laid_math_bits_deBruijn32tab), ("math/bits.deBruijn64tab", laid_math_bits_deBruijn64tab), ("internal/strconv.uint64pow10", laid_internal_strconv_uint64pow10), ("net/netip.z4", laid_net_netip_z4), ("net/netip.z6noz", laid_net_netip_z6noz), ("net/netip.z0", laid_net_netip_z0)] }
def FnCutPartsSaid : Prop := fnCutPartsRow.holds Tryd.pinned (OpenSpec.ofChange fnCutPartsSpec)

/-- ITS FALSE NEIGHBOUR: 'it returns false'. Refute it at one input. -/
def fnCutPartsWrong : ChangeSpec := { name := "fnCutParts", fn := fun _ => fun
  | [d1, d2, d3, d4] => { results := [.lit (.bool false)], args := [d1, d2, d3, d4] }
  | _ => none }
def FnCutPartsWrongFalsely : Prop := fnCutPartsRow.holds Tryd.pinned (OpenSpec.ofChange fnCutPartsWrong)

/-- 'laws.FnSortedAlike': WHATEVER THE INPUT: true; the input reads as it did. -/
def fnSortedAlikeSpec : ChangeSpec := { name := "fnSortedAlike", fn := fun _ => fun
  | [d1, d2, d3] => { results := [.lit (.bool true)], args := [d1, d2, d3] }
  | _ => none }
def fnSortedAlikeRow : OpenClaim := { program := "ytckfgdohpmllmaadoor", sum := "2d331faf99b85be572439ace395c9a9bca34724708dc8ca1f48aef7ff97a71e6", func := "loop.example/lib-g01423/laws.FnSortedAlike", spec := "fnSortedAlike", inPlace := ["unique.Make[net/netip.addrDetail]"], named := ["net/netip.z4", "net/netip.z6noz", "net/netip.z0", "internal/strconv.uint64pow10", "math/bits.deBruijn32tab", "math/bits.deBruijn64tab"], apart := false, laid := [("math/bits.deBruijn32tab", laid_math_bits_deBruijn32tab), ("math/bits.deBruijn64tab", laid_math_bits_deBruijn64tab), ("internal/strconv.uint64pow10", laid_internal_strconv_uint64pow10), ("net/netip.z4", laid_net_netip_z4), ("net/netip.z6noz", laid_net_netip_z6noz), ("net/netip.z0", laid_net_netip_z0)] }
def FnSortedAlikeSaid : Prop := fnSortedAlikeRow.holds Tryd.pinned (OpenSpec.ofChange fnSortedAlikeSpec)

/-- ITS FALSE NEIGHBOUR: 'it returns false'. Refute it at one input. -/
def fnSortedAlikeWrong : ChangeSpec := { name := "fnSortedAlike", fn := fun _ => fun
  | [d1, d2, d3] => { results := [.lit (.bool false)], args := [d1, d2, d3] }
  | _ => none }
def FnSortedAlikeWrongFalsely : Prop := fnSortedAlikeRow.holds Tryd.pinned (OpenSpec.ofChange fnSortedAlikeWrong)

/-- 'laws.FnCommonBits': WHATEVER THE INPUT: true; the input reads as it did. -/
def fnCommonBitsSpec : ChangeSpec := { name := "fnCommonBits", fn := fun _ => fun
  | [d] => { results := [.lit (.bool true)], args := [d] }
  | _ => none }
def fnCommonBitsRow : OpenClaim := { program := "ytckfgdohpmllmaadoor", sum := "2d331faf99b85be572439ace395c9a9bca34724708dc8ca1f48aef7ff97a71e6", func := "loop.example/lib-g01423/laws.FnCommonBits", spec := "fnCommonBits", inPlace := ["unique.Make[net/netip.addrDetail]"], named := ["net/netip.z4", "net/netip.z6noz", "net/netip.z0", "internal/strconv.uint64pow10", "math/bits.deBruijn32tab", "math/bits.deBruijn64tab"], apart := false, laid := [("math/bits.deBruijn32tab", laid_math_bits_deBruijn32tab), ("math/bits.deBruijn64tab", laid_math_bits_deBruijn64tab), ("internal/strconv.uint64pow10", laid_internal_strconv_uint64pow10), ("net/netip.z4", laid_net_netip_z4), ("net/netip.z6noz", laid_net_netip_z6noz), ("net/netip.z0", laid_net_netip_z0)] }
def FnCommonBitsSaid : Prop := fnCommonBitsRow.holds Tryd.pinned (OpenSpec.ofChange fnCommonBitsSpec)

/-- ITS FALSE NEIGHBOUR: 'it returns false'. Refute it at one input. -/
def fnCommonBitsWrong : ChangeSpec := { name := "fnCommonBits", fn := fun _ => fun
  | [d] => { results := [.lit (.bool false)], args := [d] }
  | _ => none }
def FnCommonBitsWrongFalsely : Prop := fnCommonBitsRow.holds Tryd.pinned (OpenSpec.ofChange fnCommonBitsWrong)

/-- 'laws.FnRangeCover': WHATEVER THE INPUT: true; the input reads as it did. -/
def fnRangeCoverSpec : ChangeSpec := { name := "fnRangeCover", fn := fun _ => fun
  | [d1, d2, d3] => { results := [.lit (.bool true)], args := [d1, d2, d3] }
  | _ => none }
def fnRangeCoverRow : OpenClaim := { program := "ytckfgdohpmllmaadoor", sum := "2d331faf99b85be572439ace395c9a9bca34724708dc8ca1f48aef7ff97a71e6", func := "loop.example/lib-g01423/laws.FnRangeCover", spec := "fnRangeCover", inPlace := ["unique.Make[net/netip.addrDetail]"], named := ["net/netip.z4", "net/netip.z6noz", "net/netip.z0", "internal/strconv.uint64pow10", "math/bits.deBruijn32tab", "math/bits.deBruijn64tab"], apart := false, laid := [("math/bits.deBruijn32tab", laid_math_bits_deBruijn32tab), ("math/bits.deBruijn64tab", laid_math_bits_deBruijn64tab), ("internal/strconv.uint64pow10", laid_internal_strconv_uint64pow10), ("net/netip.z4", laid_net_netip_z4), ("net/netip.z6noz", laid_net_netip_z6noz), ("net/netip.z0", laid_net_netip_z0)] }
def FnRangeCoverSaid : Prop := fnRangeCoverRow.holds Tryd.pinned (OpenSpec.ofChange fnRangeCoverSpec)

/-- ITS FALSE NEIGHBOUR: 'it returns false'. Refute it at one input. -/
def fnRangeCoverWrong : ChangeSpec := { name := "fnRangeCover", fn := fun _ => fun
  | [d1, d2, d3] => { results := [.lit (.bool false)], args := [d1, d2, d3] }
  | _ => none }
def FnRangeCoverWrongFalsely : Prop := fnRangeCoverRow.holds Tryd.pinned (OpenSpec.ofChange fnRangeCoverWrong)

/-- 'laws.FnNestedRun': WHATEVER THE INPUT: true; the input reads as it did. -/
def fnNestedRunSpec : ChangeSpec := { name := "fnNestedRun", fn := fun _ => fun
  | [d1, d2] => { results := [.lit (.bool true)], args := [d1, d2] }
  | _ => none }
def fnNestedRunRow : OpenClaim := { program := "ytckfgdohpmllmaadoor", sum := "2d331faf99b85be572439ace395c9a9bca34724708dc8ca1f48aef7ff97a71e6", func := "loop.example/lib-g01423/laws.FnNestedRun", spec := "fnNestedRun", inPlace := ["unique.Make[net/netip.addrDetail]"], named := ["net/netip.z4", "net/netip.z6noz", "net/netip.z0", "internal/strconv.uint64pow10", "math/bits.deBruijn32tab", "math/bits.deBruijn64tab"], apart := false, laid := [("math/bits.deBruijn32tab", laid_math_bits_deBruijn32tab), ("math/bits.deBruijn64tab", laid_math_bits_deBruijn64tab), ("internal/strconv.uint64pow10", laid_internal_strconv_uint64pow10), ("net/netip.z4", laid_net_netip_z4), ("net/netip.z6noz", laid_net_netip_z6noz), ("net/netip.z0", laid_net_netip_z0)] }
def FnNestedRunSaid : Prop := fnNestedRunRow.holds Tryd.pinned (OpenSpec.ofChange fnNestedRunSpec)

/-- ITS FALSE NEIGHBOUR: 'it returns false'. Refute it at one input. -/
def fnNestedRunWrong : ChangeSpec := { name := "fnNestedRun", fn := fun _ => fun
  | [d1, d2] => { results := [.lit (.bool false)], args := [d1, d2] }
  | _ => none }
def FnNestedRunWrongFalsely : Prop := fnNestedRunRow.holds Tryd.pinned (OpenSpec.ofChange fnNestedRunWrong)

/-- 'laws.FnOverlapRun': WHATEVER THE INPUT: true; the input reads as it did. -/
def fnOverlapRunSpec : ChangeSpec := { name := "fnOverlapRun", fn := fun _ => fun
  | [d1, d2, d3, d4] => { results := [.lit (.bool true)], args := [d1, d2, d3, d4] }
  | _ => none }
def fnOverlapRunRow : OpenClaim := { program := "ytckfgdohpmllmaadoor", sum := "2d331faf99b85be572439ace395c9a9bca34724708dc8ca1f48aef7ff97a71e6", func := "loop.example/lib-g01423/laws.FnOverlapRun", spec := "fnOverlapRun", inPlace := ["unique.Make[net/netip.addrDetail]"], named := ["net/netip.z4", "net/netip.z6noz", "net/netip.z0", "internal/strconv.uint64pow10", "math/bits.deBruijn32tab", "math/bits.deBruijn64tab"], apart := false, laid := [("math/bits.deBruijn32tab", laid_math_bits_deBruijn32tab), ("math/bits.deBruijn64tab", laid_math_bits_deBruijn64tab), ("internal/strconv.uint64pow10", laid_internal_strconv_uint64pow10), ("net/netip.z4", laid_net_netip_z4), ("net/netip.z6noz", laid_net_netip_z6noz), ("net/netip.z0", laid_net_netip_z0)] }
def FnOverlapRunSaid : Prop := fnOverlapRunRow.holds Tryd.pinned (OpenSpec.ofChange fnOverlapRunSpec)

/-- ITS FALSE NEIGHBOUR: 'it returns false'. Refute it at one input. -/
def fnOverlapRunWrong : ChangeSpec := { name := "fnOverlapRun", fn := fun _ => fun
  | [d1, d2, d3, d4] => { results := [.lit (.bool false)], args := [d1, d2, d3, d4] }
  | _ => none }
def FnOverlapRunWrongFalsely : Prop := fnOverlapRunRow.holds Tryd.pinned (OpenSpec.ofChange fnOverlapRunWrong)

/-- 'laws.FnPartsAbut': WHATEVER THE INPUT: true; the input reads as it did. -/
def fnPartsAbutSpec : ChangeSpec := { name := "fnPartsAbut", fn := fun _ => fun
  | [d1, d2, d3] => { results := [.lit (.bool true)], args := [d1, d2, d3] }
  | _ => none }
def fnPartsAbutRow : OpenClaim := { program := "ytckfgdohpmllmaadoor", sum := "2d331faf99b85be572439ace395c9a9bca34724708dc8ca1f48aef7ff97a71e6", func := "loop.example/lib-g01423/laws.FnPartsAbut", spec := "fnPartsAbut", inPlace := ["unique.Make[net/netip.addrDetail]", "math/bits.Add64"], named := ["net/netip.z4", "net/netip.z6noz", "net/netip.z0", "internal/strconv.uint64pow10", "math/bits.deBruijn32tab", "math/bits.deBruijn64tab"], apart := false, laid := [("math/bits.deBruijn32tab", laid_math_bits_deBruijn32tab), ("math/bits.deBruijn64tab", laid_math_bits_deBruijn64tab), ("internal/strconv.uint64pow10", laid_internal_strconv_uint64pow10), ("net/netip.z4", laid_net_netip_z4), ("net/netip.z6noz", laid_net_netip_z6noz), ("net/netip.z0", laid_net_netip_z0)] }
def FnPartsAbutSaid : Prop := fnPartsAbutRow.holds Tryd.pinned (OpenSpec.ofChange fnPartsAbutSpec)

/-- ITS FALSE NEIGHBOUR: 'it returns false'. Refute it at one input. -/
def fnPartsAbutWrong : ChangeSpec := { name := "fnPartsAbut", fn := fun _ => fun
  | [d1, d2, d3] => { results := [.lit (.bool false)], args := [d1, d2, d3] }
  | _ => none }
def FnPartsAbutWrongFalsely : Prop := fnPartsAbutRow.holds Tryd.pinned (OpenSpec.ofChange fnPartsAbutWrong)

/-- 'laws.FnMaskedInOrder': WHATEVER THE INPUT: true; the input reads as it did. -/
def fnMaskedInOrderSpec : ChangeSpec := { name := "fnMaskedInOrder", fn := fun _ => fun
  | [d1, d2] => { results := [.lit (.bool true)], args := [d1, d2] }
  | _ => none }
def fnMaskedInOrderRow : OpenClaim := { program := "ytckfgdohpmllmaadoor", sum := "2d331faf99b85be572439ace395c9a9bca34724708dc8ca1f48aef7ff97a71e6", func := "loop.example/lib-g01423/laws.FnMaskedInOrder", spec := "fnMaskedInOrder", inPlace := ["unique.Make[net/netip.addrDetail]"], named := ["net/netip.z4", "net/netip.z6noz", "net/netip.z0", "internal/strconv.uint64pow10", "math/bits.deBruijn32tab", "math/bits.deBruijn64tab"], apart := false, laid := [("math/bits.deBruijn32tab", laid_math_bits_deBruijn32tab), ("math/bits.deBruijn64tab", laid_math_bits_deBruijn64tab), ("internal/strconv.uint64pow10", laid_internal_strconv_uint64pow10), ("net/netip.z4", laid_net_netip_z4), ("net/netip.z6noz", laid_net_netip_z6noz), ("net/netip.z0", laid_net_netip_z0)] }
def FnMaskedInOrderSaid : Prop := fnMaskedInOrderRow.holds Tryd.pinned (OpenSpec.ofChange fnMaskedInOrderSpec)

/-- ITS FALSE NEIGHBOUR: 'it returns false'. Refute it at one input. -/
def fnMaskedInOrderWrong : ChangeSpec := { name := "fnMaskedInOrder", fn := fun _ => fun
  | [d1, d2] => { results := [.lit (.bool false)], args := [d1, d2] }
  | _ => none }
def FnMaskedInOrderWrongFalsely : Prop := fnMaskedInOrderRow.holds Tryd.pinned (OpenSpec.ofChange fnMaskedInOrderWrong)

/-- 'laws.FnLongestMatch': WHATEVER THE INPUT: true; the input reads as it did. -/
def fnLongestMatchSpec : ChangeSpec := { name := "fnLongestMatch", fn := fun _ => fun
  | [d1, d2, d3] => { results := [.lit (.bool true)], args := [d1, d2, d3] }
  | _ => none }
def fnLongestMatchRow : OpenClaim := { program := "ytckfgdohpmllmaadoor", sum := "2d331faf99b85be572439ace395c9a9bca34724708dc8ca1f48aef7ff97a71e6", func := "loop.example/lib-g01423/laws.FnLongestMatch", spec := "fnLongestMatch", inPlace := ["unique.Make[net/netip.addrDetail]"], named := ["net/netip.z4", "net/netip.z6noz", "net/netip.z0", "internal/strconv.uint64pow10", "math/bits.deBruijn32tab", "math/bits.deBruijn64tab"], apart := false, laid := [("math/bits.deBruijn32tab", laid_math_bits_deBruijn32tab), ("math/bits.deBruijn64tab", laid_math_bits_deBruijn64tab), ("internal/strconv.uint64pow10", laid_internal_strconv_uint64pow10), ("net/netip.z4", laid_net_netip_z4), ("net/netip.z6noz", laid_net_netip_z6noz), ("net/netip.z0", laid_net_netip_z0)] }
def FnLongestMatchSaid : Prop := fnLongestMatchRow.holds Tryd.pinned (OpenSpec.ofChange fnLongestMatchSpec)

/-- ITS FALSE NEIGHBOUR: 'it returns false'. Refute it at one input. -/
def fnLongestMatchWrong : ChangeSpec := { name := "fnLongestMatch", fn := fun _ => fun
  | [d1, d2, d3] => { results := [.lit (.bool false)], args := [d1, d2, d3] }
  | _ => none }
def FnLongestMatchWrongFalsely : Prop := fnLongestMatchRow.holds Tryd.pinned (OpenSpec.ofChange fnLongestMatchWrong)

/-- 'laws.FnAggregate': WHATEVER THE INPUT: true; the input reads as it did. -/
def fnAggregateSpec : ChangeSpec := { name := "fnAggregate", fn := fun _ => fun
  | [d1, d2, d3] => { results := [.lit (.bool true)], args := [d1, d2, d3] }
  | _ => none }
def fnAggregateRow : OpenClaim := { program := "ytckfgdohpmllmaadoor", sum := "2d331faf99b85be572439ace395c9a9bca34724708dc8ca1f48aef7ff97a71e6", func := "loop.example/lib-g01423/laws.FnAggregate", spec := "fnAggregate", inPlace := ["unique.Make[net/netip.addrDetail]"], named := ["net/netip.z4", "net/netip.z6noz", "net/netip.z0", "internal/strconv.uint64pow10", "math/bits.deBruijn32tab", "math/bits.deBruijn64tab"], apart := false, laid := [("math/bits.deBruijn32tab", laid_math_bits_deBruijn32tab), ("math/bits.deBruijn64tab", laid_math_bits_deBruijn64tab), ("internal/strconv.uint64pow10", laid_internal_strconv_uint64pow10), ("net/netip.z4", laid_net_netip_z4), ("net/netip.z6noz", laid_net_netip_z6noz), ("net/netip.z0", laid_net_netip_z0)] }
def FnAggregateSaid : Prop := fnAggregateRow.holds Tryd.pinned (OpenSpec.ofChange fnAggregateSpec)

/-- ITS FALSE NEIGHBOUR: 'it returns false'. Refute it at one input. -/
def fnAggregateWrong : ChangeSpec := { name := "fnAggregate", fn := fun _ => fun
  | [d1, d2, d3] => { results := [.lit (.bool false)], args := [d1, d2, d3] }
  | _ => none }
def FnAggregateWrongFalsely : Prop := fnAggregateRow.holds Tryd.pinned (OpenSpec.ofChange fnAggregateWrong)

/- THE SECOND FORM. 'bulk': how many values and letters a reading holds, each counted each time it is reached (what is shared counts as often as it is met; a slice's spare places count too). A statement '..UptoSaid' is the law's where the arguments, and the package variables that the reading takes, are together of bulk at most 1048576: NARROWER than '..Said'. Prove '..Said' where nothing that the law and all that it calls make is longer than what came in: it says more and counts as full. Else prove '..UptoSaid'. A law counts once. -/
mutual
def uptoBulk {H : Type} : DataW H → Nat
  | .lit (.string bytes) => bytes.length + 1
  | .lit _ => 1
  | .nil => 1
  | .ptr d => uptoBulk d + 1
  | .slice elems spare => uptoBulkAll elems + uptoBulkAll spare + 1
  | .agg parts => uptoBulkAll parts + 1
  | .iface _ d => uptoBulk d + 1
  | .map entries => uptoBulkEntries entries + 1
  | .held _ => 1
def uptoBulkAll {H : Type} : List (DataW H) → Nat
  | [] => 0
  | d :: r => uptoBulk d + uptoBulkAll r
def uptoBulkEntries {H : Type} : List (Lit × DataW H) → Nat
  | [] => 0
  | x :: r => uptoBulkEntry x + uptoBulkEntries r
def uptoBulkEntry {H : Type} : Lit × DataW H → Nat
  | (.string bytes, d) => bytes.length + uptoBulk d + 1
  | (_, d) => uptoBulk d + 1
 end
def uptoSmall : (H : Type) → List (DataW H) → Bool := fun _ ds => decide (uptoBulkAll ds ≤ 1048576)
def OpenSpec.upto (s : _root_.Go.ChangeSpec) : _root_.Go.OpenSpec := { _root_.Go.OpenSpec.ofChange s with cond := some uptoSmall }

/-- 'laws.FnLeftOut', WHERE WHAT IT READS IS OF BULK AT MOST 1048576: true; the input reads as it did. -/
def fnLeftOutUptoRow : OpenClaim := { program := "ytckfgdohpmllmaadoor", sum := "2d331faf99b85be572439ace395c9a9bca34724708dc8ca1f48aef7ff97a71e6", func := "loop.example/lib-g01423/laws.FnLeftOut", spec := "fnLeftOut", inPlace := ["unique.Make[net/netip.addrDetail]"], named := ["net/netip.z4", "net/netip.z6noz", "net/netip.z0"], apart := false, laid := [("net/netip.z4", laid_net_netip_z4), ("net/netip.z6noz", laid_net_netip_z6noz), ("net/netip.z0", laid_net_netip_z0)], narrowed := true }
def FnLeftOutUptoSaid : Prop := fnLeftOutUptoRow.holds Tryd.pinned (OpenSpec.upto fnLeftOutSpec)

/-- 'laws.FnMasksInARow', WHERE WHAT IT READS IS OF BULK AT MOST 1048576: true; the input reads as it did. -/
def fnMasksInARowUptoRow : OpenClaim := { program := "ytckfgdohpmllmaadoor", sum := "2d331faf99b85be572439ace395c9a9bca34724708dc8ca1f48aef7ff97a71e6", func := "loop.example/lib-g01423/laws.FnMasksInARow", spec := "fnMasksInARow", inPlace := ["unique.Make[net/netip.addrDetail]"], named := ["net/netip.z4", "net/netip.z6noz", "net/netip.z0", "internal/strconv.uint64pow10", "math/bits.deBruijn32tab", "math/bits.deBruijn64tab"], apart := false, laid := [("math/bits.deBruijn32tab", laid_math_bits_deBruijn32tab), ("math/bits.deBruijn64tab", laid_math_bits_deBruijn64tab), ("internal/strconv.uint64pow10", laid_internal_strconv_uint64pow10), ("net/netip.z4", laid_net_netip_z4), ("net/netip.z6noz", laid_net_netip_z6noz), ("net/netip.z0", laid_net_netip_z0)], narrowed := true }
def FnMasksInARowUptoSaid : Prop := fnMasksInARowUptoRow.holds Tryd.pinned (OpenSpec.upto fnMasksInARowSpec)

/-- 'laws.FnAllInCommon', WHERE WHAT IT READS IS OF BULK AT MOST 1048576: true; the input reads as it did. -/
def fnAllInCommonUptoRow : OpenClaim := { program := "ytckfgdohpmllmaadoor", sum := "2d331faf99b85be572439ace395c9a9bca34724708dc8ca1f48aef7ff97a71e6", func := "loop.example/lib-g01423/laws.FnAllInCommon", spec := "fnAllInCommon", inPlace := ["unique.Make[net/netip.addrDetail]"], named := ["net/netip.z4", "net/netip.z6noz", "net/netip.z0", "internal/strconv.uint64pow10", "math/bits.deBruijn32tab", "math/bits.deBruijn64tab"], apart := false, laid := [("math/bits.deBruijn32tab", laid_math_bits_deBruijn32tab), ("math/bits.deBruijn64tab", laid_math_bits_deBruijn64tab), ("internal/strconv.uint64pow10", laid_internal_strconv_uint64pow10), ("net/netip.z4", laid_net_netip_z4), ("net/netip.z6noz", laid_net_netip_z6noz), ("net/netip.z0", laid_net_netip_z0)], narrowed := true }
def FnAllInCommonUptoSaid : Prop := fnAllInCommonUptoRow.holds Tryd.pinned (OpenSpec.upto fnAllInCommonSpec)

/-- 'laws.FnBothContain', WHERE WHAT IT READS IS OF BULK AT MOST 1048576: true; the input reads as it did. -/
def fnBothContainUptoRow : OpenClaim := { program := "ytckfgdohpmllmaadoor", sum := "2d331faf99b85be572439ace395c9a9bca34724708dc8ca1f48aef7ff97a71e6", func := "loop.example/lib-g01423/laws.FnBothContain", spec := "fnBothContain", inPlace := ["unique.Make[net/netip.addrDetail]"], named := ["net/netip.z4", "net/netip.z6noz", "net/netip.z0", "internal/strconv.uint64pow10", "math/bits.deBruijn32tab", "math/bits.deBruijn64tab"], apart := false, laid := [("math/bits.deBruijn32tab", laid_math_bits_deBruijn32tab), ("math/bits.deBruijn64tab", laid_math_bits_deBruijn64tab), ("internal/strconv.uint64pow10", laid_internal_strconv_uint64pow10), ("net/netip.z4", laid_net_netip_z4), ("net/netip.z6noz", laid_net_netip_z6noz), ("net/netip.z0", laid_net_netip_z0)], narrowed := true }
def FnBothContainUptoSaid : Prop := fnBothContainUptoRow.holds Tryd.pinned (OpenSpec.upto fnBothContainSpec)

/-- 'laws.FnCutParts', WHERE WHAT IT READS IS OF BULK AT MOST 1048576: true; the input reads as it did. -/
def fnCutPartsUptoRow : OpenClaim := { program := "ytckfgdohpmllmaadoor", sum := "2d331faf99b85be572439ace395c9a9bca34724708dc8ca1f48aef7ff97a71e6", func := "loop.example/lib-g01423/laws.FnCutParts", spec := "fnCutParts", inPlace := ["unique.Make[net/netip.addrDetail]"], named := ["net/netip.z4", "net/netip.z6noz", "net/netip.z0", "internal/strconv.uint64pow10", "math/bits.deBruijn32tab", "math/bits.deBruijn64tab"], apart := false, laid := [("math/bits.deBruijn32tab", laid_math_bits_deBruijn32tab), ("math/bits.deBruijn64tab", laid_math_bits_deBruijn64tab), ("internal/strconv.uint64pow10", laid_internal_strconv_uint64pow10), ("net/netip.z4", laid_net_netip_z4), ("net/netip.z6noz", laid_net_netip_z6noz), ("net/netip.z0", laid_net_netip_z0)], narrowed := true }
def FnCutPartsUptoSaid : Prop := fnCutPartsUptoRow.holds Tryd.pinned (OpenSpec.upto fnCutPartsSpec)

/-- 'laws.FnSortedAlike', WHERE WHAT IT READS IS OF BULK AT MOST 1048576: true; the input reads as it did. -/
def fnSortedAlikeUptoRow : OpenClaim := { program := "ytckfgdohpmllmaadoor", sum := "2d331faf99b85be572439ace395c9a9bca34724708dc8ca1f48aef7ff97a71e6", func := "loop.example/lib-g01423/laws.FnSortedAlike", spec := "fnSortedAlike", inPlace := ["unique.Make[net/netip.addrDetail]"], named := ["net/netip.z4", "net/netip.z6noz", "net/netip.z0", "internal/strconv.uint64pow10", "math/bits.deBruijn32tab", "math/bits.deBruijn64tab"], apart := false, laid := [("math/bits.deBruijn32tab", laid_math_bits_deBruijn32tab), ("math/bits.deBruijn64tab", laid_math_bits_deBruijn64tab), ("internal/strconv.uint64pow10", laid_internal_strconv_uint64pow10), ("net/netip.z4", laid_net_netip_z4), ("net/netip.z6noz", laid_net_netip_z6noz), ("net/netip.z0", laid_net_netip_z0)], narrowed := true }
def FnSortedAlikeUptoSaid : Prop := fnSortedAlikeUptoRow.holds Tryd.pinned (OpenSpec.upto fnSortedAlikeSpec)

/-- 'laws.FnCommonBits', WHERE WHAT IT READS IS OF BULK AT MOST 1048576: true; the input reads as it did. -/
def fnCommonBitsUptoRow : OpenClaim := { program := "ytckfgdohpmllmaadoor", sum := "2d331faf99b85be572439ace395c9a9bca34724708dc8ca1f48aef7ff97a71e6", func := "loop.example/lib-g01423/laws.FnCommonBits", spec := "fnCommonBits", inPlace := ["unique.Make[net/netip.addrDetail]"], named := ["net/netip.z4", "net/netip.z6noz", "net/netip.z0", "internal/strconv.uint64pow10", "math/bits.deBruijn32tab", "math/bits.deBruijn64tab"], apart := false, laid := [("math/bits.deBruijn32tab", laid_math_bits_deBruijn32tab), ("math/bits.deBruijn64tab", laid_math_bits_deBruijn64tab), ("internal/strconv.uint64pow10", laid_internal_strconv_uint64pow10), ("net/netip.z4", laid_net_netip_z4), ("net/netip.z6noz", laid_net_netip_z6noz), ("net/netip.z0", laid_net_netip_z0)], narrowed := true }
def FnCommonBitsUptoSaid : Prop := fnCommonBitsUptoRow.holds Tryd.pinned (OpenSpec.upto fnCommonBitsSpec)

/-- 'laws.FnRangeCover', WHERE WHAT IT READS IS OF BULK AT MOST 1048576: true; the input reads as it did. -/
def fnRangeCoverUptoRow : OpenClaim := { program := "ytckfgdohpmllmaadoor", sum := "2d331faf99b85be572439ace395c9a9bca34724708dc8ca1f48aef7ff97a71e6", func := "loop.example/lib-g01423/laws.FnRangeCover", spec := "fnRangeCover", inPlace := ["unique.Make[net/netip.addrDetail]"], named := ["net/netip.z4", "net/netip.z6noz", "net/netip.z0", "internal/strconv.uint64pow10", "math/bits.deBruijn32tab", "math/bits.deBruijn64tab"], apart := false, laid := [("math/bits.deBruijn32tab", laid_math_bits_deBruijn32tab), ("math/bits.deBruijn64tab", laid_math_bits_deBruijn64tab), ("internal/strconv.uint64pow10", laid_internal_strconv_uint64pow10), ("net/netip.z4", laid_net_netip_z4), ("net/netip.z6noz", laid_net_netip_z6noz), ("net/netip.z0", laid_net_netip_z0)], narrowed := true }
def FnRangeCoverUptoSaid : Prop := fnRangeCoverUptoRow.holds Tryd.pinned (OpenSpec.upto fnRangeCoverSpec)

/-- 'laws.FnNestedRun', WHERE WHAT IT READS IS OF BULK AT MOST 1048576: true; the input reads as it did. -/
def fnNestedRunUptoRow : OpenClaim := { program := "ytckfgdohpmllmaadoor", sum := "2d331faf99b85be572439ace395c9a9bca34724708dc8ca1f48aef7ff97a71e6", func := "loop.example/lib-g01423/laws.FnNestedRun", spec := "fnNestedRun", inPlace := ["unique.Make[net/netip.addrDetail]"], named := ["net/netip.z4", "net/netip.z6noz", "net/netip.z0", "internal/strconv.uint64pow10", "math/bits.deBruijn32tab", "math/bits.deBruijn64tab"], apart := false, laid := [("math/bits.deBruijn32tab", laid_math_bits_deBruijn32tab), ("math/bits.deBruijn64tab", laid_math_bits_deBruijn64tab), ("internal/strconv.uint64pow10", laid_internal_strconv_uint64pow10), ("net/netip.z4", laid_net_netip_z4), ("net/netip.z6noz", laid_net_netip_z6noz), ("net/netip.z0", laid_net_netip_z0)], narrowed := true }
def FnNestedRunUptoSaid : Prop := fnNestedRunUptoRow.holds Tryd.pinned (OpenSpec.upto fnNestedRunSpec)

/-- 'laws.FnOverlapRun', WHERE WHAT IT READS IS OF BULK AT MOST 1048576: true; the input reads as it did. -/
def fnOverlapRunUptoRow : OpenClaim := { program := "ytckfgdohpmllmaadoor", sum := "2d331faf99b85be572439ace395c9a9bca34724708dc8ca1f48aef7ff97a71e6", func := "loop.example/lib-g01423/laws.FnOverlapRun", spec := "fnOverlapRun", inPlace := ["unique.Make[net/netip.addrDetail]"], named := ["net/netip.z4", "net/netip.z6noz", "net/netip.z0", "internal/strconv.uint64pow10", "math/bits.deBruijn32tab", "math/bits.deBruijn64tab"], apart := false, laid := [("math/bits.deBruijn32tab", laid_math_bits_deBruijn32tab), ("math/bits.deBruijn64tab", laid_math_bits_deBruijn64tab), ("internal/strconv.uint64pow10", laid_internal_strconv_uint64pow10), ("net/netip.z4", laid_net_netip_z4), ("net/netip.z6noz", laid_net_netip_z6noz), ("net/netip.z0", laid_net_netip_z0)], narrowed := true }
def FnOverlapRunUptoSaid : Prop := fnOverlapRunUptoRow.holds Tryd.pinned (OpenSpec.upto fnOverlapRunSpec)

/-- 'laws.FnPartsAbut', WHERE WHAT IT READS IS OF BULK AT MOST 1048576: true; the input reads as it did. -/
def fnPartsAbutUptoRow : OpenClaim := { program := "ytckfgdohpmllmaadoor", sum := "2d331faf99b85be572439ace395c9a9bca34724708dc8ca1f48aef7ff97a71e6", func := "loop.example/lib-g01423/laws.FnPartsAbut", spec := "fnPartsAbut", inPlace := ["unique.Make[net/netip.addrDetail]", "math/bits.Add64"], named := ["net/netip.z4", "net/netip.z6noz", "net/netip.z0", "internal/strconv.uint64pow10", "math/bits.deBruijn32tab", "math/bits.deBruijn64tab"], apart := false, laid := [("math/bits.deBruijn32tab", laid_math_bits_deBruijn32tab), ("math/bits.deBruijn64tab", laid_math_bits_deBruijn64tab), ("internal/strconv.uint64pow10", laid_internal_strconv_uint64pow10), ("net/netip.z4", laid_net_netip_z4), ("net/netip.z6noz", laid_net_netip_z6noz), ("net/netip.z0", laid_net_netip_z0)], narrowed := true }
def FnPartsAbutUptoSaid : Prop := fnPartsAbutUptoRow.holds Tryd.pinned (OpenSpec.upto fnPartsAbutSpec)

/-- 'laws.FnMaskedInOrder', WHERE WHAT IT READS IS OF BULK AT MOST 1048576: true; the input reads as it did. -/
def fnMaskedInOrderUptoRow : OpenClaim := { program := "ytckfgdohpmllmaadoor", sum := "2d331faf99b85be572439ace395c9a9bca34724708dc8ca1f48aef7ff97a71e6", func := "loop.example/lib-g01423/laws.FnMaskedInOrder", spec := "fnMaskedInOrder", inPlace := ["unique.Make[net/netip.addrDetail]"], named := ["net/netip.z4", "net/netip.z6noz", "net/netip.z0", "internal/strconv.uint64pow10", "math/bits.deBruijn32tab", "math/bits.deBruijn64tab"], apart := false, laid := [("math/bits.deBruijn32tab", laid_math_bits_deBruijn32tab), ("math/bits.deBruijn64tab", laid_math_bits_deBruijn64tab), ("internal/strconv.uint64pow10", laid_internal_strconv_uint64pow10), ("net/netip.z4", laid_net_netip_z4), ("net/netip.z6noz", laid_net_netip_z6noz), ("net/netip.z0", laid_net_netip_z0)], narrowed := true }
def FnMaskedInOrderUptoSaid : Prop := fnMaskedInOrderUptoRow.holds Tryd.pinned (OpenSpec.upto fnMaskedInOrderSpec)

/-- 'laws.FnLongestMatch', WHERE WHAT IT READS IS OF BULK AT MOST 1048576: true; the input reads as it did. -/
def fnLongestMatchUptoRow : OpenClaim := { program := "ytckfgdohpmllmaadoor", sum := "2d331faf99b85be572439ace395c9a9bca34724708dc8ca1f48aef7ff97a71e6", func := "loop.example/lib-g01423/laws.FnLongestMatch", spec := "fnLongestMatch", inPlace := ["unique.Make[net/netip.addrDetail]"], named := ["net/netip.z4", "net/netip.z6noz", "net/netip.z0", "internal/strconv.uint64pow10", "math/bits.deBruijn32tab", "math/bits.deBruijn64tab"], apart := false, laid := [("math/bits.deBruijn32tab", laid_math_bits_deBruijn32tab), ("math/bits.deBruijn64tab", laid_math_bits_deBruijn64tab), ("internal/strconv.uint64pow10", laid_internal_strconv_uint64pow10), ("net/netip.z4", laid_net_netip_z4), ("net/netip.z6noz", laid_net_netip_z6noz), ("net/netip.z0", laid_net_netip_z0)], narrowed := true }
def FnLongestMatchUptoSaid : Prop := fnLongestMatchUptoRow.holds Tryd.pinned (OpenSpec.upto fnLongestMatchSpec)

/-- 'laws.FnAggregate', WHERE WHAT IT READS IS OF BULK AT MOST 1048576: true; the input reads as it did. -/
def fnAggregateUptoRow : OpenClaim := { program := "ytckfgdohpmllmaadoor", sum := "2d331faf99b85be572439ace395c9a9bca34724708dc8ca1f48aef7ff97a71e6", func := "loop.example/lib-g01423/laws.FnAggregate", spec := "fnAggregate", inPlace := ["unique.Make[net/netip.addrDetail]"], named := ["net/netip.z4", "net/netip.z6noz", "net/netip.z0", "internal/strconv.uint64pow10", "math/bits.deBruijn32tab", "math/bits.deBruijn64tab"], apart := false, laid := [("math/bits.deBruijn32tab", laid_math_bits_deBruijn32tab), ("math/bits.deBruijn64tab", laid_math_bits_deBruijn64tab), ("internal/strconv.uint64pow10", laid_internal_strconv_uint64pow10), ("net/netip.z4", laid_net_netip_z4), ("net/netip.z6noz", laid_net_netip_z6noz), ("net/netip.z0", laid_net_netip_z0)], narrowed := true }
def FnAggregateUptoSaid : Prop := fnAggregateUptoRow.holds Tryd.pinned (OpenSpec.upto fnAggregateSpec)

end Rows
end Go.Proofs.YtckfgdohpmllmaaDoor
