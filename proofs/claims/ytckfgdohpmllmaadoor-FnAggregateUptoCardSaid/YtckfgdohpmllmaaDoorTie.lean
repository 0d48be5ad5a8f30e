/-
  DERIVED. GIVEN WITH THE SEED: THE PROGRAM's TIES (one call each: nine closed facts by the kernel) AND EACH ROW's TIE, after the 31st guide's Derived/Test/Toyas{Tie, Card}.lean. No idea stands in it: it is a product of the set-up. Laid BY PROGRAM, IN A SANDBOX (cutbox-door.mjs). By AI agents, Wed Nov 11 2026. No macro, syntax, notation, axiom, sorry.
-/
import Derived.Test.YtckfgdohpmllmaaDoorRows
import Derived.LaidByTextLater
import Derived.SevenTiedAt
import Derived.LaidSub
import Derived.LaidOnce
namespace Go.Proofs.YtckfgdohpmllmaaDoor
open Go
set_option maxRecDepth 100000
theorem seatTie1 : Tryd.prog.laidByTextLater [("math/bits.deBruijn32tab", Rows.laid_math_bits_deBruijn32tab), ("math/bits.deBruijn64tab", Rows.laid_math_bits_deBruijn64tab), ("internal/strconv.uint64pow10", Rows.laid_internal_strconv_uint64pow10), ("net/netip.z4", Rows.laid_net_netip_z4), ("net/netip.z6noz", Rows.laid_net_netip_z6noz), ("net/netip.z0", Rows.laid_net_netip_z0)] [.data, .data, .data, .called, .called, .zero] true :=
  Program.laidByTextLater_by_one 36 8 65 (by kernel_rfl) (by kernel_rfl) (by kernel_rfl) (by kernel_rfl) (by kernel_rfl) (by kernel_rfl) (fun _ _ => by kernel_rfl)
theorem noOwnUnsafe : Tryd.pinned.checked.prog.headLifts.contains "ownunsafe" = false := by kernel_rfl
theorem tie : Tryd.prog.laidByTextLater [("net/netip.z4", Rows.laid_net_netip_z4), ("net/netip.z6noz", Rows.laid_net_netip_z6noz), ("net/netip.z0", Rows.laid_net_netip_z0)] [.called, .called, .zero] true :=
  Program.laidByTextLater.sub seatTie1 ["net/netip.z4", "net/netip.z6noz", "net/netip.z0"] (by kernel_rfl) (by kernel_rfl)
theorem fnLeftOut_row_tie : Rows.fnLeftOutRow.laidByTextAt .later Tryd.pinned [.called, .called, .zero] true :=
  OpenClaim.laidByTextAt_later rfl rfl tie noOwnUnsafe
theorem tie2 : Tryd.prog.laidByTextLater [("math/bits.deBruijn32tab", Rows.laid_math_bits_deBruijn32tab), ("math/bits.deBruijn64tab", Rows.laid_math_bits_deBruijn64tab), ("internal/strconv.uint64pow10", Rows.laid_internal_strconv_uint64pow10), ("net/netip.z4", Rows.laid_net_netip_z4), ("net/netip.z6noz", Rows.laid_net_netip_z6noz), ("net/netip.z0", Rows.laid_net_netip_z0)] [.data, .data, .data, .called, .called, .zero] true :=
  Program.laidByTextLater.sub seatTie1 ["math/bits.deBruijn32tab", "math/bits.deBruijn64tab", "internal/strconv.uint64pow10", "net/netip.z4", "net/netip.z6noz", "net/netip.z0"] (by kernel_rfl) (by kernel_rfl)
theorem fnMasksInARow_row_tie : Rows.fnMasksInARowRow.laidByTextAt .later Tryd.pinned [.data, .data, .data, .called, .called, .zero] true :=
  OpenClaim.laidByTextAt_later rfl rfl tie2 noOwnUnsafe
theorem fnAllInCommon_row_tie : Rows.fnAllInCommonRow.laidByTextAt .later Tryd.pinned [.data, .data, .data, .called, .called, .zero] true :=
  OpenClaim.laidByTextAt_later rfl rfl tie2 noOwnUnsafe
theorem fnBothContain_row_tie : Rows.fnBothContainRow.laidByTextAt .later Tryd.pinned [.data, .data, .data, .called, .called, .zero] true :=
  OpenClaim.laidByTextAt_later rfl rfl tie2 noOwnUnsafe
theorem fnCutParts_row_tie : Rows.fnCutPartsRow.laidByTextAt .later Tryd.pinned [.data, .data, .data, .called, .called, .zero] true :=
  OpenClaim.laidByTextAt_later rfl rfl tie2 noOwnUnsafe
theorem fnSortedAlike_row_tie : Rows.fnSortedAlikeRow.laidByTextAt .later Tryd.pinned [.data, .data, .data, .called, .called, .zero] true :=
  OpenClaim.laidByTextAt_later rfl rfl tie2 noOwnUnsafe
theorem fnCommonBits_row_tie : Rows.fnCommonBitsRow.laidByTextAt .later Tryd.pinned [.data, .data, .data, .called, .called, .zero] true :=
  OpenClaim.laidByTextAt_later rfl rfl tie2 noOwnUnsafe
theorem fnRangeCover_row_tie : Rows.fnRangeCoverRow.laidByTextAt .later Tryd.pinned [.data, .data, .data, .called, .called, .zero] true :=
  OpenClaim.laidByTextAt_later rfl rfl tie2 noOwnUnsafe
theorem fnNestedRun_row_tie : Rows.fnNestedRunRow.laidByTextAt .later Tryd.pinned [.data, .data, .data, .called, .called, .zero] true :=
  OpenClaim.laidByTextAt_later rfl rfl tie2 noOwnUnsafe
theorem fnOverlapRun_row_tie : Rows.fnOverlapRunRow.laidByTextAt .later Tryd.pinned [.data, .data, .data, .called, .called, .zero] true :=
  OpenClaim.laidByTextAt_later rfl rfl tie2 noOwnUnsafe
theorem fnPartsAbut_row_tie : Rows.fnPartsAbutRow.laidByTextAt .later Tryd.pinned [.data, .data, .data, .called, .called, .zero] true :=
  OpenClaim.laidByTextAt_later rfl rfl tie2 noOwnUnsafe
theorem fnMaskedInOrder_row_tie : Rows.fnMaskedInOrderRow.laidByTextAt .later Tryd.pinned [.data, .data, .data, .called, .called, .zero] true :=
  OpenClaim.laidByTextAt_later rfl rfl tie2 noOwnUnsafe
theorem fnLongestMatch_row_tie : Rows.fnLongestMatchRow.laidByTextAt .later Tryd.pinned [.data, .data, .data, .called, .called, .zero] true :=
  OpenClaim.laidByTextAt_later rfl rfl tie2 noOwnUnsafe
theorem fnAggregate_row_tie : Rows.fnAggregateRow.laidByTextAt .later Tryd.pinned [.data, .data, .data, .called, .called, .zero] true :=
  OpenClaim.laidByTextAt_later rfl rfl tie2 noOwnUnsafe
theorem fnLeftOutUpto_row_tie : Rows.fnLeftOutUptoRow.laidByTextAt .later Tryd.pinned [.called, .called, .zero] true :=
  OpenClaim.laidByTextAt_later rfl rfl tie noOwnUnsafe
theorem fnMasksInARowUpto_row_tie : Rows.fnMasksInARowUptoRow.laidByTextAt .later Tryd.pinned [.data, .data, .data, .called, .called, .zero] true :=
  OpenClaim.laidByTextAt_later rfl rfl tie2 noOwnUnsafe
theorem fnAllInCommonUpto_row_tie : Rows.fnAllInCommonUptoRow.laidByTextAt .later Tryd.pinned [.data, .data, .data, .called, .called, .zero] true :=
  OpenClaim.laidByTextAt_later rfl rfl tie2 noOwnUnsafe
theorem fnBothContainUpto_row_tie : Rows.fnBothContainUptoRow.laidByTextAt .later Tryd.pinned [.data, .data, .data, .called, .called, .zero] true :=
  OpenClaim.laidByTextAt_later rfl rfl tie2 noOwnUnsafe
theorem fnCutPartsUpto_row_tie : Rows.fnCutPartsUptoRow.laidByTextAt .later Tryd.pinned [.data, .data, .data, .called, .called, .zero] true :=
  OpenClaim.laidByTextAt_later rfl rfl tie2 noOwnUnsafe
theorem fnSortedAlikeUpto_row_tie : Rows.fnSortedAlikeUptoRow.laidByTextAt .later Tryd.pinned [.data, .data, .data, .called, .called, .zero] true :=
  OpenClaim.laidByTextAt_later rfl rfl tie2 noOwnUnsafe
theorem fnCommonBitsUpto_row_tie : Rows.fnCommonBitsUptoRow.laidByTextAt .later Tryd.pinned [.data, .data, .data, .called, .called, .zero] true :=
  OpenClaim.laidByTextAt_later rfl rfl tie2 noOwnUnsafe
theorem fnRangeCoverUpto_row_tie : Rows.fnRangeCoverUptoRow.laidByTextAt .later Tryd.pinned [.data, .data, .data, .called, .called, .zero] true :=
  OpenClaim.laidByTextAt_later rfl rfl tie2 noOwnUnsafe
theorem fnNestedRunUpto_row_tie : Rows.fnNestedRunUptoRow.laidByTextAt .later Tryd.pinned [.data, .data, .data, .called, .called, .zero] true :=
  OpenClaim.laidByTextAt_later rfl rfl tie2 noOwnUnsafe
theorem fnOverlapRunUpto_row_tie : Rows.fnOverlapRunUptoRow.laidByTextAt .later Tryd.pinned [.data, .data, .data, .called, .called, .zero] true :=
  OpenClaim.laidByTextAt_later rfl rfl tie2 noOwnUnsafe
theorem fnPartsAbutUpto_row_tie : Rows.fnPartsAbutUptoRow.laidByTextAt .later Tryd.pinned [.data, .data, .data, .called, .called, .zero] true :=
  OpenClaim.laidByTextAt_later rfl rfl tie2 noOwnUnsafe
theorem fnMaskedInOrderUpto_row_tie : Rows.fnMaskedInOrderUptoRow.laidByTextAt .later Tryd.pinned [.data, .data, .data, .called, .called, .zero] true :=
  OpenClaim.laidByTextAt_later rfl rfl tie2 noOwnUnsafe
theorem fnLongestMatchUpto_row_tie : Rows.fnLongestMatchUptoRow.laidByTextAt .later Tryd.pinned [.data, .data, .data, .called, .called, .zero] true :=
  OpenClaim.laidByTextAt_later rfl rfl tie2 noOwnUnsafe
theorem fnAggregateUpto_row_tie : Rows.fnAggregateUptoRow.laidByTextAt .later Tryd.pinned [.data, .data, .data, .called, .called, .zero] true :=
  OpenClaim.laidByTextAt_later rfl rfl tie2 noOwnUnsafe
end Go.Proofs.YtckfgdohpmllmaaDoor
