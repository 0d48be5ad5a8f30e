/-
  Rows that list fifteen variables: the table of the powers of ten is among them.
-/
import Derived.Test.YtaofindlomkbbaaDoorFrame15
import Derived.Test.YtaofindlomkbbaaDoorAppU
import Derived.Lib.LaidTab
namespace Go.Proofs.YtaofindlomkbbaaDoor
open Go Go.RowKit Go.ChangeShapes Go.WideShapes Go.ChangeAt Go.Deep
theorem gPow : Tryd.prog.globalNamed "internal/strconv.uint64pow10" = some 6 := by kernel_rfl
theorem tPow : (Tryd.prog.globals[(6 : Nat)]?).map (·.type) = some 131 := by kernel_rfl
theorem dPow : (Rows.laid_internal_strconv_uint64pow10 : DataW Unit) = Lib.tabData .u64 Lib.pow10Tab := by rfl
theorem pw_of_laid15 {W : World} (h : laidMetH Tryd.prog laid15 W) : PW W := by
  rw [MakeChecks.laidMetH_plain _ _ _ (by kernel_rfl)] at h
  obtain ⟨ps, hv, hnd, hpl⟩ := h
  obtain ⟨q1, t1, hv1, e1⟩ := laidVars_tail hv
  obtain ⟨q2, t2, hv2, e2⟩ := laidVars_tail hv1
  obtain ⟨g, t, cs, fuel, p, q, hg, ht, hvar, htr, -, -⟩ := hv2
  obtain rfl := Option.some.inj (gPow.symm.trans hg)
  obtain rfl := Option.some.inj (tPow.symm.trans ht)
  rw [dPow] at htr
  unfold PW Lib.TabIs
  rw [hvar, ← Lib.cells_of_tab Tryd.underlying131 Tryd.underlying47 (by kernel_rfl) (by kernel_rfl) htr]
end Go.Proofs.YtaofindlomkbbaaDoor
