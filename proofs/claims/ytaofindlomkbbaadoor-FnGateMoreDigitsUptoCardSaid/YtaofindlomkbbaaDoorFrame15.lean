/-
  Rows that list fifteen variables: the three of net/netip are among them, and strconv.ErrSyntax.
-/
import Derived.Test.YtaofindlomkbbaaDoorFrame
import Derived.LaidLaws
namespace Go.Proofs.YtaofindlomkbbaaDoor
open Go Go.RowKit Go.ChangeShapes Go.WideShapes Go.ChangeAt Go.Deep
def laid15 : List (String × DataW Unit) := [("math/bits.deBruijn32tab", Rows.laid_math_bits_deBruijn32tab), ("math/bits.deBruijn64tab", Rows.laid_math_bits_deBruijn64tab), ("internal/strconv.uint64pow10", Rows.laid_internal_strconv_uint64pow10), ("unicode/utf8.acceptRanges", Rows.laid_unicode_utf8_acceptRanges), ("strconv.ErrRange", Rows.laid_strconv_ErrRange), ("strconv.ErrSyntax", Rows.laid_strconv_ErrSyntax), ("net/netip.z4", Rows.laid_net_netip_z4), ("net/netip.z6noz", Rows.laid_net_netip_z6noz), ("net/netip.z0", Rows.laid_net_netip_z0), ("strconv.isGraphic", Rows.laid_strconv_isGraphic), ("strconv.isNotPrint16", Rows.laid_strconv_isNotPrint16), ("strconv.isNotPrint32", Rows.laid_strconv_isNotPrint32), ("strconv.isPrint16", Rows.laid_strconv_isPrint16), ("strconv.isPrint32", Rows.laid_strconv_isPrint32), ("unicode/utf8.first", Rows.laid_unicode_utf8_first)]
theorem gErr : Tryd.prog.globalNamed "strconv.ErrSyntax" = some 4 := by kernel_rfl
theorem tErr : (Tryd.prog.globals[(4 : Nat)]?).map (·.type) = some 58 := by kernel_rfl
theorem laidVars_pre3 {W : World} {a b c : String × DataW Unit} {r : List (String × DataW Unit)} {ps : List MemPlace} (h : DataW.LaidVars Tryd.prog W (a :: b :: c :: r) ps) : ∃ qs, DataW.LaidVars Tryd.prog W [a, b, c] qs ∧ ∃ t, ps = qs ++ t := by
  obtain ⟨g0, t0, c0, f0, p0, q0, h01, h02, h03, h04, h1, e0⟩ := h
  obtain ⟨g1, t1, c1, f1, p1, q1, h11, h12, h13, h14, h2, e1⟩ := h1
  obtain ⟨g2, t2, c2, f2, p2, q2, h21, h22, h23, h24, h3, e2⟩ := h2
  refine ⟨_, ⟨g0, t0, c0, f0, p0, _, h01, h02, h03, h04, ⟨g1, t1, c1, f1, p1, _, h11, h12, h13, h14, ⟨g2, t2, c2, f2, p2, [], h21, h22, h23, h24, rfl, rfl⟩, rfl⟩, rfl⟩, q2, ?_⟩
  rw [e0, e1, e2]
  simp
theorem laidVars_tail {W : World} {a : String × DataW Unit} {r : List (String × DataW Unit)} {ps : List MemPlace} (h : DataW.LaidVars Tryd.prog W (a :: r) ps) : ∃ qs t, DataW.LaidVars Tryd.prog W r qs ∧ ps = t ++ qs := by
  obtain ⟨g0, t0, c0, f0, p0, q0, h01, h02, h03, h04, h1, e0⟩ := h
  exact ⟨q0, _, h1, e0⟩
theorem errErr : ∃ ms, Tryd.prog.underlying 58 = some (.interface ms) := ⟨_, Tryd.underlying58⟩
theorem zs_of_laid15 {W : World} (h : laidMetH Tryd.prog laid15 W) (hsh : W.ShapedOpen Tryd.prog) : ∃ z, Zs W z ∧ ∃ ev, W.cell? ⟨4, 0, none⟩ = some ev ∧ (ev = .nilIface ∨ ∃ t p, ev = .iface t p) ∧ 4 < W.heap.size := by
  rw [MakeChecks.laidMetH_plain _ _ _ (by kernel_rfl)] at h
  obtain ⟨ps, hv, hnd, hpl⟩ := h
  obtain ⟨q1, t1, hv1, e1⟩ := laidVars_tail hv
  obtain ⟨q2, t2, hv2, e2⟩ := laidVars_tail hv1
  obtain ⟨q3, t3, hv3, e3⟩ := laidVars_tail hv2
  obtain ⟨q4, t4, hv4, e4⟩ := laidVars_tail hv3
  obtain ⟨q5, t5, hv5, e5⟩ := laidVars_tail hv4
  obtain ⟨q6, t6, hv6, e6⟩ := laidVars_tail hv5
  obtain ⟨qs, hq, t7, e7⟩ := laidVars_pre3 hv6
  have hps : ps = (t1 ++ (t2 ++ (t3 ++ (t4 ++ (t5 ++ t6))))) ++ (qs ++ t7) := by rw [e1, e2, e3, e4, e5, e6, e7]; simp only [List.append_assoc]
  have h3 : laidMetH Tryd.prog laid3 W := by
    rw [MakeChecks.laidMetH_plain _ _ _ (by kernel_rfl)]
    refine ⟨qs, hq, ?_, fun b o hx => hpl b o (by rw [hps]; simp [hx])⟩
    rw [hps] at hnd
    exact (List.nodup_append.1 (List.nodup_append.1 hnd).2.1).1
  obtain ⟨z, hz⟩ := zs_of_laid h3 hsh
  obtain ⟨g, t, cs, fuel, p, q, hg, ht, hvar, htr, -, -⟩ := hv5
  obtain rfl := Option.some.inj (gErr.symm.trans hg)
  obtain rfl := Option.some.inj (tErr.symm.trans ht)
  obtain ⟨ms, hu⟩ := errErr
  obtain ⟨_, u, v, hc, -, -⟩ := iface_of_trod hu htr
  obtain rfl : cs = #[.iface u v] := by cases cs; simpa using hc
  have hcell := World.var?_cell gErr hvar 0
  refine ⟨z, hz, .iface u v, by simpa using hcell, .inr ⟨u, v, rfl⟩, ?_⟩
  have := hz.size
  show 4 < _
  omega
end Go.Proofs.YtaofindlomkbbaaDoor
