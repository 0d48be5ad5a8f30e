/-
  Rows that list six variables: the three of net/netip are among them.
-/
import Derived.Test.YtckfgdohpmllmaaDoorFrame
namespace Go.Proofs.YtckfgdohpmllmaaDoor
open Go Go.RowKit Go.ChangeShapes Go.WideShapes Go.ChangeAt Go.Deep
def laid6 : List (String × DataW Unit) := [("math/bits.deBruijn32tab", Rows.laid_math_bits_deBruijn32tab), ("math/bits.deBruijn64tab", Rows.laid_math_bits_deBruijn64tab), ("internal/strconv.uint64pow10", Rows.laid_internal_strconv_uint64pow10), ("net/netip.z4", Rows.laid_net_netip_z4), ("net/netip.z6noz", Rows.laid_net_netip_z6noz), ("net/netip.z0", Rows.laid_net_netip_z0)]
theorem zs_of_laid6 {W : World} (h : laidMetH Tryd.prog laid6 W) (hsh : W.ShapedOpen Tryd.prog) : ∃ z, Zs W z := by
  rw [MakeChecks.laidMetH_plain _ _ _ (by kernel_rfl)] at h
  refine zs_of_laid (W := W) ?_ hsh
  rw [MakeChecks.laidMetH_plain _ _ _ (by kernel_rfl)]
  obtain ⟨ps, hv, hnd, hpl⟩ := h
  obtain ⟨_, _, _, _, p1, q1, _, _, _, _, hv1, e1⟩ := hv
  obtain ⟨_, _, _, _, p2, q2, _, _, _, _, hv2, e2⟩ := hv1
  obtain ⟨_, _, _, _, p3, q3, _, _, _, _, hv3, e3⟩ := hv2
  have hsub : ∀ x ∈ q3, x ∈ ps := fun x hx => by
    rw [e1, e2, e3]
    simp [hx]
  refine ⟨q3, hv3, ?_, fun b o hx => hpl b o (hsub _ hx)⟩
  rw [e1] at hnd
  have h1 := (List.nodup_append.1 hnd).2.1
  rw [e2] at h1
  have h2 := (List.nodup_append.1 h1).2.1
  rw [e3] at h2
  exact (List.nodup_append.1 h2).2.1
end Go.Proofs.YtckfgdohpmllmaaDoor
