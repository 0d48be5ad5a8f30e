/-
  The walk of laws.FnOverlapRun.
-/
import Derived.Test.YtckfgdohpmllmaaDoorSort
import Derived.Test.YtckfgdohpmllmaaDoorOrd
import Derived.Test.YtckfgdohpmllmaaDoorLeft2
namespace Go.Proofs.YtckfgdohpmllmaaDoor
open Go Go.RowKit
/-- The list out of which those that overlap the last one are left. -/
structure Filt (fs : List Pf) (j : Nat) (es : List Pf) : Prop where
  sub : es.Sublist (fs.take j)
  dis : ∀ (i : Nat) a b, es[i]? = some a → es[i + 1]? = some b → ovP a.bs a.k b.bs b.k = false
theorem Filt.start (fs : List Pf) : Filt fs 0 [] := ⟨by simp, fun i a b h => by simp at h⟩
theorem Filt.skip {fs es : List Pf} {j : Nat} (h : Filt fs j es) : Filt fs (j + 1) es :=
  ⟨h.sub.trans (by rw [List.take_add_one]; exact List.sublist_append_left _ _), h.dis⟩
theorem Filt.push {fs es : List Pf} {j : Nat} {e : Pf} (h : Filt fs j es) (he : fs[j]? = some e) (hd : ∀ l, es[es.length - 1]? = some l → ovP l.bs l.k e.bs e.k = false) : Filt fs (j + 1) (es ++ [e]) := by
  refine ⟨?_, fun i a b ha hb => ?_⟩
  · rw [List.take_add_one, he, Option.toList_some]
    exact h.sub.append_right _
  · have hi : i + 1 < es.length + 1 := by have := (List.getElem?_eq_some_iff.1 hb).1; simpa using this
    rcases Nat.lt_or_ge (i + 1) es.length with h1 | h1
    · rw [List.getElem?_append_left (by omega)] at ha
      rw [List.getElem?_append_left h1] at hb
      exact h.dis i a b ha hb
    · have h2 : i + 1 = es.length := by omega
      rw [List.getElem?_append_left (by omega)] at ha
      rw [h2, List.getElem?_append_right (Nat.le_refl _)] at hb
      simp at hb
      subst hb
      exact hd a (by rw [← h2]; exact ha)
theorem Filt.mem {fs es : List Pf} {j : Nat} (h : Filt fs j es) : ∀ e ∈ es, e ∈ fs := fun _ he => List.mem_of_mem_take (h.sub.subset he)
theorem Filt.len {fs es : List Pf} {j : Nat} (h : Filt fs j es) : es.length ≤ j := by have := h.sub.length_le; rw [List.length_take] at this; omega
theorem Filt.sorted {fs es : List Pf} {j : Nat} (h : Filt fs j es) (hs : fs.Pairwise lePf) : es.Pairwise lePf := (hs.sublist (List.take_sublist _ _)).sublist h.sub
theorem Filt.far {fs es : List Pf} {j : Nat} (h : Filt fs j es) (hs : fs.Pairwise lePf) (hv : ∀ e ∈ fs, Vp e.is) {i k : Nat} {a b : Pf} (ha : es[i]? = some a) (hb : es[k]? = some b) (hik : i < k) : ovP a.bs a.k b.bs b.k = false := by
  cases ho : ovP a.bs a.k b.bs b.k
  · rfl
  · have hlt := (List.getElem?_eq_some_iff.1 hb).1
    obtain ⟨c, hc⟩ : ∃ c, es[i + 1]? = some c := ⟨es[i + 1]'(by omega), List.getElem?_eq_getElem _⟩
    have hso := h.sorted hs
    have := ord_mid (hv a (h.mem a (List.mem_of_getElem? ha))) (hv c (h.mem c (List.mem_of_getElem? hc))) (hv b (h.mem b (List.mem_of_getElem? hb))) (sort_get hso ha hc (by omega)) (sort_get hso hc hb (by omega)) ho
    have h2 := h.dis i a c ha hc
    rw [show ovP a.bs a.k c.bs c.k = true from this] at h2
    cases h2
theorem Filt.run {fs es : List Pf} {j : Nat} (h : Filt fs j es) (hs : fs.Pairwise lePf) (hv : ∀ e ∈ fs, Vp e.is) (p : List UInt8 × Nat) {i t k : Nat} {a c b : Pf} (ha : es[i]? = some a) (hc : es[t]? = some c) (hb : es[k]? = some b) (h1 : i < t) (h2 : t < k) (oa : ovP p.1 p.2 a.bs a.k = true) (ob : ovP p.1 p.2 b.bs b.k = true) : ovP p.1 p.2 c.bs c.k = true := by
  have hso := h.sorted hs
  have hf := h.far hs hv ha hb (by omega)
  rcases Nat.le_total p.2 a.k with ka | ka
  · rcases Nat.le_total p.2 b.k with kb | kb
    · exact ord_in (q := p) (a := a.is) (c := c.is) (b := b.is) (hv a (h.mem a (List.mem_of_getElem? ha))) (hv c (h.mem c (List.mem_of_getElem? hc))) (hv b (h.mem b (List.mem_of_getElem? hb))) (sort_get hso ha hc (by omega)) (sort_get hso hc hb (by omega)) oa ob ka kb
    · have := ov_through (p := p) (a := b.is) (b := a.is) ob oa kb
      rw [ov_sym] at this
      rw [show ovP a.bs a.k b.bs b.k = true from this] at hf
      cases hf
  · have := ov_through (p := p) (a := a.is) (b := b.is) oa ob ka
    rw [show ovP a.bs a.k b.bs b.k = true from this] at hf
    cases hf
end Go.Proofs.YtckfgdohpmllmaaDoor
