/-
  Prefixes that overlap, and the addresses in them. Plain.
-/
import Derived.Test.YtckfgdohpmllmaaDoorLeft
import Derived.Test.YtckfgdohpmllmaaDoorOvEach
namespace Go.Proofs.YtckfgdohpmllmaaDoor
open Go Go.RowKit
theorem last_in (bs : List UInt8) (k : Nat) : Lib.beNat (wb bs k true) / 2 ^ (8 * bs.length - k) = Lib.beNat bs / 2 ^ (8 * bs.length - k) := by
  rw [wb_beNat]
  unfold wbN
  simp only [if_true]
  have hp := Nat.pow_pos (n := 8 * bs.length - k) (show 0 < 2 by omega)
  rw [Nat.mul_comm, Nat.mul_add_div hp, show (2 ^ (8 * bs.length - k) - 1) / 2 ^ (8 * bs.length - k) = 0 from Nat.div_eq_of_lt (by omega), Nat.add_zero]
theorem inP_iff (p : List UInt8) (k : Nat) (x : List UInt8) : inP p k x = true ↔ x.length = p.length ∧ Lib.beNat x / 2 ^ (8 * p.length - k) = Lib.beNat p / 2 ^ (8 * p.length - k) := by unfold inP; rw [decide_eq_true_eq]
theorem ovP_iff (p : List UInt8) (k : Nat) (q : List UInt8) (j : Nat) : ovP p k q j = true ↔ p.length = q.length ∧ Lib.beNat p / 2 ^ (8 * p.length - min k j) = Lib.beNat q / 2 ^ (8 * p.length - min k j) := by unfold ovP; rw [decide_eq_true_eq]
theorem inP_first (p : List UInt8) (k : Nat) : inP p k (wb p k false) = true := (inP_iff _ _ _).2 ⟨wb_len _ _ _, first_in p k⟩
theorem inP_last (p : List UInt8) (k : Nat) : inP p k (wb p k true) = true := (inP_iff _ _ _).2 ⟨wb_len _ _ _, last_in p k⟩
theorem ov_of {p q x : List UInt8} {k j : Nat} (h1 : inP p k x = true) (h2 : inP q j x = true) : ovP p k q j = true := by
  rw [inP_iff] at h1 h2
  refine (ovP_iff _ _ _ _).2 ⟨h1.1.symm.trans h2.1, ?_⟩
  have e1 := top_le h1.2 (j := min k j) (by omega)
  have e2 := h2.2
  rw [show q.length = p.length from h2.1.symm.trans h1.1] at e2
  have e3 := top_le e2 (j := min k j) (by omega)
  rw [← e1, e3]
theorem ov_sym (p q : List UInt8) (k j : Nat) : ovP p k q j = ovP q j p k := by
  rw [Bool.eq_iff_iff, ovP_iff, ovP_iff, Nat.min_comm]
  constructor
  · rintro ⟨h1, h2⟩; exact ⟨h1.symm, by rw [← h1]; exact h2.symm⟩
  · rintro ⟨h1, h2⟩; exact ⟨h1.symm, by rw [← h1]; exact h2.symm⟩
theorem ov_in {p q x : List UInt8} {k j : Nat} (h : ovP p k q j = true) (hk : k ≤ j) (hx : inP q j x = true) : inP p k x = true := by
  rw [ovP_iff, Nat.min_eq_left hk] at h
  rw [inP_iff] at hx ⊢
  refine ⟨hx.1.trans h.1.symm, ?_⟩
  have := top_le hx.2 hk
  rw [show q.length = p.length from h.1.symm] at this
  rw [this, h.2]
theorem ov_common {p q : List UInt8} {k j : Nat} (h : ovP p k q j = true) : ∃ x, inP p k x = true ∧ inP q j x = true := by
  rcases Nat.le_total k j with hk | hk
  · exact ⟨_, ov_in h hk (inP_first q j), inP_first q j⟩
  · rw [ov_sym] at h
    exact ⟨_, inP_first p k, ov_in h hk (inP_first p k)⟩
theorem many_one {es : List Pf} {i : Nat} {e : Pf} (hi : es[i]? = some e) {x : List UInt8} (hx : inP e.bs e.k x = true) : 1 ≤ manyIn (es.map Pf.is) x := by
  unfold manyIn
  exact List.countP_pos_iff.2 ⟨e.is, List.mem_map_of_mem (List.mem_of_getElem? hi), hx⟩
theorem many_two {es : List Pf} {i t : Nat} {e f : Pf} (hi : es[i]? = some e) (ht : es[t]? = some f) (hne : i ≠ t) {x : List UInt8} (h1 : inP e.bs e.k x = true) (h2 : inP f.bs f.k x = true) : 2 ≤ manyIn (es.map Pf.is) x := by
  induction es generalizing i t with
  | nil => simp at hi
  | cons y r ih =>
    have hc : manyIn ((y :: r).map Pf.is) x = manyIn (r.map Pf.is) x + if inP y.bs y.k x then 1 else 0 := by
      unfold manyIn; simp only [List.map_cons, List.countP_cons, Pf.is]
    rw [hc]
    cases i with
    | zero =>
      cases t with
      | zero => exact absurd rfl hne
      | succ t =>
        simp at hi ht
        subst hi
        have := many_one ht h2
        rw [h1]
        simp
        omega
    | succ i =>
      cases t with
      | zero =>
        simp at hi ht
        subst ht
        have := many_one hi h1
        rw [h2]
        simp
        omega
      | succ t =>
        have := ih (i := i) (t := t) (by simpa using hi) (by simpa using ht) (by omega)
        omega
theorem boolCells_at (l : List Bool) (t : Nat) (b : Bool) (h : l[t]? = some b) : (boolCells l)[t]? = some (.bool b) := by unfold boolCells; rw [List.getElem?_map, h]; rfl
theorem ovs_at (p : List UInt8) (k : Nat) (es : List Pf) (t : Nat) (f : Pf) (h : es[t]? = some f) : (ovs p k (es.map Pf.is))[t]? = some (ovP p k f.bs f.k) := by
  unfold ovs; rw [List.getElem?_map, List.getElem?_map, h]; rfl
theorem madeZ_len (l : List (List UInt8 × UInt8)) : (madeZ l).length ≤ l.length := by unfold madeZ; rw [List.length_map]; exact List.length_filter_le _ _
end Go.Proofs.YtckfgdohpmllmaaDoor
