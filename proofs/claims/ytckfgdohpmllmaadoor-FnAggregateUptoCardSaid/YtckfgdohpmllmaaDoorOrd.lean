/-
  What the order of prefixes says of those that overlap. Plain.
-/
import Derived.Test.YtckfgdohpmllmaaDoorOvL
import Derived.Test.YtckfgdohpmllmaaDoorSortL
namespace Go.Proofs.YtckfgdohpmllmaaDoor
open Go Go.RowKit
theorem pkey_le {a b : List UInt8 × Nat} (ha : a.2 < 256) (hb : b.2 < 256) (h : pkey a ≤ pkey b) : keyOf (wb a.1 a.2 false) ≤ keyOf (wb b.1 b.2 false) ∧ (keyOf (wb a.1 a.2 false) = keyOf (wb b.1 b.2 false) → a.2 ≤ b.2) := by
  have h1 := key_lt a.1
  have h2 := key_lt b.1
  unfold pkey at h
  omega
theorem key_same {x y : List UInt8} (hx : isLen x.length) (hl : x.length = y.length) : keyOf x ≤ keyOf y ↔ Lib.beNat x ≤ Lib.beNat y := by
  rw [key_len hx, key_len (by rw [← hl]; exact hx), hl]
  omega
theorem key_order {x y : List UInt8} (hx : isLen x.length) (hy : isLen y.length) (h : keyOf x ≤ keyOf y) : x.length ≤ y.length := by
  have h1 := beNat_lt x
  have h2 := beNat_lt y
  rw [key_len hx, key_len hy] at h
  rcases hx with hx | hx <;> rcases hy with hy | hy <;> rw [hx] at h h1 ⊢ <;> rw [hy] at h h2 ⊢ <;> simp only [pow4, pow16] at h1 h2 <;> simp at h <;> omega
/-- The number of the first address. -/
def fN (p : List UInt8 × Nat) : Nat := Lib.beNat (wb p.1 p.2 false)
theorem fN_eq (p : List UInt8 × Nat) : fN p = Lib.beNat p.1 / 2 ^ (8 * p.1.length - p.2) * 2 ^ (8 * p.1.length - p.2) := by
  unfold fN; rw [wb_beNat]; unfold wbN; simp
theorem ord_le {a b : List UInt8 × Nat} (ha : Vp a) (hb : Vp b) (h : pkey a ≤ pkey b) : a.1.length ≤ b.1.length ∧ (a.1.length = b.1.length → fN a ≤ fN b ∧ (fN a = fN b → a.2 ≤ b.2)) := by
  obtain ⟨h1, h2⟩ := pkey_le ha.k8 hb.k8 h
  have ia : isLen (wb a.1 a.2 false).length := by rw [wb_len]; exact ha.1
  have ib : isLen (wb b.1 b.2 false).length := by rw [wb_len]; exact hb.1
  have h3 := key_order ia ib h1
  rw [wb_len, wb_len] at h3
  refine ⟨h3, fun hl => ?_⟩
  have hl' : (wb a.1 a.2 false).length = (wb b.1 b.2 false).length := by rw [wb_len, wb_len]; exact hl
  refine ⟨(key_same ia hl').1 h1, fun he => h2 ?_⟩
  have : wb a.1 a.2 false = wb b.1 b.2 false := beNat_inj _ _ _ hl' rfl he
  rw [this]
/-- The first address of one that overlaps and has at least as many bits. -/
theorem ov_top {p c : List UInt8 × Nat} (hl : p.1.length = c.1.length) : ovP p.1 p.2 c.1 c.2 = true ∧ p.2 ≤ c.2 → fN c / 2 ^ (8 * p.1.length - p.2) = Lib.beNat p.1 / 2 ^ (8 * p.1.length - p.2) := by
  rintro ⟨ho, hk⟩
  rw [ovP_iff, Nat.min_eq_left hk] at ho
  have h1 := first_in c.1 c.2
  have h2 := top_le h1 hk
  rw [← hl] at h2
  unfold fN
  rw [h2, ho.2]
theorem ov_mk {p c : List UInt8 × Nat} (hl : p.1.length = c.1.length) (h : fN c / 2 ^ (8 * p.1.length - p.2) = Lib.beNat p.1 / 2 ^ (8 * p.1.length - p.2)) : ovP p.1 p.2 c.1 c.2 = true := by
  rw [ovP_iff]
  refine ⟨hl, ?_⟩
  have h1 := top_le h (j := min p.2 c.2) (by omega)
  have h2 := top_le (first_in c.1 c.2) (j := min p.2 c.2) (by omega)
  rw [← hl] at h2
  unfold fN at h1
  rw [← h1, h2]
/-- Of two in order that overlap, the first one has at most as many bits. -/
theorem ord_bits {a b : List UInt8 × Nat} (ha : Vp a) (hb : Vp b) (h : pkey a ≤ pkey b) (ho : ovP a.1 a.2 b.1 b.2 = true) : a.2 ≤ b.2 := by
  have hl := ((ovP_iff _ _ _ _).1 ho).1
  obtain ⟨h1, h2⟩ := (ord_le ha hb h).2 hl
  rcases Nat.lt_or_ge b.2 a.2 with hlt | hge
  · rw [ov_sym] at ho
    have h3 := ov_top hl.symm ⟨ho, Nat.le_of_lt hlt⟩
    have h4 := fN_eq b
    rw [← h3] at h4
    have h5 := Nat.div_mul_le_self (fN a) (2 ^ (8 * b.1.length - b.2))
    exact h2 (by omega)
  · exact hge
/-- One between two in order that overlap overlaps the first one, too. -/
theorem ord_mid {p c b : List UInt8 × Nat} (hp : Vp p) (hc : Vp c) (hb : Vp b) (h1 : pkey p ≤ pkey c) (h2 : pkey c ≤ pkey b) (ho : ovP p.1 p.2 b.1 b.2 = true) : ovP p.1 p.2 c.1 c.2 = true := by
  have hl := ((ovP_iff _ _ _ _).1 ho).1
  obtain ⟨a1, a2⟩ := ord_le hp hc h1
  obtain ⟨b1, b2⟩ := ord_le hc hb h2
  have hlc : p.1.length = c.1.length := by omega
  have hk := ord_bits hp hb (Nat.le_trans h1 h2) ho
  have ht := ov_top hl ⟨ho, hk⟩
  have m1 := (a2 hlc).1
  have m2 := (b2 (by omega)).1
  refine ov_mk hlc ?_
  have e1 : fN p / 2 ^ (8 * p.1.length - p.2) = Lib.beNat p.1 / 2 ^ (8 * p.1.length - p.2) := first_in p.1 p.2
  have l1 := Nat.div_le_div_right (c := 2 ^ (8 * p.1.length - p.2)) m1
  have l2 := Nat.div_le_div_right (c := 2 ^ (8 * p.1.length - p.2)) m2
  omega
/-- Between two that lie in a prefix. -/
theorem ord_in {q a c b : List UInt8 × Nat} (ha : Vp a) (hc : Vp c) (hb : Vp b) (h1 : pkey a ≤ pkey c) (h2 : pkey c ≤ pkey b) (oa : ovP q.1 q.2 a.1 a.2 = true) (ob : ovP q.1 q.2 b.1 b.2 = true) (ka : q.2 ≤ a.2) (kb : q.2 ≤ b.2) : ovP q.1 q.2 c.1 c.2 = true := by
  have la := ((ovP_iff _ _ _ _).1 oa).1
  have lb := ((ovP_iff _ _ _ _).1 ob).1
  obtain ⟨a1, a2⟩ := ord_le ha hc h1
  obtain ⟨b1, b2⟩ := ord_le hc hb h2
  have ta := ov_top la ⟨oa, ka⟩
  have tb := ov_top lb ⟨ob, kb⟩
  have m1 := (a2 (by omega)).1
  have m2 := (b2 (by omega)).1
  refine ov_mk (by omega) ?_
  have l1 := Nat.div_le_div_right (c := 2 ^ (8 * q.1.length - q.2)) m1
  have l2 := Nat.div_le_div_right (c := 2 ^ (8 * q.1.length - q.2)) m2
  omega
/-- Three prefixes: the last two overlap, and the first one lies in the second one. -/
theorem ov_through {p a b : List UInt8 × Nat} (oa : ovP p.1 p.2 a.1 a.2 = true) (ob : ovP p.1 p.2 b.1 b.2 = true) (ka : a.2 ≤ p.2) : ovP a.1 a.2 b.1 b.2 = true := by
  rw [ov_sym] at oa
  rcases Nat.le_total b.2 p.2 with h | h
  · rw [ov_sym] at ob
    exact ov_of (ov_in oa ka (inP_first p.1 p.2)) (ov_in ob h (inP_first p.1 p.2))
  · have := ov_in ob h (inP_first b.1 b.2)
    exact ov_of (ov_in oa ka this) (inP_first b.1 b.2)
theorem sort_get {l : List Pf} (h : l.Pairwise lePf) {i j : Nat} {e f : Pf} (hi : l[i]? = some e) (hj : l[j]? = some f) (hij : i ≤ j) : pkey e.is ≤ pkey f.is := by
  obtain ⟨h1, rfl⟩ := List.getElem?_eq_some_iff.1 hi
  obtain ⟨h2, rfl⟩ := List.getElem?_eq_some_iff.1 hj
  rcases Nat.lt_or_ge i j with h3 | h3
  · exact List.pairwise_iff_getElem.1 h i j h1 h2 h3
  · have : i = j := by omega
    subst this
    exact Nat.le_refl _
end Go.Proofs.YtckfgdohpmllmaaDoor
