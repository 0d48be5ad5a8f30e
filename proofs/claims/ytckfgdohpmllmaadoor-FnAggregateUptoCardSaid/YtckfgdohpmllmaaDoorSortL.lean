/-
  The order of prefixes as one number; lists in order. Plain.
-/
import Derived.Test.YtckfgdohpmllmaaDoorPCmp
namespace Go.Proofs.YtckfgdohpmllmaaDoor
open Go Go.RowKit
theorem key_lt (b : List UInt8) : keyOf b < 87112285931760246646623899502532662132736 := by
  unfold keyOf
  obtain ⟨h1, h2⟩ := adOf_lt b
  have h3 : blN (adOf b).k ≤ 128 := by rcases (adOf b).k with _ | _ | _ <;> simp [blN]
  omega
/-- The number by which prefixes are ordered. -/
def pkey (p : List UInt8 × Nat) : Nat := (keyOf (wb p.1 p.2 false) * 256 + p.2) * 87112285931760246646623899502532662132736 + keyOf p.1
theorem cmpP_key (p q : List UInt8) (k j : Nat) (hk : k < 256) (hj : j < 256) : cmpP p k q j = cmpI (pkey (p, k)) (pkey (q, j)) := by
  unfold cmpP pkey
  have h1 := key_lt p
  have h2 := key_lt q
  simp only
  rw [cmp_key, cmp_key]
  generalize keyOf (wb p k false) = a at *
  generalize keyOf (wb q j false) = b at *
  generalize keyOf p = x at *
  generalize keyOf q = y at *
  unfold cmpI
  by_cases e1 : (a : Int) < b
  · rw [if_pos e1, if_pos (by omega), if_pos (by omega)]
  · rw [if_neg e1]
    by_cases e2 : (b : Int) < a
    · rw [if_pos e2, if_pos (by omega), if_neg (by omega), if_pos (by omega)]
    · rw [if_neg e2, if_neg (by omega)]
      obtain rfl : a = b := by omega
      by_cases e3 : (k : Int) < j
      · rw [if_pos e3, if_pos (by omega), if_pos (by omega)]
      · rw [if_neg e3]
        by_cases e4 : (j : Int) < k
        · rw [if_pos e4, if_pos (by omega), if_neg (by omega), if_pos (by omega)]
        · rw [if_neg e4, if_neg (by omega)]
          obtain rfl : k = j := by omega
          by_cases e5 : (x : Int) < y
          · rw [if_pos e5, if_pos (by omega)]
          · rw [if_neg e5]
            by_cases e6 : (y : Int) < x
            · rw [if_pos e6, if_neg (by omega), if_pos (by omega)]
            · rw [if_neg e6, if_neg (by omega), if_neg (by omega)]
theorem key_inj {a b : List UInt8} (ha : isLen a.length) (hb : isLen b.length) (h : keyOf a = keyOf b) : a = b := by
  rw [key_len ha, key_len hb] at h
  have h1 := beNat_lt a
  have h2 := beNat_lt b
  have hl : a.length = b.length ∧ Lib.beNat a = Lib.beNat b := by
    rcases ha with ha | ha <;> rcases hb with hb | hb <;> rw [ha] at h h1 <;> rw [hb] at h h2 <;> simp only [pow4, pow16] at h1 h2 <;> simp at h <;> omega
  exact beNat_inj b.length _ _ hl.1 rfl hl.2
theorem Vp.k8 {p : List UInt8 × Nat} (h : Vp p) : p.2 < 256 := by have := h.1; have := h.2; unfold isLen at *; omega
theorem pkey_inj {p q : List UInt8 × Nat} (hp : Vp p) (hq : Vp q) (h : pkey p = pkey q) : p = q := by
  have h1 := key_lt p.1
  have h2 := key_lt q.1
  have h3 := hp.k8
  have h4 := hq.k8
  unfold pkey at h
  have e1 : keyOf p.1 = keyOf q.1 ∧ p.2 = q.2 := by omega
  exact Prod.ext (key_inj hp.1 hq.1 e1.1) e1.2
def lePf (a b : Pf) : Prop := pkey a.is ≤ pkey b.is
/-- A list put in order. -/
def SortOf (es es' : List Pf) : Prop := es'.Perm es ∧ es'.Pairwise lePf
/-- The list while its last element goes down. -/
def midL (pre : List Pf) (p : Pf) (k : Nat) : List Pf := pre.take k ++ p :: pre.drop k
theorem midL_len (pre : List Pf) (p : Pf) (k : Nat) : (midL pre p k).length = pre.length + 1 := by unfold midL; simp; omega
theorem midL_at (pre : List Pf) (p : Pf) (k : Nat) (hk : k ≤ pre.length) : (midL pre p k)[k]? = some p := by
  unfold midL
  rw [List.getElem?_append_right (by simp; omega)]
  simp [Nat.min_eq_left hk]
theorem midL_before (pre : List Pf) (p : Pf) (k : Nat) (hk : k < pre.length) : (midL pre p (k + 1))[k]? = pre[k]? := by
  unfold midL
  rw [List.getElem?_append_left (by simp; omega), List.getElem?_take_of_lt (by omega)]
theorem midL_end (pre : List Pf) (p : Pf) : midL pre p pre.length = pre ++ [p] := by unfold midL; simp
theorem midL_step (pre : List Pf) (p q : Pf) (k : Nat) (hq : pre[k]? = some q) : ((midL pre p (k + 1)).set (k + 1) q).set k p = midL pre p k := by
  have hk : k < pre.length := (List.getElem?_eq_some_iff.1 hq).1
  have e : pre[k] = q := (List.getElem?_eq_some_iff.1 hq).2
  apply List.ext_getElem?
  intro i
  unfold midL
  simp only [List.getElem?_set, List.length_set, List.length_append, List.length_cons, List.length_take, List.length_drop, List.getElem?_append, List.getElem?_take, List.getElem?_cons, List.getElem?_drop]
  by_cases h1 : i < k
  · rw [if_neg (by omega), if_neg (by omega), if_pos (by omega), if_pos (by omega), if_pos (by omega), if_pos (by omega)]
  · by_cases h2 : i = k
    · subst h2
      rw [if_pos rfl, if_pos (by omega), if_neg (by omega), if_pos (by omega)]
    · by_cases h3 : i = k + 1
      · subst h3
        rw [if_neg (by omega), if_pos rfl, if_pos (by omega), if_neg (by omega), if_neg (by omega), show k + (k + 1 - min k pre.length - 1) = k by omega, hq]
      · rw [if_neg (by omega), if_neg (by omega), if_neg (by omega), if_neg (by omega), if_neg (by omega), if_neg (by omega)]
        congr 1
        omega
theorem midL_perm (pre : List Pf) (p : Pf) (k : Nat) : (midL pre p k).Perm (pre ++ [p]) := by
  unfold midL
  have h1 : (pre.take k ++ p :: pre.drop k).Perm (p :: (pre.take k ++ pre.drop k)) := List.perm_middle
  rw [List.take_append_drop] at h1
  exact h1.trans (List.perm_append_singleton p pre).symm
/-- While it goes down: those behind are greater. -/
def Down (pre : List Pf) (p : Pf) (k : Nat) : Prop := ∀ y ∈ pre.drop k, pkey p.is < pkey y.is
theorem Down.step {pre : List Pf} {p q : Pf} {k : Nat} (h : Down pre p (k + 1)) (hq : pre[k]? = some q) (hlt : pkey p.is < pkey q.is) : Down pre p k := fun y hy => by
  have hk : k < pre.length := (List.getElem?_eq_some_iff.1 hq).1
  have e : pre[k] = q := (List.getElem?_eq_some_iff.1 hq).2
  rw [List.drop_eq_getElem_cons hk, e] at hy
  rcases List.mem_cons.1 hy with rfl | hy
  · exact hlt
  · exact h y hy
theorem Down.done {pre : List Pf} {p : Pf} {k : Nat} (h : Down pre p k) (hs : pre.Pairwise lePf) (hb : k = 0 ∨ ∃ j q, k = j + 1 ∧ pre[j]? = some q ∧ pkey q.is ≤ pkey p.is) : (midL pre p k).Pairwise lePf := by
  have hs' := hs
  rw [← List.take_append_drop k pre, List.pairwise_append] at hs'
  obtain ⟨s1, s2, s3⟩ := hs'
  unfold midL
  rw [List.pairwise_append]
  refine ⟨s1, List.pairwise_cons.2 ⟨fun y hy => Nat.le_of_lt (h y hy), s2⟩, fun a ha b hb' => ?_⟩
  rcases List.mem_cons.1 hb' with rfl | hb'
  · rcases hb with rfl | ⟨j, q, rfl, hq, hle⟩
    · simp at ha
    · have hj : j < pre.length := (List.getElem?_eq_some_iff.1 hq).1
      have e : pre[j] = q := (List.getElem?_eq_some_iff.1 hq).2
      obtain ⟨i, hi, rfl⟩ := List.mem_iff_getElem.1 ha
      simp at hi
      have hij : lePf pre[i] pre[j] := by
        rcases Nat.lt_or_ge i j with hlt | hge
        · exact List.pairwise_iff_getElem.1 hs i j (by omega) hj hlt
        · have : i = j := by omega
          subst this
          exact Nat.le_refl _
      rw [e] at hij
      simp only [List.getElem_take]
      exact Nat.le_trans hij hle
  · exact s3 a ha b hb'
theorem pfCells_set (es : List Pf) (i : Nat) (e : Pf) (hi : i < es.length) : (((pfCells es).set (i * 3) (.slice e.a e.n e.c)).set (i * 3 + 1) (.string ⟨#[]⟩)).set (i * 3 + 2) (.int .i64 e.k) = pfCells (es.set i e) := by
  induction es generalizing i with
  | nil => simp at hi
  | cons x r ih =>
    cases i with
    | zero => rfl
    | succ i =>
      have := ih i (by simpa using hi)
      have e1 : (i + 1) * 3 = i * 3 + 3 := by omega
      simp only [e1, pfCells, List.flatMap_cons, Pf.cells, List.cons_append, List.nil_append, List.set_cons_succ] at this ⊢
      rw [this]
/-- Two lists in order of the same prefixes are the same. -/
theorem sort_uniq : ∀ (l m : List (List UInt8 × Nat)), (∀ p ∈ l, Vp p) → l.Perm m → l.Pairwise (fun a b => pkey a ≤ pkey b) → m.Pairwise (fun a b => pkey a ≤ pkey b) → l = m
  | [], m, _, hp, _, _ => (List.nil_perm.1 hp).symm
  | a :: l, [], _, hp, _, _ => absurd hp.length_eq (by simp)
  | a :: l, b :: m, hv, hp, hl, hm => by
    rw [List.pairwise_cons] at hl hm
    have hb : b ∈ a :: l := hp.symm.subset (by simp)
    have ha : a ∈ b :: m := hp.subset (by simp)
    have e : a = b := by
      apply pkey_inj (hv a (by simp)) (hv b hb)
      have h1 : pkey a ≤ pkey b := by
        rcases List.mem_cons.1 hb with rfl | hb
        · exact Nat.le_refl _
        · exact hl.1 b hb
      have h2 : pkey b ≤ pkey a := by
        rcases List.mem_cons.1 ha with rfl | ha
        · exact Nat.le_refl _
        · exact hm.1 a ha
      omega
    subst e
    rw [sort_uniq l m (fun p h => hv p (by simp [h])) (List.perm_cons a |>.1 hp) hl.2 hm.2]
end Go.Proofs.YtckfgdohpmllmaaDoor
