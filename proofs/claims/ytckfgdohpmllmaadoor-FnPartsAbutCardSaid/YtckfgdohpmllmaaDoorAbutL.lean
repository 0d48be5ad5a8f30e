/-
  The parts of a prefix, in order, follow one another. Plain.
-/
import Derived.Test.YtckfgdohpmllmaaDoorWalkOn
import Derived.Test.YtckfgdohpmllmaaDoorCutL
import Derived.Test.YtckfgdohpmllmaaDoorOrd
import Derived.Test.YtckfgdohpmllmaaDoorSort
namespace Go.Proofs.YtckfgdohpmllmaaDoor
open Go Go.RowKit
theorem next_adV {n v : Nat} (hn : isLen n) (hv : v < 256 ^ n) : nextAd (adV n v) = if v + 1 < 256 ^ n then adV n (v + 1) else ⟨0, 0, none⟩ := by
  rcases hn with rfl | rfl
  · rw [pow4] at *
    unfold nextAd adV
    simp only [if_true]
    by_cases h : v + 1 < 4294967296
    · rw [if_pos h, if_neg (by omega)]
      (rw [Ad.mk.injEq]; exact ⟨by omega, by omega, rfl⟩)
    · rw [if_neg h, if_pos (by omega)]
  · rw [pow16] at *
    unfold nextAd adV
    simp only [show ¬ (16 = 4) by omega, if_false, show ¬ (some true = some false) by simp]
    by_cases h : v + 1 < 340282366920938463463374607431768211456
    · rw [if_pos h, if_neg (by omega)]
      (rw [Ad.mk.injEq]; exact ⟨by omega, by omega, rfl⟩)
    · rw [if_neg h, if_pos (by omega)]
theorem bytes_adV {n v : Nat} (hn : isLen n) (hv : v < 256 ^ n) : bytesOf (adV n v) = Lib.beBytes n v := by
  rcases hn with rfl | rfl
  · rw [pow4] at hv
    have e : (281470681743360 + v) % 4294967296 = v := by omega
    show Lib.beBytes 4 ((281470681743360 + v) % 4294967296) = _
    rw [e]
  · rw [pow16] at hv
    show Lib.beBytes 8 (v / 18446744073709551616) ++ Lib.beBytes 8 (v % 18446744073709551616) = _
    refine beNat_inj 16 _ _ (by simp [Lib.beBytes_length]) (Lib.beBytes_length _ _) ?_
    rw [beNat_append, Lib.beBytes_length, beNat_beBytes 8 _ (by omega), beNat_beBytes 8 _ (by omega), beNat_beBytes 16 v (by rw [pow16]; exact hv)]
    omega

theorem next_bytes {bs : List UInt8} (hl : isLen bs.length) (h : Lib.beNat bs + 1 < 256 ^ bs.length) : bytesOf (iter nextAd (adOf bs) 1) = Lib.beBytes bs.length (Lib.beNat bs + 1) := by
  show bytesOf (nextAd (adOf bs)) = _
  rw [adOf_len hl, next_adV hl (by omega), if_pos h, bytes_adV hl h]
theorem div_iff (v q T : Nat) (hT : 0 < T) : v / T = q ↔ q * T ≤ v ∧ v < q * T + T := by
  constructor
  · rintro rfl
    have h1 := Nat.div_mul_le_self v T
    have h2 := Nat.lt_div_mul_add (a := v) hT
    exact ⟨h1, h2⟩
  · rintro ⟨h1, h2⟩
    exact Nat.div_eq_of_lt_le h1 (by rw [Nat.add_mul, Nat.one_mul]; exact h2)
theorem in_num {p : Pf} {n v : Nat} (hl : p.bs.length = n) (hv : v < 256 ^ n) : inP p.bs p.k (Lib.beBytes n v) = true ↔ fN p.is ≤ v ∧ v < fN p.is + 2 ^ (8 * n - p.k) := by
  rw [inP_iff, Lib.beBytes_length, beNat_beBytes n v hv, hl, div_iff _ _ _ (Nat.pow_pos (by omega)), fN_eq]
  simp only [Pf.is, hl]
  constructor
  · rintro ⟨-, h⟩; exact h
  · intro h; exact ⟨trivial, h⟩
theorem last_num (p : List UInt8) (k : Nat) : Lib.beNat (wb p k true) + 1 = fN (p, k) + 2 ^ (8 * p.length - k) := by
  rw [fN_eq, wb_beNat]
  unfold wbN
  have := Nat.pow_pos (n := 8 * p.length - k) (show 0 < 2 by omega)
  simp only [if_true]
  omega
theorem fN_lt (p : List UInt8 × Nat) : fN p < 256 ^ p.1.length := by have := beNat_lt (wb p.1 p.2 false); rw [wb_len] at this; exact this
theorem cut_abut {a : List UInt8} {k0 : Nat} {es fs : List Pf} (h : CutInv a k0 es) (hl : isLen a.length) (hs : SortOf es fs) {i : Nat} {e f : Pf} (he : fs[i]? = some e) (hf : fs[i + 1]? = some f) : Lib.beNat (wb e.bs e.k true) + 1 = fN f.is := by
  have hln : ∀ p ∈ fs, p.bs.length = a.length ∧ Vp p.is := fun p hp => by
    obtain ⟨l1, -, -, l4⟩ := h.ln p (hs.1.subset hp)
    exact ⟨l1, by show isLen p.bs.length; rw [l1]; exact hl, by show p.k ≤ 8 * p.bs.length; rw [l1]; exact l4⟩
  have hcount : ∀ x, manyIn (fs.map Pf.is) x = if inP a k0 x then 1 else 0 := fun x => by
    rw [← h.sum x]
    unfold manyIn
    exact (hs.1.map _).countP_eq _
  have one : ∀ (j m : Nat) (p q : Pf) (v : Nat), fs[j]? = some p → fs[m]? = some q → v < 256 ^ a.length → (fN p.is ≤ v ∧ v < fN p.is + 2 ^ (8 * a.length - p.k)) → (fN q.is ≤ v ∧ v < fN q.is + 2 ^ (8 * a.length - q.k)) → j = m := fun j m p q v hj hm hv h1 h2 => by
    by_cases hjm : j = m
    · exact hjm
    · have c := many_two hj hm hjm ((in_num (hln p (List.mem_of_getElem? hj)).1 hv).2 h1) ((in_num (hln q (List.mem_of_getElem? hm)).1 hv).2 h2)
      rw [hcount] at c
      split at c <;> omega
  obtain ⟨le, ve⟩ := hln e (List.mem_of_getElem? he)
  obtain ⟨lf, vf⟩ := hln f (List.mem_of_getElem? hf)
  have hpe := Nat.pow_pos (n := 8 * a.length - e.k) (show 0 < 2 by omega)
  have hpf := Nat.pow_pos (n := 8 * a.length - f.k) (show 0 < 2 by omega)
  have hfl : fN f.is < 256 ^ a.length := by have := fN_lt f.is; simp only [Pf.is] at this ⊢; rw [← lf]; exact this
  have hle : fN e.is ≤ fN f.is := ((ord_le ve vf (sort_get hs.2 he hf (by omega))).2 (by simp only [Pf.is]; omega)).1
  have hlt : fN e.is + 2 ^ (8 * a.length - e.k) ≤ fN f.is := by
    rcases Nat.lt_or_ge (fN f.is) (fN e.is + 2 ^ (8 * a.length - e.k)) with h1 | h1
    · have := one i (i + 1) e f (fN f.is) he hf hfl ⟨hle, h1⟩ ⟨Nat.le_refl _, by omega⟩
      omega
    · exact h1
  have hlast : Lib.beNat (wb e.bs e.k true) + 1 = fN e.is + 2 ^ (8 * a.length - e.k) := by
    have := last_num e.bs e.k
    rw [le] at this
    exact this
  rw [hlast]
  obtain ⟨v, hv⟩ : ∃ v, v = fN e.is + 2 ^ (8 * a.length - e.k) := ⟨_, rfl⟩
  rw [← hv] at hlt ⊢
  have hvl : v < 256 ^ a.length := by omega
  -- the whole
  obtain ⟨P, hP⟩ : ∃ P : Pf, P = ⟨none, a.length, 0, a, k0⟩ := ⟨_, rfl⟩
  have inA : ∀ u, u < 256 ^ a.length → (inP a k0 (Lib.beBytes a.length u) = true ↔ fN (a, k0) ≤ u ∧ u < fN (a, k0) + 2 ^ (8 * a.length - k0)) := fun u hu => by
    have := in_num (p := P) (n := a.length) (v := u) (by rw [hP]) hu
    rw [hP] at this
    exact this
  have whole : ∀ (j : Nat) (p : Pf) (u : Nat), fs[j]? = some p → u < 256 ^ a.length → (fN p.is ≤ u ∧ u < fN p.is + 2 ^ (8 * a.length - p.k)) → fN (a, k0) ≤ u ∧ u < fN (a, k0) + 2 ^ (8 * a.length - k0) := fun j p u hj hu h1 => by
    have c := many_one hj ((in_num (hln p (List.mem_of_getElem? hj)).1 hu).2 h1)
    rw [hcount] at c
    cases hh : inP a k0 (Lib.beBytes a.length u)
    · rw [hh] at c; simp at c
    · exact (inA u hu).1 hh
  have w1 := whole i e (fN e.is) he (by omega) ⟨Nat.le_refl _, by omega⟩
  have w2 := whole (i + 1) f (fN f.is) hf hfl ⟨Nat.le_refl _, by omega⟩
  have hin : inP a k0 (Lib.beBytes a.length v) = true := (inA v hvl).2 (by omega)
  have hc := hcount (Lib.beBytes a.length v)
  rw [hin, if_pos rfl] at hc
  unfold manyIn at hc
  obtain ⟨p, hp, hpv⟩ := List.countP_pos_iff.1 (by rw [hc]; omega : 0 < (fs.map Pf.is).countP (fun p => inP p.1 p.2 (Lib.beBytes a.length v)))
  obtain ⟨g, hg, rfl⟩ := List.mem_map.1 hp
  obtain ⟨m, hm', hgm⟩ := List.mem_iff_getElem.1 hg
  have hm : fs[m]? = some g := by rw [← hgm]; exact List.getElem?_eq_getElem _
  obtain ⟨lg, vg⟩ := hln g hg
  have hgv := (in_num lg hvl).1 hpv
  have hgF : fN g.is = v := by
    rcases Nat.lt_or_ge (fN g.is) v with h1 | h1
    · have := one m i g e (v - 1) hm he (by omega) ⟨by omega, by omega⟩ ⟨by omega, by omega⟩
      subst this
      rw [hm] at he
      injection he with he
      subst he
      omega
    · omega
  rcases Nat.lt_or_ge i m with h1 | h1
  · have := ((ord_le vf vg (sort_get hs.2 hf hm (by omega))).2 (by simp only [Pf.is]; omega)).1
    omega
  · have := ((ord_le vg ve (sort_get hs.2 hm he (by omega))).2 (by simp only [Pf.is]; omega)).1
    omega
end Go.Proofs.YtckfgdohpmllmaaDoor
