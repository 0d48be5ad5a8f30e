/-
  A range of addresses, covered by prefixes. Plain.
-/
import Derived.Test.YtckfgdohpmllmaaDoorNumL
namespace Go.Proofs.YtckfgdohpmllmaaDoor
open Go Go.RowKit
/-- What the list covers so far: from F up to v, v not counted. -/
structure CovInv (n F T v : Nat) (es : List Pf) : Prop where
  ln : ∀ y ∈ es, y.bs.length = n ∧ y.n = n ∧ y.k ≤ 8 * n
  sum : ∀ x : List UInt8, x.length = n → manyIn (es.map Pf.is) x = if F ≤ Lib.beNat x ∧ Lib.beNat x < v then 1 else 0
  sorted : (es.map Pf.is).Pairwise (fun a b => pkey a ≤ pkey b)
  low : ∀ y ∈ es, fN y.is < v
  cnt : (∃ s, es.length ≤ s ∧ s ≤ 8 * n ∧ 2 ^ s ∣ v) ∨ (∃ s, 2 ^ s ∣ v ∧ T + 1 - v < 2 ^ s ∧ es.length + s ≤ 16 * n)
theorem CovInv.start (n F T : Nat) : CovInv n F T F [] :=
  ⟨fun y hy => by simp at hy, fun x _ => by rw [if_neg (by omega)]; rfl, List.Pairwise.nil, fun y hy => by simp at hy, .inl ⟨0, by simp, by omega, by simp⟩⟩
/-- The block at v with b bits is the greatest one. -/
structure Great (n T v b : Nat) : Prop where
  le : b ≤ 8 * n
  al : 2 ^ (8 * n - b) ∣ v
  en : v + 2 ^ (8 * n - b) ≤ T + 1
  mx : b = 0 ∨ ¬ 2 ^ (8 * n - b + 1) ∣ v ∨ ¬ v + 2 ^ (8 * n - b + 1) ≤ T + 1
theorem pow_dvd {a b : Nat} (h : a ≤ b) : 2 ^ a ∣ 2 ^ b := Nat.pow_dvd_pow 2 h
theorem pkey_of_lt {a b : List UInt8 × Nat} (ha : Vp a) (hb : Vp b) (hl : a.1.length = b.1.length) (h : fN a < fN b) : pkey a ≤ pkey b := by
  rcases Nat.le_total (pkey a) (pkey b) with h1 | h1
  · exact h1
  · have := ((ord_le hb ha h1).2 hl.symm).1
    omega
theorem CovInv.len {n F T v : Nat} {es : List Pf} (h : CovInv n F T v es) (hn : 0 < n) (hv : v ≤ T) : es.length + 1 ≤ 16 * n := by
  rcases h.cnt with ⟨s, h1, h2, -⟩ | ⟨s, -, h2, h3⟩
  · omega
  · have : 0 < s := by
      rcases Nat.eq_zero_or_pos s with h0 | h0
      · subst h0; simp at h2; omega
      · exact h0
    omega
theorem CovInv.step {n F T v b : Nat} {es : List Pf} (h : CovInv n F T v es) (hn : isLen n) (hF : F ≤ v) (hv : v ≤ T) (hT : T < 2 ^ (8 * n)) (hg : Great n T v b) (e : Pf) (hb : e.bs.length = n) (hen : e.n = n) (hk : e.k = b) (hnum : Lib.beNat e.bs = v) :
    CovInv n F T (v + 2 ^ (8 * n - b)) (es ++ [e]) := by
  have hp := Nat.pow_pos (n := 8 * n - b) (show 0 < 2 by omega)
  have hvp : ∀ y : Pf, y.bs.length = n → y.k ≤ 8 * n → Vp y.is := fun y h1 h2 => ⟨by show isLen y.bs.length; rw [h1]; exact hn, by show y.k ≤ 8 * y.bs.length; rw [h1]; exact h2⟩
  have hfe : fN e.is = v := by
    rw [fN_eq]
    show Lib.beNat e.bs / 2 ^ (8 * e.bs.length - e.k) * 2 ^ (8 * e.bs.length - e.k) = v
    rw [hnum, hb, hk]
    exact Nat.div_mul_cancel hg.al
  refine ⟨fun y hy => ?_, fun x hx => ?_, ?_, fun y hy => ?_, ?_⟩
  · rcases List.mem_append.1 hy with hy | hy
    · exact h.ln y hy
    · simp at hy; subst hy; exact ⟨hb, hen, by rw [hk]; exact hg.le⟩
  · rw [List.map_append, manyIn_append, h.sum x hx]
    show _ + manyIn [(e.bs, e.k)] x = _
    rw [manyIn_one, hk]
    have hx2 := beBytes_beNat x
    have hx3 := beNat_lt x
    rw [hx] at hx2 hx3
    have hi := in_num (p := e) hb hx3
    rw [hx2, hfe, hk] at hi
    cases hin : inP e.bs b x
    · rw [hin] at hi
      have hi' : ¬ (v ≤ Lib.beNat x ∧ Lib.beNat x < v + 2 ^ (8 * n - b)) := fun hh => by have := hi.2 hh; cases this
      simp only [Bool.false_eq_true, if_false, Nat.add_zero]
      by_cases h1 : F ≤ Lib.beNat x ∧ Lib.beNat x < v
      · rw [if_pos h1, if_pos (by omega)]
      · rw [if_neg h1, if_neg (by omega)]
    · have hi' := hi.1 hin
      rw [if_neg (by omega), if_pos rfl, if_pos (by omega)]
  · rw [List.map_append, List.pairwise_append]
    refine ⟨h.sorted, List.pairwise_singleton _ _, fun a ha c hc => ?_⟩
    obtain ⟨y, hy, rfl⟩ := List.mem_map.1 ha
    simp at hc
    subst hc
    obtain ⟨l1, -, l3⟩ := h.ln y hy
    exact pkey_of_lt (hvp y l1 l3) (hvp e hb (by rw [hk]; exact hg.le)) (by show y.bs.length = e.bs.length; rw [l1, hb]) (by rw [hfe]; exact h.low y hy)
  · rcases List.mem_append.1 hy with hy | hy
    · have := h.low y hy; omega
    · simp at hy; subst hy; omega
  · rw [List.length_append]
    simp only [List.length_cons, List.length_nil]
    have hble := hg.le
    have hsucc : 2 ^ (8 * n - b + 1) = 2 * 2 ^ (8 * n - b) := by rw [Nat.pow_succ]; omega
    have hdv : 2 ^ (8 * n - b) ∣ v + 2 ^ (8 * n - b) := Nat.dvd_add hg.al (Nat.dvd_refl _)
    have hen2 := hg.en
    have hn0 : 0 < n := by unfold isLen at hn; omega
    rcases Nat.eq_zero_or_pos b with hb0 | hb0
    · subst hb0
      have hl := h.len hn0 hv
      refine .inr ⟨0, by simp, ?_, by omega⟩
      simp only [Nat.sub_zero, Nat.pow_zero] at *
      omega
    · rcases h.cnt with ⟨s0, c1, c2, c3⟩ | ⟨s0, c1, c2, c3⟩
      · rcases hg.mx with hm | hm | hm
        · omega
        · have hs0 : s0 ≤ 8 * n - b := by
            rcases Nat.lt_or_ge (8 * n - b) s0 with hlt | hge
            · exact absurd (Nat.dvd_trans (pow_dvd hlt) c3) hm
            · exact hge
          refine .inl ⟨8 * n - b + 1, by omega, by omega, ?_⟩
          obtain ⟨q, hq⟩ := hg.al
          have hodd : q % 2 = 1 := by
            rcases Nat.mod_two_eq_zero_or_one q with h0 | h0
            · exfalso
              apply hm
              rw [hq, hsucc]
              obtain ⟨r, hr⟩ : ∃ r, q = 2 * r := ⟨q / 2, by omega⟩
              exact ⟨r, by rw [hr]; rw [Nat.mul_comm 2 (2 ^ (8 * n - b)), Nat.mul_assoc]⟩
            · exact h0
          obtain ⟨r, hr⟩ : ∃ r, q + 1 = 2 * r := ⟨(q + 1) / 2, by omega⟩
          refine ⟨r, ?_⟩
          rw [hq, hsucc, show 2 ^ (8 * n - b) * q + 2 ^ (8 * n - b) = 2 ^ (8 * n - b) * (q + 1) by rw [Nat.mul_add, Nat.mul_one], hr, Nat.mul_comm 2 (2 ^ (8 * n - b)), Nat.mul_assoc]
        · exact .inr ⟨8 * n - b, hdv, by omega, by omega⟩
      · have hlt : 8 * n - b < s0 := by
          rcases Nat.lt_or_ge (8 * n - b) s0 with hlt | hge
          · exact hlt
          · have := Nat.pow_le_pow_right (show 0 < 2 by omega) hge
            omega
        rcases hg.mx with hm | hm | hm
        · omega
        · exact absurd (Nat.dvd_trans (pow_dvd hlt) c1) hm
        · exact .inr ⟨8 * n - b, hdv, by omega, by omega⟩
end Go.Proofs.YtckfgdohpmllmaaDoor
