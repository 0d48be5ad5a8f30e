/-
  The walk of laws.FnWalkCounted.
-/
import Derived.Test.YtocckokbdacdfaaDoorWalkPlain
import Derived.Test.YtocckokbdacdfaaDoorSteps
import Derived.Test.YtocckokbdacdfaaDoorRanks
namespace Go.Proofs.YtocckokbdacdfaaDoor
open Go Go.RowKit
def TrueW (w : World) (e : Ending) (w' : World) : Prop := e = .returned (.bool true) ∧ Below w.heap.size w w'
theorem walk_get {es : List En} {b : List UInt8} {m i : Nat} {e : En} (h : es.map (·.bs) = walkList nextAd (adOf b) m) (he : es[i]? = some e) (hi : i < m) : e.bs = onB b (i + 1) := by
  have h1 : (es.map (·.bs))[i]? = some e.bs := by rw [List.getElem?_map, he]; rfl
  rw [h] at h1
  unfold walkList at h1
  rw [List.getElem?_map, List.getElem?_range hi] at h1
  injection h1 with h1
  exact h1.symm.trans (bytes_on b (i + 1))
theorem on_len (b : List UInt8) (i : Nat) (h : onB b i ≠ []) : isLen b.length ∧ Lib.beNat b + i < 256 ^ b.length ∧ (onB b i).length = b.length ∧ Lib.beNat (onB b i) = Lib.beNat b + i := by
  unfold onB at *
  by_cases hc : isLen b.length ∧ Lib.beNat b + i < 256 ^ b.length
  · rw [if_pos hc] at h ⊢
    exact ⟨hc.1, hc.2, Lib.beBytes_length _ _, beNat_beBytes _ _ hc.2⟩
  · rw [if_neg hc] at h
    exact absurd rfl h
theorem cmp_on (b : List UInt8) (i j : Nat) (hi : onB b i ≠ []) (hj : onB b j ≠ []) : cmpOf (onB b i) (onB b j) = cmpI i j := by
  obtain ⟨h1, h2, h3, h4⟩ := on_len b i hi
  obtain ⟨_, _, h5, h6⟩ := on_len b j hj
  rw [cmp_key, key_len (by rw [h3]; exact h1), key_len (by rw [h5]; exact h1), h3, h4, h5, h6]
  generalize (if b.length = 4 then 32 * 340282366920938463463374607431768211456 + 281470681743360 else 128 * 340282366920938463463374607431768211456) = x
  unfold cmpI
  repeat' split
  all_goals first | rfl | omega
set_option maxHeartbeats 8000000 in
theorem counted_walk (A : Option Addr) (n c : Nat) (b : List UInt8) (N K : Int) (z : ZP) (w : World) (hz : Zs w z) (hr : RB w A n b) (hA : A = none → n = 0 ∧ c = 0) (hn : n ≤ 140737488355328) :
    Calls Tryd.prog 8 #[.slice A n c, .int .i64 N, .int .i64 K] w (TrueW w) := by
  have hK : bits .and .i64 K 1023 = (stepsN K : Int) := by rw [i64_and1023]; unfold stepsN; omega
  have hK2 := stepsN_lt K
  have hM := stepsN_lt N
  have hst := steps_c N
  generalize stepsN K = kk at *
  generalize stepsN N = M at *
  have HS := Lib.hid hst
  clear hst
  go_enter Tryd.func8, Tryd.ntmps8
  go_wp2_with fail
  refine (plain_c A n c b w hr hA hn).mono ?_
  rintro e w1 ⟨A1, c1, rfl, hown1, hb1⟩
  have hr1 := RB.of_own hown1
  clear hown1
  go_wp2_with fail
  refine (HS.out w1).mono ?_
  rintro e w2 ⟨rfl, hb2⟩
  go_wp2_with fail
  refine (walkOn_c A1 n c1 b M z w2 ((hz.keep hb1).keep hb2) (hr1.keep hb2) (by omega)).mono ?_
  rintro e w3 ⟨A3, c3, es, rfl, hown3, hlen, hmap, hin, hb3⟩
  have hra := RA.of_ownT hown3 hlen hin
  have hb12 := hb1.trans (hb2.mono hb1.size)
  have hb13 := hb12.trans (hb3.mono hb12.size)
  have HM := Lib.hid hmap
  clear hown3 hlen hmap hin hb1 hb2 hb3 hb12 hr1
  go_wp2_with fail
  refine (HS.out w3).mono ?_
  rintro e w4 ⟨rfl, hb4⟩
  have hra4 := hra.keep hb4
  have hb14 := hb13.trans (hb4.mono hb13.size)
  have hz4 := hz.keep hb14
  clear hra hb4 hb13
  by_cases hM0 : M = 0
  · subst hM0
    go_wp2
    go_returns
    exact ⟨rfl, hb14⟩
  have e0 : ((M : Int) == 0) = false := beq_eq_false_iff_ne.2 (by omega)
  have e1 : (M == 0) = false := by simpa using hM0
  obtain ⟨g, o, hA3, -⟩ := hra4.2.1 (by rw [enCells_len, hra4.1]; omega)
  subst hA3
  have hat : kk % M < M := Nat.mod_lt _ (by omega)
  obtain ⟨g', o', ea, hA', hg, hea, ca0, ca1, hba⟩ := hra4.at hat
  injection hA' with hA'
  injection hA' with hA1 hA2
  subst hA1 hA2
  have HEA := Lib.hid hea
  clear hea
  have hla : ea.bs.length = ea.n := hba.1
  by_cases hn0 : ea.n = 0
  · have e2 : (ea.n == 0) = true := by simpa using hn0
    have e3 : ((ea.n : Int) == 0) = true := by simp [hn0]
    go_wp2_with fail
    go_returns
    exact ⟨rfl, hb14⟩
  have e2 : (ea.n == 0) = false := by simpa using hn0
  have e3 : ((ea.n : Int) == 0) = false := by simp; omega
  go_wp2_with fail
  refine (cmpEach_c ea.a ea.n ea.c ea.bs _ M c3 es z _ hz4 hba hra4 (by omega)).mono ?_
  rintro e1 w5 ⟨A5, c5, rfl, hsg, hb45⟩
  obtain ⟨g2, hA2, hg2, hsc⟩ := own_some hsg (by omega)
  subst hA2
  have HS2 := Lib.hid hsc
  have hra5 := hra4.keep hb45
  have hb15 := hb14.trans (hb45.mono hb14.size)
  clear hsc hsg hba hra4 ca0 ca1
  go_wp2_with fail
  go_loopw [50] (fun i wr => ∃ i' : Nat, i' ≤ M ∧ i = .int .i64 i' ∧ Below w5.heap.size w5 wr) (fun i _ => M - (intOf i).toNat)
  case atStart => exact ⟨0, Nat.zero_le _, rfl, Below.refl _ _⟩
  case round =>
    obtain ⟨j, hj, rfl, hbj⟩ := hrel
    by_cases hjk : j < M
    · obtain ⟨g', o', ej, hA, hg', hej, hc0, hc1, hbb⟩ := (hra5.keep hbj).at hjk
      injection hA with hA
      injection hA with hA1 hA2
      subst hA1 hA2
      have hcell := (hbj.cell (p := ⟨g2, j, none⟩) hg2).trans (HS2.out j _ (signs_get ea.bs es j ej hej))
      have hlj : ej.bs.length = ej.n := hbb.1
      by_cases hj0 : ej.n = 0
      · have e4 : (ej.n == 0) = true := by simpa using hj0
        have e5 : ((ej.n : Int) == 0) = true := by simp [hj0]
        clear hej
        go_wp2_with fail
        go_roundw
        case rel => exact ⟨j + 1, by omega, by go_num, hbj⟩
        case measure => simp [intOf]; omega
      · have e4 : (ej.n == 0) = false := by simpa using hj0
        have e5 : ((ej.n : Int) == 0) = false := by simp; omega
        have ha1 := walk_get HM.out HEA.out hat
        have ha2 := walk_get HM.out hej hjk
        have hc := cmp_on b (kk % M + 1) (j + 1) (by rw [← ha1]; intro h; rw [h] at hla; simp at hla; omega) (by rw [← ha2]; intro h; rw [h] at hlj; simp at hlj; omega)
        rw [ha1, ha2, hc] at hcell
        clear hej ha1 ha2 hc
        have ecast : ((kk : Int) % (M : Int)) = ((kk % M : Nat) : Int) := by omega
        rw [ecast]
        generalize kk % M = t at *
        clear ecast
        unfold cmpI at hcell
        rcases Nat.lt_trichotomy j t with h | h | h
        · rw [if_neg (by omega), if_pos (by omega)] at hcell
          have d1 : decide (j < t) = true := by simpa using h
          have d2 : (j == t) = false := by simp; omega
          have d3 : ((j : Int) == t) = false := by simp; omega
          have d4 : decide (t < j) = false := by simp; omega
          go_wp2
          go_roundw
          case rel => exact ⟨j + 1, by omega, by go_num, hbj⟩
          case measure => simp [intOf]; omega
        · subst h
          rw [if_neg (by omega), if_neg (by omega)] at hcell
          go_wp2
          go_roundw
          case rel => exact ⟨j + 1, by omega, by go_num, hbj⟩
          case measure => simp [intOf]; omega
        · rw [if_pos (by omega)] at hcell
          have d1 : decide (j < t) = false := by simp; omega
          have d2 : (j == t) = false := by simp; omega
          have d3 : ((j : Int) == t) = false := by simp; omega
          have d4 : decide (t < j) = true := by simpa using h
          go_wp2
          go_roundw
          case rel => exact ⟨j + 1, by omega, by go_num, hbj⟩
          case measure => simp [intOf]; omega
    · have hjk' : j = M := by omega
      go_wp2
      go_returns
      exact ⟨rfl, hb15.trans (hbj.mono hb15.size)⟩
end Go.Proofs.YtocckokbdacdfaaDoor
