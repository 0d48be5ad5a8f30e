/-
  The walk of laws.FnWalkAscends.
-/
import Derived.Test.YtocckokbdacdfaaDoorCounted
namespace Go.Proofs.YtocckokbdacdfaaDoor
open Go Go.RowKit
theorem on_zero {b : List UInt8} (h : isLen b.length) : onB b 0 = b := by
  unfold onB
  rw [if_pos ⟨h, by have := beNat_lt b; omega⟩, Nat.add_zero, beBytes_beNat]
set_option maxHeartbeats 8000000 in
theorem ascends_walk (A : Option Addr) (n c : Nat) (b : List UInt8) (N : Int) (z : ZP) (w : World) (hz : Zs w z) (hr : RB w A n b) (hA : A = none → n = 0 ∧ c = 0) (hn : n ≤ 140737488355328) :
    Calls Tryd.prog 7 #[.slice A n c, .int .i64 N] w (TrueW w) := by
  have hM := stepsN_lt N
  have hst := steps_c N
  generalize stepsN N = M at *
  have HS := Lib.hid hst
  clear hst
  go_enter Tryd.func7, Tryd.ntmps7
  go_wp2_with fail
  refine (isAddress_c A n c w).mono ?_
  rintro e w0 ⟨rfl, hb0⟩
  have hbl := hr.1
  by_cases hl : (n == 4 || n == 16) = true
  · rw [hl]
    have hlen : isLen b.length := by rw [hbl]; simpa [isLen] using hl
    go_wp2_with fail
    refine (plain_c A n c b w0 (hr.keep hb0) hA hn).mono ?_
    rintro e w1 ⟨A1, c1, rfl, hown1, hb1⟩
    have hr1 := RB.of_own hown1
    clear hown1
    go_wp2_with fail
    refine (HS.out w1).mono ?_
    rintro e w2 ⟨rfl, hb2⟩
    go_wp2_with fail
    refine (walkOn_c A1 n c1 b M z w2 (((hz.keep hb0).keep hb1).keep hb2) (hr1.keep hb2) (by omega)).mono ?_
    rintro e w3 ⟨A3, c3, es, rfl, hown3, hlen3, hmap, hin, hb3⟩
    have hra := RA.of_ownT hown3 hlen3 hin
    have hb01 := hb0.trans (hb1.mono hb0.size)
    have hb12 := hb01.trans (hb2.mono hb01.size)
    have hb13 := hb12.trans (hb3.mono hb12.size)
    have HM := Lib.hid hmap
    clear hown3 hlen3 hmap hin hb0 hb1 hb2 hb3 hb12 hr1 hb01
    go_wp2_with fail
    refine (HS.out w3).mono ?_
    rintro e w4 ⟨rfl, hb4⟩
    have hra4 := hra.keep hb4
    have hb14 := hb13.trans (hb4.mono hb13.size)
    clear hra hb4 hb13
    go_wp2_with fail
    refine (plain_c A n c b w4 (hr.keep hb14) hA hn).mono ?_
    rintro e w5 ⟨A5, c5, rfl, hown5, hb5⟩
    have hr5 := RB.of_own hown5
    have hb15 := hb14.trans (hb5.mono hb14.size)
    have hra5 := hra4.keep hb5
    have hz5 := hz.keep hb15
    clear hown5 hb5 hra4 hb14
    go_wp2_with fail
    go_loopw [26] (fun i wr => ∃ (k : Nat) (el : En), k ≤ M ∧ i = .int .i64 k ∧ RB w5 el.a el.n el.bs ∧ el.bs = onB b k ∧ Blk wr w5.heap.size 28 #[.slice el.a el.n el.c, .string ⟨#[]⟩] ∧ Below w5.heap.size w5 wr) (fun i _ => M - (intOf i).toNat)
    case atStart => exact ⟨0, ⟨A5, n, c5, b⟩, Nat.zero_le _, rfl, hr5, (on_zero hlen).symm, heap_alloc_new _ _, by go_grown⟩
    case round =>
      obtain ⟨k, el, hk, rfl, hrl, hel, hblk, hbk⟩ := hrel
      have HEL := Lib.hid hel
      clear hel
      by_cases hkM : k < M
      · obtain ⟨g', o', e, hA, hg, hek, hc0, hc1, hb⟩ := (hra5.keep hbk).at hkM
        subst hA
        have HE := Lib.hid hek
        have c0 := hblk.cell
        have hltb := hblk.lt
        have f0 := hblk.free
        have HK := Lib.hid hblk
        clear hek hblk
        have h0 := c0 0
        have h1 := c0 1
        simp at h0 h1
        clear c0
        have hel1 : el.bs.length = el.n := hrl.1
        have hee1 : e.bs.length = e.n := hb.1
        have hbe : e.bs = onB b (k + 1) := walk_get HM.out HE.out hkM
        have hre : RB w5 e.a e.n e.bs := hra5.2.2 e (List.mem_of_getElem? HE.out)
        by_cases he0 : e.n = 0
        · have e1 : (e.n == 0) = true := by simpa using he0
          have e2 : ((e.n : Int) == 0) = true := by simp [he0]
          have e3 : ((e.n : Int) != 0) = false := by simp [he0]
          have e4 : (e.n != 0) = false := by simp [he0]
          have HBE := Lib.hid hbe
          clear hbe he0
          obtain ⟨q, d1⟩ : ∃ q, (el.n == 0) = q := ⟨_, rfl⟩
          have d2 : ((el.n : Int) == 0) = q := by rw [← d1, Bool.eq_iff_iff]; simp
          have kk := ((HK.out.set 0 (.slice e.a e.n e.c)).set 1 (.string ⟨#[]⟩)).below ((Below.refl _ _).alloc (Nat.le_refl _) (.cells #[.slice e.a e.n e.c, .string ⟨#[]⟩] 28))
          have bb : Below w5.heap.size w5 _ := ((hbk.setCell (p := ⟨w5.heap.size, 0, none⟩) (Nat.le_refl _) (.slice e.a e.n e.c)).setCell (p := ⟨w5.heap.size, 1, none⟩) (Nat.le_refl _) (.string ⟨#[]⟩)).alloc (by simp only [World.size_setCell]; exact hbk.size) (.cells #[.slice e.a e.n e.c, .string ⟨#[]⟩] 28)
          have HKK := Lib.hid kk
          have HBB := Lib.hid bb
          clear kk bb
          cases q
          all_goals
            go_wp2
            go_roundw
            case rel => exact ⟨k + 1, e, by omega, by go_num, hre, HBE.out, HKK.out, HBB.out⟩
            case measure => simp [intOf]; omega
        · have hne : onB b (k + 1) ≠ [] := by rw [← hbe]; intro h; rw [h] at hee1; simp at hee1; omega
          obtain ⟨p1, p2, p3, p4⟩ := on_len b (k + 1) hne
          have hne0 : onB b k ≠ [] := by
            unfold onB
            rw [if_pos ⟨p1, by omega⟩]
            intro h
            have := congrArg List.length h
            rw [Lib.beBytes_length] at this
            simp at this
            rw [this] at p1
            simp [isLen] at p1
          obtain ⟨-, -, p5, -⟩ := on_len b k hne0
          have hcc := cmp_on b k (k + 1) hne0 hne
          rw [← hbe, ← HEL.out] at hcc
          rw [← hbe] at p3
          rw [← HEL.out] at p5
          have hlen2 : el.n = e.n := by omega
          have e1 : (e.n == 0) = false := by simpa using he0
          have e2 : ((e.n : Int) == 0) = false := by simp; omega
          have hc1 : cmpOf el.bs e.bs = -1 := by rw [hcc]; unfold cmpI; rw [if_pos (by omega)]
          have HBE := Lib.hid hbe
          have HCC := Lib.hid hc1
          have d1 : (el.n == 0) = false := by simp; omega
          have d2 : ((el.n : Int) == 0) = false := by simp; omega
          have d3 : ((e.n : Int) != el.n) = false := by simp; omega
          have d4 : (e.n != el.n) = false := by simp; omega
          clear hbe hc1 hcc p1 p2 p3 p4 p5 hne hne0 he0 hlen2
          have ba : Below wr.heap.size wr (wr.alloc (.cells #[.slice e.a e.n e.c, .string ⟨#[]⟩] 28)) := (Below.refl _ _).alloc (Nat.le_refl _) _
          have hnew : ∀ i, (wr.alloc (.cells #[.slice e.a e.n e.c, .string ⟨#[]⟩] 28)).cell? ⟨wr.heap.size, i, none⟩ = #[.slice e.a e.n e.c, .string ⟨#[]⟩][i]? := fun i => World.cell?_alloc_new _ _ _ _
          go_wp2_with fail
          refine (weighed_c el.a e.a el.n e.n el.c e.c el.bs e.bs z _ ((hz5.keep hbk).keep ba) ((hrl.keep hbk).keep ba) (hb.keep ba)).mono ?_
          rintro e' w6 ⟨rfl, hb6⟩
          rw [HCC.out]
          have hn0 := (hb6.cell (p := ⟨wr.heap.size, 0, none⟩) (by simp)).trans (hnew 0)
          have hn1 := (hb6.cell (p := ⟨wr.heap.size, 1, none⟩) (by simp)).trans (hnew 1)
          simp at hn0 hn1
          have ba6 := ba.trans (hb6.mono ba.size)
          have k6 := HK.out.below ba6
          have b6 := hbk.trans (ba6.mono hbk.size)
          have f6 := k6.free
          have l6 := k6.lt
          have HKK := Lib.hid ((k6.set 0 (.slice e.a e.n e.c)).set 1 (.string ⟨#[]⟩))
          have HBB := Lib.hid ((b6.setCell (p := ⟨w5.heap.size, 0, none⟩) (Nat.le_refl _) (.slice e.a e.n e.c)).setCell (p := ⟨w5.heap.size, 1, none⟩) (Nat.le_refl _) (.string ⟨#[]⟩))
          have g0 := k6.cell 0
          have g1 := k6.cell 1
          simp at g0 g1
          clear hnew h0 h1 f0 k6 HK hb6 hb hc0
          go_wp2
          go_roundw
          case rel => exact ⟨k + 1, e, by omega, by go_num, hre, HBE.out, HKK.out, HBB.out⟩
          case measure => simp [intOf]; omega
      · have hkM' : k = M := by omega
        go_wp2
        go_returns
        exact ⟨rfl, hb15.trans (hbk.mono hb15.size)⟩
  · rw [show (n == 4 || n == 16) = false by simpa using hl]
    go_wp2_with fail
    go_returns
    exact ⟨rfl, hb0⟩
end Go.Proofs.YtocckokbdacdfaaDoor
