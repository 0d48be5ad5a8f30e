/-
  The walk of laws.FnWalkThereAndBack.
-/
import Derived.Test.YtocckokbdacdfaaDoorAscends
import Derived.Test.YtocckokbdacdfaaDoorRegion3
namespace Go.Proofs.YtocckokbdacdfaaDoor
open Go Go.RowKit
theorem walkB_get {es : List En} {b : List UInt8} {m i : Nat} {e : En} (h : es.map (·.bs) = walkList prevAd (adOf b) m) (he : es[i]? = some e) (hi : i < m) : e.bs = backB b (i + 1) := by
  have h1 : (es.map (·.bs))[i]? = some e.bs := by rw [List.getElem?_map, he]; rfl
  rw [h] at h1
  unfold walkList at h1
  rw [List.getElem?_map, List.getElem?_range hi] at h1
  injection h1 with h1
  exact h1.symm.trans (bytes_back b (i + 1))
theorem back_on {b : List UInt8} {m j : Nat} (h : onB b m ≠ []) (hj : j ≤ m) : backB (onB b m) j = onB b (m - j) := by
  obtain ⟨h1, h2, h3, h4⟩ := on_len b m h
  unfold backB
  rw [h3, h4, if_pos ⟨h1, by omega⟩]
  unfold onB
  rw [if_pos ⟨h1, by omega⟩]
  congr 1
  omega
set_option maxHeartbeats 8000000 in
theorem thereBack_walk (A : Option Addr) (n c : Nat) (b : List UInt8) (N : Int) (z : ZP) (w : World) (hz : Zs w z) (hr : RB w A n b) (hA : A = none → n = 0 ∧ c = 0) (hn : n ≤ 140737488355328) :
    Calls Tryd.prog 6 #[.slice A n c, .int .i64 N] w (TrueW w) := by
  have hM := stepsN_lt N
  have hst := steps_c N
  generalize stepsN N = M at *
  have HS := Lib.hid hst
  clear hst
  have hbl := hr.1
  go_enter Tryd.func6, Tryd.ntmps6
  go_wp2_with fail
  refine (isAddress_c A n c w).mono ?_
  rintro e w0 ⟨rfl, hb0⟩
  by_cases hl : (n == 4 || n == 16) = true
  · rw [hl]
    have hlen : isLen b.length := by rw [hbl]; simpa [isLen] using hl
    go_wp2_with fail
    refine (HS.out w0).mono ?_
    rintro e w1 ⟨rfl, hb1'⟩
    have hb1 := hb0.trans (hb1'.mono hb0.size)
    clear hb1' hb0
    by_cases hM0 : M = 0
    · subst hM0
      go_wp2_with fail
      go_returns
      exact ⟨rfl, hb1⟩
    have m0 : ((M : Int) == 0) = false := beq_eq_false_iff_ne.2 (by omega)
    have m1 : (M == 0) = false := by simpa using hM0
    go_wp2_with fail
    refine (plain_c A n c b w1 (hr.keep hb1) hA hn).mono ?_
    rintro e w2 ⟨A2, c2, rfl, hown2, hb2'⟩
    have hr2 := RB.of_own hown2
    have hb2 := hb1.trans (hb2'.mono hb1.size)
    clear hown2 hb2' hb1
    go_wp2_with fail
    refine (HS.out w2).mono ?_
    rintro e w3 ⟨rfl, hb3'⟩
    have hr3 := hr2.keep hb3'
    have hb3 := hb2.trans (hb3'.mono hb2.size)
    clear hb3' hb2 hr2
    go_wp2_with fail
    refine (walkOn_c A2 n c2 b M z w3 (hz.keep hb3) hr3 (by omega)).mono ?_
    rintro e w4 ⟨A4, c4, es, rfl, hown4, hlen4, hmap, hin, hb4'⟩
    have hra4 := RA.of_ownT hown4 hlen4 hin
    have hb4 := hb3.trans (hb4'.mono hb3.size)
    have HM := Lib.hid hmap
    clear hown4 hlen4 hmap hin hb4' hb3 hr3
    go_wp2_with fail
    refine (HS.out w4).mono ?_
    rintro e w5 ⟨rfl, hb5'⟩
    have hra5 := hra4.keep hb5'
    have hb5 := hb4.trans (hb5'.mono hb4.size)
    clear hra4 hb5' hb4
    obtain ⟨g, o, ee, hA4, hg, hee, hc0, hc1, hbe⟩ := hra5.at (i := M - 1) (by omega)
    subst hA4
    have hbn : ee.bs = onB b (M - 1 + 1) := walk_get HM.out hee (by omega)
    rw [show M - 1 + 1 = M by omega] at hbn
    have HBN := Lib.hid hbn
    have hlee : ee.bs.length = ee.n := hbe.1
    clear hee hbn
    obtain ⟨m, hm⟩ : ∃ m, M = m + 1 := ⟨M - 1, by omega⟩
    subst hm
    simp only [Nat.add_sub_cancel] at hc0 hc1
    by_cases he0 : ee.n = 0
    · have e1 : (ee.n == 0) = true := by simpa using he0
      have e2 : ((ee.n : Int) == 0) = true := by simp [he0]
      go_wp2_with fail
      go_returns
      exact ⟨rfl, hb5.alloc hb5.size _⟩
    · have e1 : (ee.n == 0) = false := by simpa using he0
      have e2 : ((ee.n : Int) == 0) = false := by simp; omega
      have hnn : onB b (m + 1) ≠ [] := by rw [← HBN.out]; intro h; rw [h] at hlee; simp at hlee; omega
      go_wp2_with fail
      refine region_tail (Boxes w5 [#[.slice ee.a ee.n ee.c, .string ⟨#[]⟩]]) 3 (by kernel_rfl) (by kernel_rfl) ((boxes1 _ _).drew) ?_
      simp only [List.take_succ_cons, List.take_zero, List.drop_succ_cons, List.drop_zero]
      repeat (first | (refine quiet_skip rfl ?_; (simp only [Act.put, List.setIfInBounds_toArray, List.set_cons_zero, List.set_cons_succ])) | (refine quiet_run ?_ rfl (fun w1 hw1 => ?_) ?_; rotate_left; (have r0 := hw1.b0; go_simp; try (with_reducible rfl)); (simp only [Act.put, List.setIfInBounds_toArray, List.set_cons_zero, List.set_cons_succ])) | (refine quiet_call ?_ ?_ ?_ rfl (fun w1 hw1 => ?_) (fun w1 hw1 => ?_) ?_; rotate_left 3; (have r0 := hw1.b0; go_simp; refine ⟨?_, ?_⟩ <;> with_reducible rfl); (first | (go_at_call 13; (with_reducible refine (HS.out w1).mono ?_); rintro e w2 ⟨rfl, hb⟩; refine ⟨?_, hw1.keep hb⟩; with_reducible rfl) | (go_at_call 13; (refine (HS.out w1).mono ?_); rintro e w2 ⟨rfl, hb⟩; refine ⟨?_, hw1.keep hb⟩; with_reducible rfl)); (simp only [Act.put, List.setIfInBounds_toArray, List.set_cons_zero, List.set_cons_succ])))
      refine wpQuiet_nil ?_
      intro w6 hw6
      have hb6 := hb5.trans (hw6.below.mono hb5.size)
      go_wp2_with fail
      refine (walkBack_c ee.a ee.n ee.c ee.bs (m + 1) z w6 (hz.keep hb6) (hbe.keep hw6.below) (by omega)).mono ?_
      rintro e w7 ⟨A7, c7, es7, rfl, hown7, hlen7, hmap7, hin7, hb7'⟩
      have hra7 := RA.of_ownT hown7 hlen7 hin7
      have hb7 := hb6.trans (hb7'.mono hb6.size)
      have hra57 := hra5.keep (hw6.below.trans (hb7'.mono hw6.below.size))
      have HM7 := Lib.hid hmap7
      clear hown7 hlen7 hmap7 hin7 hb7' hra5 hw6 hb6 hb5 hbe hc0 hc1 hlee
      obtain ⟨g7, o7, ef, hA7, hg7, hef, hd0, hd1, hbf⟩ := hra7.at (i := m) (by omega)
      subst hA7
      have hbfn : ef.bs = backB ee.bs (m + 1) := walkB_get HM7.out hef (by omega)
      rw [HBN.out, back_on hnn (Nat.le_refl _), Nat.sub_self, on_zero hlen] at hbfn
      have HBF := Lib.hid hbfn
      clear hbfn hef
      go_wp2_with fail
      have hdr : Below w7.heap.size w7 w7.drew := ⟨rfl, rfl, rfl, Nat.le_refl _, fun _ _ => rfl⟩
      have hwrap : IntKind.i64.wrap (m : Int) = m := by rw [IntKind.wrap_i64]; omega
      have hidx : (0 : Int) ≤ m ∧ (m : Int) < (m : Int) + 1 := by omega
      refine region_pick (Below w7.heap.size w7) [(0, false), (1, false), (2, false), (3, false), (4, false), (5, false), (6, false), (7, false), (8, false), (9, false), (10, false), (11, false), (12, false), (13, true)] 14 (by kernel_rfl) (by kernel_rfl) (fun w w' h hb => h.trans (hb.mono h.size)) (hdr) ?_
      simp only [pickOps, List.getElem?_cons_zero, List.getElem?_cons_succ]
      repeat (first | (refine t_skip rfl ?_; (simp only [Act.put, List.setIfInBounds_toArray, List.set_cons_zero, List.set_cons_succ])) | (refine t_run ?_ rfl (fun w1 hw1 => ?_) ?_; rotate_left; (have r0 := hwrap; have r1 := hidx; have r2 := (hw1.cell (p := ⟨g7, o7 + m * 2, none⟩) hg7).trans hd0; have r3 := (hw1.cell (p := ⟨g7, o7 + m * 2 + 1, none⟩) hg7).trans hd1; go_simp; try (with_reducible rfl)); (simp only [Act.put, List.setIfInBounds_toArray, List.set_cons_zero, List.set_cons_succ])))
      refine t_fresh ?_ ?_ (fun v w' => ∃ A8 c8, v = .agg #[.slice A8 n c8, .string ⟨#[]⟩] ∧ RB w' A8 n b) (by rfl) (fun w1 hw1 => ?_) (fun v w w' ⟨A8, c8, h1, h2⟩ hb => ⟨A8, c8, h1, h2.keep hb⟩) (fun w1 hw1 => ?_) ?_
      rotate_left 2
      (go_simp; refine ⟨?_, ?_⟩ <;> with_reducible rfl)
      (go_at_call 15; (with_reducible refine (plain_c A n c b w1 ((hr.keep hb7).keep hw1) hA hn).mono ?_); rintro e w2 ⟨A8, c8, rfl, hown8, hb8⟩; exact ⟨_, rfl, ⟨A8, c8, rfl, RB.of_own hown8⟩, hb8⟩)
      rintro v8 ⟨-, -, A8, c8, rfl, -⟩
      (simp only [Act.put, List.setIfInBounds_toArray, List.set_cons_zero, List.set_cons_succ])
      intro w8 ⟨hb8, A9, c9, he9, hr9⟩
      simp only [List.drop_succ_cons, List.drop_zero]
      injection he9 with he9
      simp only [Array.mk.injEq, List.cons.injEq, Value.slice.injEq, and_true] at he9
      obtain ⟨rfl, -, rfl⟩ := he9
      go_wp2_with fail
      refine (sameAddr_c ef.a A8 ef.n n ef.c c8 ef.bs b _ (hbf.keep hb8) hr9 (by have := hbf.1; rw [HBF.out, hbl] at this; omega)).mono ?_
      rintro e w9 ⟨rfl, hb9⟩
      rw [decide_eq_true HBF.out]
      have hb89 := hb8.trans (hb9.mono hb8.size)
      have hraT := hra57.keep hb89
      have hraB := hra7.keep hb89
      have hbw9 := hb7.trans (hb89.mono hb7.size)
      clear hb8 hb9 hb89 hra57 hra7 hbf hd0 hd1 hr9 hwrap hidx
      go_wp2_with fail
      go_loopw [61] (fun i wr => ∃ i' : Nat, i' ≤ m ∧ i = .int .i64 i' ∧ Below w9.heap.size w9 wr) (fun i _ => m - (intOf i).toNat)
      case atStart => exact ⟨0, Nat.zero_le _, rfl, Below.refl _ _⟩
      case round =>
        obtain ⟨j, hj, rfl, hbj⟩ := hrel
        by_cases hjm : j < m
        · obtain ⟨g1, o1, ex, hA1, hg1, hex, hx0, hx1, hbx⟩ := (hraB.keep hbj).at (i := j) (by omega)
          injection hA1 with hA1
          injection hA1 with hA1 hA2
          subst hA1 hA2
          obtain ⟨g2, o2, ey, hA2, hg2, hey, hy0, hy1, hby⟩ := (hraT.keep hbj).at (i := m - 1 - j) (by omega)
          injection hA2 with hA2
          injection hA2 with hA2 hA3
          subst hA2 hA3
          have h1 : ex.bs = backB ee.bs (j + 1) := walkB_get HM7.out hex (by omega)
          rw [HBN.out, back_on hnn (by omega)] at h1
          have h2 : ey.bs = onB b (m - 1 - j + 1) := walk_get HM.out hey (by omega)
          rw [show m - 1 - j + 1 = m + 1 - (j + 1) by omega] at h2
          have HXY := Lib.hid (h1.trans h2.symm)
          have hlx : ex.n ≤ 9223372036854775807 := by
            have := hbx.1
            rw [h1] at this
            unfold onB at this
            split at this
            · rw [Lib.beBytes_length] at this; omega
            · simp at this; omega
          clear hex hey h1 h2
          go_wp2_with fail
          have hdr2 : Below wr.heap.size wr wr.drew := ⟨rfl, rfl, rfl, Nat.le_refl _, fun _ _ => rfl⟩
          have i1 : (0 : Int) ≤ j ∧ (j : Int) < (m : Int) + 1 := by omega
          have i2 : IntKind.i64.wrap ((m : Int) + 1 - 2) = ((m - 1 : Nat) : Int) := by rw [IntKind.wrap_i64]; omega
          have i3 : IntKind.i64.wrap (((m - 1 : Nat) : Int) - j) = ((m - 1 - j : Nat) : Int) := by rw [IntKind.wrap_i64]; omega
          have i4 : (0 : Int) ≤ ((m - 1 - j : Nat) : Int) ∧ ((m - 1 - j : Nat) : Int) < (m : Int) + 1 := by omega
          have HI := Lib.hid (And.intro i1 (And.intro i2 (And.intro i3 i4)))
          clear i1 i2 i3 i4
          refine region_all (Below wr.heap.size wr) (by kernel_rfl) (by kernel_rfl) (hdr2) ?_
          repeat (first | (refine quiet_skip rfl ?_; (simp only [Act.put, List.setIfInBounds_toArray, List.set_cons_zero, List.set_cons_succ])) | (refine quiet_run ?_ rfl (fun w1 hw1 => ?_) ?_; rotate_left; (have r0 := HI.out.1; have r1 := HI.out.2.1; have r2 := HI.out.2.2.1; have r3 := HI.out.2.2.2; have r4 := (hw1.cell (p := ⟨g7, o7 + j * 2, none⟩) hg1).trans hx0; have r5 := (hw1.cell (p := ⟨g7, o7 + j * 2 + 1, none⟩) hg1).trans hx1; have r6 := (hw1.cell (p := ⟨g, o + (m - 1 - j) * 2, none⟩) hg2).trans hy0; have r7 := (hw1.cell (p := ⟨g, o + (m - 1 - j) * 2 + 1, none⟩) hg2).trans hy1; go_simp; try (with_reducible rfl)); (simp only [Act.put, List.setIfInBounds_toArray, List.set_cons_zero, List.set_cons_succ])) | (refine quiet_call ?_ ?_ ?_ rfl (fun w1 hw1 => ?_) (fun w1 hw1 => ?_) ?_; rotate_left 3; (have r0 := HI.out.1; have r1 := HI.out.2.1; have r2 := HI.out.2.2.1; have r3 := HI.out.2.2.2; have r4 := (hw1.cell (p := ⟨g7, o7 + j * 2, none⟩) hg1).trans hx0; have r5 := (hw1.cell (p := ⟨g7, o7 + j * 2 + 1, none⟩) hg1).trans hx1; have r6 := (hw1.cell (p := ⟨g, o + (m - 1 - j) * 2, none⟩) hg2).trans hy0; have r7 := (hw1.cell (p := ⟨g, o + (m - 1 - j) * 2 + 1, none⟩) hg2).trans hy1; go_simp; refine ⟨?_, ?_⟩ <;> with_reducible rfl); (first | (go_at_call 20; (with_reducible refine (sameAddr_c ex.a ey.a ex.n ey.n ex.c ey.c ex.bs ey.bs w1 (hbx.keep hw1) (hby.keep hw1) hlx).mono ?_); rintro e w2 ⟨rfl, hb⟩; refine ⟨?_, hw1.trans (hb.mono hw1.size)⟩; with_reducible rfl) | (go_at_call 20; (refine (sameAddr_c ex.a ey.a ex.n ey.n ex.c ey.c ex.bs ey.bs w1 (hbx.keep hw1) (hby.keep hw1) hlx).mono ?_); rintro e w2 ⟨rfl, hb⟩; refine ⟨?_, hw1.trans (hb.mono hw1.size)⟩; with_reducible rfl)); (simp only [Act.put, List.setIfInBounds_toArray, List.set_cons_zero, List.set_cons_succ])))
          refine wpQuiet_nil ?_
          intro w10 hw10
          rw [decide_eq_true HXY.out]
          have hbj2 := hbj.trans (hw10.mono hbj.size)
          clear HI hx0 hx1 hy0 hy1 hbx hby
          go_wp2
          go_roundw
          case rel => exact ⟨j + 1, by omega, by go_num, hbj2⟩
          case measure => simp [intOf]; omega
        · have hjm' : j = m := by omega
          go_wp2
          go_returns
          exact ⟨rfl, hbw9.trans (hbj.mono hbw9.size)⟩
  · rw [show (n == 4 || n == 16) = false by simpa using hl]
    go_wp2_with fail
    go_returns
    exact ⟨rfl, hb0⟩
end Go.Proofs.YtocckokbdacdfaaDoor
