/-
  The walk of laws.FnWalkInTwo.
-/
import Derived.Test.YtocckokbdacdfaaDoorThereBack
import Derived.Test.YtocckokbdacdfaaDoorSameP
namespace Go.Proofs.YtocckokbdacdfaaDoor
open Go Go.RowKit
theorem on_on (b : List UInt8) (m i : Nat) : onB (onB b m) i = onB b (m + i) := by
  by_cases h : onB b m = []
  · rw [h]
    have h1 : onB [] i = [] := by unfold onB; rw [if_neg (by simp [isLen])]
    rw [h1]
    unfold onB at *
    by_cases hc : isLen b.length ∧ Lib.beNat b + m < 256 ^ b.length
    · rw [if_pos hc] at h
      have := congrArg List.length h
      rw [Lib.beBytes_length] at this
      simp only [List.length_nil] at this
      have h2 := hc.1
      rw [this] at h2
      simp [isLen] at h2
    · rw [if_neg (fun h' => hc ⟨h'.1, by omega⟩)]
  · obtain ⟨h1, h2, h3, h4⟩ := on_len b m h
    unfold onB
    unfold onB at h3 h4
    rw [h3, h4, Nat.add_assoc]
theorem walk_append (b : List UInt8) (m n : Nat) : walkList nextAd (adOf b) (m + n) = walkList nextAd (adOf b) m ++ walkList nextAd (adOf (onB b m)) n := by
  unfold walkList
  rw [List.range_add, List.map_append, List.map_map]
  congr 1
  apply List.map_congr_left
  intro i _
  show bytesOf (iter nextAd (adOf b) (m + i + 1)) = bytesOf (iter nextAd (adOf (onB b m)) (i + 1))
  rw [bytes_on, bytes_on, on_on, Nat.add_assoc]
theorem enCells_append2 (es fs : List En) : enCells (es ++ fs) = enCells es ++ enCells fs := by simp [enCells]
set_option maxHeartbeats 4000000 in
/-- No steps: an empty row that is there. -/
theorem walkOn0_c (A0 : Option Addr) (n0 c0 : Nat) (bs : List UInt8) (z : ZP) (w : World) (hz : Zs w z) (hr : RB w A0 n0 bs) :
    Calls Tryd.prog 14 #[.agg #[.slice A0 n0 c0, .string ⟨#[]⟩], .int .i64 0] w fun e w' => ∃ g, e = .returned (.slice (some ⟨g, 0, none⟩) 0 0) ∧ Below w.heap.size w w' := by
  go_enter Tryd.func14, Tryd.ntmps14
  go_wp2_with fail
  have hbx : Below w.heap.size w ((w.alloc (.cells #[.slice A0 n0 c0, .string ⟨#[]⟩] 28)).alloc (.cells #[] 28)) := by go_grown
  refine (address_c A0 n0 c0 bs z _ (hz.keep hbx) (hr.keep hbx)).mono ?_
  rintro e w1 ⟨rfl, hb1⟩
  have hbw : Below w.heap.size w w1 := hbx.trans (hb1.mono hbx.size)
  clear hbx hb1
  go_wp2_with fail
  refine wp_loop_rounds 1 ?_
  rw [rounds_succ]
  go_wp2_with fail
  go_returns
  exact ⟨_, rfl, hbw.alloc hbw.size _⟩
/-- Any steps: a row that is there. -/
theorem walkOnS_c (A0 : Option Addr) (n0 c0 : Nat) (bs : List UInt8) (n : Nat) (z : ZP) (w : World) (hz : Zs w z) (hr : RB w A0 n0 bs) (hn : n ≤ 4096) :
    Calls Tryd.prog 14 #[.agg #[.slice A0 n0 c0, .string ⟨#[]⟩], .int .i64 n] w fun e w' => ∃ g c' es', e = .returned (.slice (some ⟨g, 0, none⟩) n c') ∧ (∀ j u, (enCells es')[j]? = some u → w'.cell? ⟨g, j, none⟩ = some u) ∧ es'.length = n ∧ es'.map (·.bs) = walkList nextAd (adOf bs) n ∧ ownEnT w' w.heap.size es' ∧ Below w.heap.size w w' := by
  by_cases h0 : n = 0
  · subst h0
    refine (walkOn0_c A0 n0 c0 bs z w hz hr).mono ?_
    rintro e w' ⟨g, rfl, hb⟩
    exact ⟨g, 0, [], rfl, fun j u h => by simp [enCells] at h, rfl, rfl, fun e he => by simp at he, hb⟩
  · refine (walkOn_c A0 n0 c0 bs n z w hz hr hn).mono ?_
    rintro e w' ⟨A', c', es', rfl, hown, hlen, hmap, hin, hb⟩
    obtain ⟨g, rfl, -, hc⟩ := own_some hown (by omega)
    exact ⟨g, c', es', rfl, hc, hlen, hmap, hin, hb⟩
set_option maxHeartbeats 8000000 in
theorem inTwo_walk (A : Option Addr) (n c : Nat) (b : List UInt8) (M0 N0 : Int) (z : ZP) (w : World) (hz : Zs w z) (hr : RB w A n b) (hA : A = none → n = 0 ∧ c = 0) (hn : n ≤ 140737488355328) :
    Calls Tryd.prog 4 #[.slice A n c, .int .i64 M0, .int .i64 N0] w (TrueW w) := by
  have hM := stepsN_lt M0
  have hN := stepsN_lt N0
  have hst := steps_c M0
  have hst2 := steps_c N0
  generalize stepsN M0 = M at *
  generalize stepsN N0 = N at *
  have HS := Lib.hid hst
  have HS2 := Lib.hid hst2
  clear hst hst2
  go_enter Tryd.func4, Tryd.ntmps4
  go_wp2_with fail
  refine (HS.out w).mono ?_
  rintro e w0 ⟨rfl, hb0⟩
  by_cases hM0 : M = 0
  · subst hM0
    go_wp2_with fail
    refine (plain_c A n c b w0 (hr.keep hb0) hA hn).mono ?_
    rintro e w1 ⟨A1, c1, rfl, hown1, hb1'⟩
    have hr1 := RB.of_own hown1
    have hb1 := hb0.trans (hb1'.mono hb0.size)
    clear hown1 hb1' hb0
    go_wp2_with fail
    refine (HS2.out w1).mono ?_
    rintro e w2 ⟨rfl, hb2'⟩
    have hr2 := hr1.keep hb2'
    have hb2 := hb1.trans (hb2'.mono hb1.size)
    clear hr1 hb2' hb1
    go_wp2_with fail
    refine (walkOn_c A1 n c1 b N z w2 (hz.keep hb2) hr2 (by omega)).mono ?_
    rintro e w3 ⟨A3, c3, es, rfl, -, -, -, -, hb3'⟩
    have hb3 := hb2.trans (hb3'.mono hb2.size)
    clear hr2 hb3' hb2
    go_wp2_with fail
    refine (HS2.out w3).mono ?_
    rintro e w4 ⟨rfl, hb4'⟩
    have hb4 := hb3.trans (hb4'.mono hb3.size)
    clear hb4' hb3
    go_wp2_with fail
    go_returns
    exact ⟨by simp, hb4⟩
  have m0 : ((M : Int) == 0) = false := beq_eq_false_iff_ne.2 (by omega)
  have m1 : (M == 0) = false := by simpa using hM0
  obtain ⟨m, hm⟩ : ∃ m, M = m + 1 := ⟨M - 1, by omega⟩
  subst hm
  go_wp2_with fail
  refine (plain_c A n c b w0 (hr.keep hb0) hA hn).mono ?_
  rintro e w1 ⟨A1, c1, rfl, hown1, hb1'⟩
  have hr1 := RB.of_own hown1
  have hb1 := hb0.trans (hb1'.mono hb0.size)
  clear hown1 hb1' hb0
  go_wp2_with fail
  refine (HS.out w1).mono ?_
  rintro e w2 ⟨rfl, hb2'⟩
  have hr2 := hr1.keep hb2'
  have hb2 := hb1.trans (hb2'.mono hb1.size)
  clear hr1 hb2' hb1
  go_wp2_with fail
  refine (walkOn_c A1 n c1 b (m + 1) z w2 (hz.keep hb2) hr2 (by omega)).mono ?_
  rintro e w3 ⟨A3, c3, es, rfl, hown3, hlen3, hmap3, hin3, hb3'⟩
  have hb3 := hb2.trans (hb3'.mono hb2.size)
  clear hr2 hb3'
  go_wp2_with fail
  refine (HS.out w3).mono ?_
  rintro e w4 ⟨rfl, hb4'⟩
  have hb4 := hb3.trans (hb4'.mono hb3.size)
  have hown4 := own_mono (own_below hown3 hb4') hb2.size
  have hin4 := hin3.below hb4'
  have hra4 := RA.of_ownT hown4 hlen3 hin4
  clear hb4' hb3 hown3 hin3
  obtain ⟨g, o, ee, hA3, hg, hee, hc0, hc1, hbe⟩ := hra4.at (i := m) (by omega)
  subst hA3
  have hbn : ee.bs = onB b (m + 1) := walk_get hmap3 hee (by omega)
  have HBN := Lib.hid hbn
  have HO4 := Lib.hid hown4
  have HI4 := Lib.hid hin4
  have HM3 := Lib.hid hmap3
  have HL3 := Lib.hid hlen3
  clear hbn hee hown4 hin4 hmap3 hlen3 hra4
  have hdr : Below w4.heap.size w4 w4.drew := ⟨rfl, rfl, rfl, Nat.le_refl _, fun _ _ => rfl⟩
  have HX := Lib.hid (And.intro (show IntKind.i64.wrap (m : Int) = m by rw [IntKind.wrap_i64]; omega) (show (0 : Int) ≤ m ∧ (m : Int) < (m : Int) + 1 by omega))
  go_wp2_with fail
  refine region_tail (Below w4.heap.size w4) 8 (by kernel_rfl) (by kernel_rfl) (hdr) ?_
  simp only [List.take_succ_cons, List.take_zero, List.drop_succ_cons, List.drop_zero]
  repeat (first | (refine quiet_skip rfl ?_; (simp only [Act.put, List.setIfInBounds_toArray, List.set_cons_zero, List.set_cons_succ])) | (refine quiet_run ?_ rfl (fun w1 hw1 => ?_) ?_; rotate_left; (have r0 := HX.out.1; have r1 := HX.out.2; have r2 := (hw1.cell (p := ⟨g, o + m * 2, none⟩) hg).trans hc0; have r3 := (hw1.cell (p := ⟨g, o + m * 2 + 1, none⟩) hg).trans hc1; go_simp; try (with_reducible rfl)); (simp only [Act.put, List.setIfInBounds_toArray, List.set_cons_zero, List.set_cons_succ])) | (refine quiet_call ?_ ?_ ?_ rfl (fun w1 hw1 => ?_) (fun w1 hw1 => ?_) ?_; rotate_left 3; (have r0 := HX.out.1; have r1 := HX.out.2; have r2 := (hw1.cell (p := ⟨g, o + m * 2, none⟩) hg).trans hc0; have r3 := (hw1.cell (p := ⟨g, o + m * 2 + 1, none⟩) hg).trans hc1; go_simp; refine ⟨?_, ?_⟩ <;> with_reducible rfl); (first | (go_at_call 13; (with_reducible refine (HS2.out w1).mono ?_); rintro e w2 ⟨rfl, hb⟩; refine ⟨?_, hw1.trans (hb.mono hw1.size)⟩; with_reducible rfl) | (go_at_call 13; (refine (HS2.out w1).mono ?_); rintro e w2 ⟨rfl, hb⟩; refine ⟨?_, hw1.trans (hb.mono hw1.size)⟩; with_reducible rfl)); (simp only [Act.put, List.setIfInBounds_toArray, List.set_cons_zero, List.set_cons_succ])))
  refine wpQuiet_nil ?_
  intro w5 hw5
  have hb5 := hb4.trans (hw5.mono hb4.size)
  obtain ⟨i0, hi, hz0, hz1, hz2⟩ := info_parts infoAddr
  go_wp2_with fail
  refine (walkOnS_c ee.a ee.n ee.c ee.bs N z w5 (hz.keep hb5) (hbe.keep hw5) (by omega)).mono ?_
  rintro e w6 ⟨g6, c6, fs, rfl, hc6, hlen6, hmap6, hin6, hb6'⟩
  have hb6 := hb5.trans (hb6'.mono hb5.size)
  have b46 := hw5.trans (hb6'.mono hw5.size)
  have hown6 := own_below HO4.out b46
  have hin46 := HI4.out.below b46
  have hs6 := hb6.size
  have hall : ∀ u ∈ enCells fs, u.oneCell' = true := fun u hu => by
    simp only [enCells, En.cells, List.mem_flatMap, List.mem_cons, List.not_mem_nil, or_false] at hu
    obtain ⟨e, _, rfl | rfl⟩ := hu <;> rfl
  have hE6 : ownEnT w6 0 (es ++ fs) := fun x hx => by
    rcases List.mem_append.1 hx with hx | hx
    · obtain ⟨t, ht, ho⟩ := hin46 x hx
      exact ⟨t, ht, own_mono ho (Nat.zero_le _)⟩
    · obtain ⟨t, ht, ho⟩ := hin6 x hx
      exact ⟨t, ht, own_mono ho (Nat.zero_le _)⟩
  have HO6 := Lib.hid hown6
  have HE6 := Lib.hid hE6
  have HC6 := Lib.hid hc6
  have HM6 := Lib.hid hmap6
  have HL6 := Lib.hid hlen6
  have HALL := Lib.hid hall
  have HR6 := Lib.hid (own_row_ge hown6)
  clear hown6 hE6 hc6 hmap6 hlen6 hin46 hin6 hall HI4 HO4 hc0 hc1 hbe
  go_wp2_with (at_builtin; refine wpList_append_own _ rfl _ _ 23 rfl w.heap.size 28 i0 (.agg #[.slice none 0 0, .string ⟨#[]⟩]) 2 40 Tryd.underlying23 hi hz0 hz1 hz2 rfl (by decide) _ _ _ rfl HO6.out ⟨g6, 0, none⟩ _ _ (enCells fs) rfl (by rw [enCells_len, HL6.out]) (fun j u hj => by rw [add_zero_off, Nat.zero_add]; exact HC6.out j u hj) HALL.out (by unfold maxLen; omega) (by omega) hs6 ?_)
  intro v7 w7 hown7 hgrow _
  have hb7 : Below w.heap.size w w7 := hb6.grown hgrow hs6 HR6.out
  have hE7 := HE6.out.grown HO6.out hgrow
  rw [← enCells_append2] at hown7
  obtain ⟨A7, c7, rfl⟩ := own_slice hown7
  have hra7 := RA.of_ownT hown7 (by rw [List.length_append, HL3.out, HL6.out]) hE7
  clear hown7 hE7 HO6 HE6 HC6 HALL HR6 hgrow
  go_wp2_with fail
  refine (plain_c A n c b w7 (hr.keep hb7) hA hn).mono ?_
  rintro e w8 ⟨A8, c8, rfl, hown8, hb8'⟩
  have hr8 := RB.of_own hown8
  have hb8 := hb7.trans (hb8'.mono hb7.size)
  have hra8 := hra7.keep hb8'
  clear hown8 hb8' hra7 hb7
  go_wp2_with fail
  refine (HS.out w8).mono ?_
  rintro e w9 ⟨rfl, hb9'⟩
  have hr9 := hr8.keep hb9'
  have hb9 := hb8.trans (hb9'.mono hb8.size)
  have hra9 := hra8.keep hb9'
  clear hb9' hra8 hb8 hr8
  go_wp2_with fail
  refine (HS2.out w9).mono ?_
  rintro e w10 ⟨rfl, hb10'⟩
  have hr10 := hr9.keep hb10'
  have hb10 := hb9.trans (hb10'.mono hb9.size)
  have hra10 := hra9.keep hb10'
  clear hb10' hra9 hb9 hr9
  go_wp2_with fail
  rw [show ((m : Int) + 1 + N) = ((m + 1 + N : Nat) : Int) by omega]
  refine (walkOn_c A8 n c8 b (m + 1 + N) z w10 (hz.keep hb10) hr10 (by omega)).mono ?_
  rintro e w11 ⟨A11, c11, es11, rfl, hown11, hlen11, hmap11, hin11, hb11'⟩
  have hra11 := RA.of_ownT hown11 hlen11 hin11
  have hraT := hra10.keep hb11'
  have hb11 := hb10.trans (hb11'.mono hb10.size)
  have heq : (es ++ fs).map (·.bs) = es11.map (·.bs) := by
    rw [hmap11, walk_append, List.map_append, HM3.out, HM6.out, HBN.out]
  have hle : ∀ e ∈ es ++ fs, e.n ≤ 9223372036854775807 := fun e he => by
    have h1 := (hraT.2.2 e he).1
    have h2 : e.bs ∈ walkList nextAd (adOf b) (m + 1 + N) := by rw [← hmap11, ← heq]; exact List.mem_map_of_mem he
    unfold walkList at h2
    obtain ⟨i, _, hi⟩ := List.mem_map.1 h2
    rw [bytes_on] at hi
    rw [← h1, ← hi]
    unfold onB
    split
    · rename_i h; rw [Lib.beBytes_length]; have := h.1; unfold isLen at this; omega
    · simp
  have HEQ := Lib.hid heq
  have HLE := Lib.hid hle
  clear hown11 hlen11 hmap11 hin11 hb11' heq hle hra10 hb10 hr10
  go_wp2_with fail
  refine (samePlaces_c _ _ (m + 1 + N) c7 c11 (es ++ fs) es11 w11 hraT hra11 (by omega) HEQ.out HLE.out).mono ?_
  rintro e w12 ⟨rfl, hb12'⟩
  have hb12 := hb11.trans (hb12'.mono hb11.size)
  go_wp2_with fail
  go_returns
  exact ⟨rfl, hb12⟩
end Go.Proofs.YtocckokbdacdfaaDoor
