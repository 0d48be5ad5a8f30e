/-
  Contracts of laws.less and laws.following.
-/
import Derived.Test.YtckfgdohpmllmaaDoorOrd
namespace Go.Proofs.YtckfgdohpmllmaaDoor
open Go Go.RowKit
theorem beNat_split (bs : List UInt8) (i : Nat) (hi : i < bs.length) : Lib.beNat bs = Lib.beNat (bs.take i) * 256 ^ (bs.length - i) + (bs.getD i 0).toNat * 256 ^ (bs.length - i - 1) + Lib.beNat (bs.drop (i + 1)) := by
  have h1 : bs = bs.take i ++ (bs[i] :: bs.drop (i + 1)) := by rw [← List.drop_eq_getElem_cons hi, List.take_append_drop]
  have h2 : Lib.beNat bs = Lib.beNat (bs.take i) * 256 ^ (bs.length - i) + Lib.beNat (bs[i] :: bs.drop (i + 1)) := by
    conv => lhs; rw [h1]
    rw [beNat_append]
    congr 2
    simp
  have h3 : Lib.beNat (bs[i] :: bs.drop (i + 1)) = bs[i].toNat * 256 ^ (bs.length - i - 1) + Lib.beNat (bs.drop (i + 1)) := by
    have := beNat_append [bs[i]] (bs.drop (i + 1))
    rw [List.singleton_append] at this
    rw [this]
    congr 1
    rw [show (bs.drop (i + 1)).length = bs.length - i - 1 by simp; omega]
    congr 1
    simp [Lib.beNat, Lib.beFrom]
  rw [h2, h3, show bs.getD i 0 = bs[i] by simp [List.getD, hi]]
  omega
/-- The first place where two differ decides. -/
theorem less_at {a b : List UInt8} {i : Nat} (hl : a.length = b.length) (hi : i < a.length) (he : a.take i = b.take i) (h : (a.getD i 0).toNat < (b.getD i 0).toNat) : Lib.beNat a < Lib.beNat b := by
  rw [beNat_split a i hi, beNat_split b i (by omega), he, hl]
  have h1 := beNat_lt (a.drop (i + 1))
  rw [show (a.drop (i + 1)).length = b.length - i - 1 by simp; omega] at h1
  have h2 := Nat.mul_le_mul_right (256 ^ (b.length - i - 1)) (show (a.getD i 0).toNat + 1 ≤ (b.getD i 0).toNat from h)
  rw [Nat.add_mul, Nat.one_mul] at h2
  omega
set_option maxRecDepth 100000 in
set_option maxHeartbeats 8000000 in
theorem less_c (A B : Option Addr) (n c d : Nat) (us bs : List UInt8) (w : World) (h1 : RB w A n us) (h2 : RB w B n bs) (hn : n ≤ 9223372036854775807) :
    Calls Tryd.prog 38 #[.slice A n c, .slice B n d] w fun e w' => e = .returned (.bool (decide (Lib.beNat us < Lib.beNat bs))) ∧ Below w.heap.size w w' := by
  have hal := h1.1
  have hbl := h2.1
  obtain ⟨R, hR⟩ : ∃ R, R = decide (Lib.beNat us < Lib.beNat bs) := ⟨_, rfl⟩
  rw [← hR]
  have HR := Lib.hid hR
  have HL := Lib.hid (And.intro hal hbl)
  clear hR hal hbl
  go_enter Tryd.func38, Tryd.ntmps38
  go_wp2_with fail
  go_loopw [11] (fun i wr => ∃ (j : Nat), j ≤ n ∧ i = .int .i64 j ∧ us.take j = bs.take j ∧ Below w.heap.size w wr) (fun i _ => n - (intOf i).toNat)
  case atStart => exact ⟨0, Nat.zero_le _, rfl, rfl, Below.refl _ _⟩
  case round =>
    obtain ⟨j, hj, rfl, htk, hbb⟩ := hrel
    have HT := Lib.hid htk
    clear htk
    by_cases hlt : j < n
    · obtain ⟨g, o, hA, hg, hc⟩ := (h1.keep hbb).2 (by omega)
      subst hA
      obtain ⟨g', o', hB, hg', hc'⟩ := (h2.keep hbb).2 (by omega)
      subst hB
      have x0 := hc j hlt
      have y0 := hc' j hlt
      have hxb : (us.getD j 0).toNat < 256 := (us.getD j 0).toBitVec.isLt
      have hyb : (bs.getD j 0).toNat < 256 := (bs.getD j 0).toBitVec.isLt
      have hcase : ((us.getD j 0).toNat = (bs.getD j 0).toNat → us.take (j + 1) = bs.take (j + 1)) ∧ ((us.getD j 0).toNat < (bs.getD j 0).toNat → R = true) ∧ ((bs.getD j 0).toNat < (us.getD j 0).toNat → R = false) := by
        refine ⟨fun h => ?_, fun h => ?_, fun h => ?_⟩
        · have ha : us[j]? = some (us.getD j 0) := by rw [List.getD, List.getElem?_eq_getElem (by rw [HL.out.1]; exact hlt)]; rfl
          have hb : bs[j]? = some (bs.getD j 0) := by rw [List.getD, List.getElem?_eq_getElem (by rw [HL.out.2]; exact hlt)]; rfl
          rw [List.take_add_one, List.take_add_one, HT.out, ha, hb, UInt8.toNat_inj.1 h]
        · rw [HR.out, decide_eq_true_eq]
          exact less_at (by rw [HL.out.1, HL.out.2]) (by rw [HL.out.1]; exact hlt) HT.out h
        · rw [HR.out, decide_eq_false_iff_not]
          have := less_at (a := bs) (b := us) (by rw [HL.out.1, HL.out.2]) (by rw [HL.out.2]; exact hlt) HT.out.symm h
          omega
      have HC := Lib.hid hcase
      clear hcase hc hc'
      generalize (us.getD j 0).toNat = x at *
      generalize (bs.getD j 0).toNat = y at *
      have hdr : Below wr.heap.size wr wr.drew := ⟨rfl, rfl, rfl, Nat.le_refl _, fun _ _ => rfl⟩
      have rX : ∀ w', Below wr.heap.size wr w' → w'.cell? ⟨g, o + j, none⟩ = some (.int .u8 x) ∧ w'.cell? ⟨g', o' + j, none⟩ = some (.int .u8 y) := fun w' h => ⟨(h.cell (p := ⟨g, o + j, none⟩) hg).trans x0, (h.cell (p := ⟨g', o' + j, none⟩) hg').trans y0⟩
      have q1 : (0 : Int) ≤ j ∧ (j : Int) < n := by omega
      have HQ := Lib.hid q1
      clear q1 x0 y0
      by_cases hxy : x = y
      · subst hxy
        go_wp2_with fail
        refine region_pick (Below wr.heap.size wr) [(0, false, none), (1, false, none), (2, false, none), (3, false, none), (4, false, none), (5, false, none), (6, false, none), (7, false, none), (8, false, none)] 9 (by kernel_rfl) (by kernel_rfl) (fun w w' h hb => h.trans (hb.mono h.size)) (hdr) ?_
        simp only [pickOps, List.getElem?_cons_zero, List.getElem?_cons_succ]
        repeat (first | (refine t_skip rfl ?_; (simp only [Act.put, List.setIfInBounds_toArray, List.set_cons_zero, List.set_cons_succ])) | (refine t_run ?_ rfl (fun w1 hw1 => ?_) ?_; rotate_left; (have r0 := (rX w1 hw1).1; have r1 := (rX w1 hw1).2; have r2 := HQ.out; go_simp; try (with_reducible rfl)); (simp only [Act.put, List.setIfInBounds_toArray, List.set_cons_zero, List.set_cons_succ])))
        intro w9 hw9
        simp only [List.drop_succ_cons, List.drop_zero]
        have hb9 := hbb.trans (hw9.mono hbb.size)
        clear rX hdr
        go_wp2
        go_roundw
        case rel => exact ⟨j + 1, by omega, by go_num, (by have := HC.out.1; simpa using this), hb9⟩
        case measure => simp [intOf]; omega
      · have hne : ((x : Int) == y) = false ∧ (x == y) = false := by simp; omega
        have HN := Lib.hid hne
        clear hne
        go_wp2_with fail
        refine region_pick (Below wr.heap.size wr) [(0, false, none), (1, false, none), (2, false, none), (3, false, none), (4, false, none), (5, false, none), (6, false, none), (7, false, none), (8, false, none)] 9 (by kernel_rfl) (by kernel_rfl) (fun w w' h hb => h.trans (hb.mono h.size)) (hdr) ?_
        simp only [pickOps, List.getElem?_cons_zero, List.getElem?_cons_succ]
        repeat (first | (refine t_skip rfl ?_; (simp only [Act.put, List.setIfInBounds_toArray, List.set_cons_zero, List.set_cons_succ])) | (refine t_run ?_ rfl (fun w1 hw1 => ?_) ?_; rotate_left; (have r0 := (rX w1 hw1).1; have r1 := (rX w1 hw1).2; have r2 := HQ.out; have r3 := HN.out.1; have r4 := HN.out.2; go_simp; try (with_reducible rfl)); (simp only [Act.put, List.setIfInBounds_toArray, List.set_cons_zero, List.set_cons_succ])))
        intro w9 hw9
        simp only [List.drop_succ_cons, List.drop_zero]
        have hdr9 : Below wr.heap.size wr w9.drew := hw9.drew
        have hRx : R = decide (x < y) := by
          rcases Nat.lt_or_ge x y with h | h
          · rw [HC.out.2.1 h]; simp [h]
          · rw [HC.out.2.2 (by omega)]; simp; omega
        have HRX := Lib.hid hRx
        clear hRx
        go_wp2_with fail
        refine region_pick (Below wr.heap.size wr) [(0, false, none), (1, false, none), (2, false, none), (3, false, none), (4, false, none), (5, false, none), (6, false, none), (7, false, none), (8, false, none), (9, false, none)] 10 (by kernel_rfl) (by kernel_rfl) (fun w w' h hb => h.trans (hb.mono h.size)) (hdr9) ?_
        simp only [pickOps, List.getElem?_cons_zero, List.getElem?_cons_succ]
        repeat (first | (refine t_skip rfl ?_; (simp only [Act.put, List.setIfInBounds_toArray, List.set_cons_zero, List.set_cons_succ])) | (refine t_run ?_ rfl (fun w1 hw1 => ?_) ?_; rotate_left; (have r0 := (rX w1 hw1).1; have r1 := (rX w1 hw1).2; have r2 := HQ.out; go_simp; try (with_reducible rfl)); (simp only [Act.put, List.setIfInBounds_toArray, List.set_cons_zero, List.set_cons_succ])))
        intro w10 hw10
        simp only [List.drop_succ_cons, List.drop_zero]
        have hb10 := hbb.trans (hw10.mono hbb.size)
        clear rX hdr hdr9
        go_wp2
        go_returns
        exact ⟨by rw [HRX.out]; first | rfl | simp, hb10⟩
    · obtain rfl : j = n := by omega
      have hRf : R = false := by
        have h3 := HT.out
        rw [List.take_of_length_le (by rw [HL.out.1]; omega), List.take_of_length_le (by rw [HL.out.2]; omega)] at h3
        rw [HR.out, h3]; simp
      subst hRf
      go_wp2
      go_returns
      exact ⟨rfl, hbb⟩
end Go.Proofs.YtckfgdohpmllmaaDoor
