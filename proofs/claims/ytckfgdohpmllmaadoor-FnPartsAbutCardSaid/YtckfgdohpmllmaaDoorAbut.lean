/-
  The walk of laws.FnPartsAbut.
-/
import Derived.Test.YtckfgdohpmllmaaDoorAbutL
import Derived.Test.YtckfgdohpmllmaaDoorCutP
import Derived.Test.YtckfgdohpmllmaaDoorSame
namespace Go.Proofs.YtckfgdohpmllmaaDoor
open Go Go.RowKit
theorem abut_bytes {a : List UInt8} {k0 : Nat} {es fs : List Pf} (h : CutInv a k0 es) (hl : isLen a.length) (hs : SortOf es fs) {i : Nat} {e f : Pf} (he : fs[i]? = some e) (hf : fs[i + 1]? = some f) :
    bytesOf (iter nextAd (adOf (wb e.bs e.k true)) 1) = wb f.bs f.k false := by
  have l1 : e.bs.length = a.length := (h.ln e (hs.1.subset (List.mem_of_getElem? he))).1
  have l2 : f.bs.length = a.length := (h.ln f (hs.1.subset (List.mem_of_getElem? hf))).1
  have h1 := cut_abut h hl hs he hf
  have h2 := fN_lt f.is
  have e1 : (wb e.bs e.k true).length = a.length := by rw [wb_len, l1]
  have e2 : f.is.1.length = a.length := l2
  rw [e2] at h2
  rw [next_bytes (by rw [e1]; exact hl) (by rw [e1, h1]; exact h2), e1, h1]
  have h3 := beBytes_beNat (wb f.bs f.k false)
  rw [wb_len, l2] at h3
  exact h3
set_option maxRecDepth 100000 in
set_option maxHeartbeats 16000000 in
theorem abut_walk (A : Option Addr) (n c : Nat) (bs : List UInt8) (x : UInt8) (T : Option Addr) (tn tc : Nat) (ts : List UInt8) (z : ZP) (w : World) (hz : Zs w z)
    (hr : RB w A n bs) (hA : A = none → n = 0 ∧ c = 0) (hn : n ≤ 140737488355328) (ht : RB w T tn ts) (htn : tn ≤ 140737488355328) :
    Calls Tryd.prog 13 #[.slice A n c, .int .u8 x.toNat, .slice T tn tc] w (TrueW w) := by
  go_enter Tryd.func13, Tryd.ntmps13
  go_wp2_with fail
  refine (cutParts_c A n c bs x T tn tc ts w hr hA hn ht htn).mono ?_
  rintro e0 w1 ⟨A1, c1, es, rfl, hown, hin, hci, hno, hb1⟩
  have hrp := RP.of_own hown rfl hin
  have hv : ∀ y ∈ es, Vp y.is := fun y hy => by
    by_cases hl : isLen bs.length
    · obtain ⟨l1, -, -, l4⟩ := (hci hl).ln y hy
      exact ⟨by show isLen y.bs.length; rw [l1]; exact hl, by show y.k ≤ 8 * y.bs.length; rw [l1]; exact l4⟩
    · rw [hno hl] at hy; simp at hy
  have hsm : es.length ≤ 32769 := by
    by_cases hl : isLen bs.length
    · exact (hci hl).small hl
    · rw [hno hl]; simp
  have hlen : 0 < es.length → isLen bs.length := fun h => by
    by_cases hl : isLen bs.length
    · exact hl
    · rw [hno hl] at h; simp at h
  have hz1 := hz.keep hb1
  have HC := Lib.hid (And.intro hci (And.intro hlen hv))
  clear hown hin hci hno hlen
  go_wp2_with fail
  refine (sorted_c A1 es.length c1 es z w1 hz1 hrp hv (by omega)).mono ?_
  rintro e0 w2 ⟨A2, c2, fs, rfl, hown2, hsort, hb2⟩
  have hrp2 := hsort.rp hrp hb2 hown2
  have hz2 := hz1.keep hb2
  have hbw := hb1.trans (hb2.mono hb1.size)
  obtain ⟨N, hN⟩ : ∃ N, N = es.length := ⟨_, rfl⟩
  rw [← hN] at hrp2 hsm ⊢
  have HS := Lib.hid (And.intro hsort hN)
  clear hown2 hsort hv hrp hN hb1 hb2 hz1
  go_wp2_with fail
  go_loopw [8] (fun i wr => ∃ (j : Nat), (j < N ∨ j = 0) ∧ i = .int .i64 ((j + 1 : Nat) : Int) ∧ Below w2.heap.size w2 wr) (fun i _ => N - (intOf i).toNat)
  case atStart => exact ⟨0, .inr rfl, rfl, Below.refl _ _⟩
  case round =>
    obtain ⟨j, hj, rfl, hbb⟩ := hrel
    by_cases hlt : j + 1 < N
    · have hl := HC.out.2.1 (by have := HS.out.2; omega)
      obtain ⟨g, o, e, hA', hg, hek, hc0, hc1, hc2, hbe⟩ := (hrp2.keep hbb).at (i := j) (by omega)
      subst hA'
      obtain ⟨g', o', f, hA', hg', hfk, hd0, hd1, hd2, hbf⟩ := (hrp2.keep hbb).at (i := j + 1) hlt
      injection hA' with hA'
      injection hA' with hA1 hA2
      subst hA1 hA2
      have hve := HC.out.2.2 e (HS.out.1.1.subset (List.mem_of_getElem? hek))
      have hvf := HC.out.2.2 f (HS.out.1.1.subset (List.mem_of_getElem? hfk))
      have hne : e.n ≤ 16 ∧ isLen e.n := by rw [← hbe.1]; have h5 := hve.1; unfold isLen at *; simp only [Pf.is] at h5; omega
      have hnf : f.n ≤ 16 ∧ isLen f.n := by rw [← hbf.1]; have h5 := hvf.1; unfold isLen at *; simp only [Pf.is] at h5; omega
      have hke : e.k ≤ 8 * e.n := by rw [← hbe.1]; exact hve.2
      have hkf : f.k ≤ 8 * f.n := by rw [← hbf.1]; exact hvf.2
      have habut := abut_bytes (HC.out.1 hl) hl HS.out.1 hek hfk
      have HAB := Lib.hid habut
      clear habut hek hfk
      go_wp2_with fail
      refine (lastOf_c e.a e.n e.c e.bs e.k wr hbe hne.2 hke).mono ?_
      rintro e1 w3 ⟨v3, rfl, ⟨g3, c3, rfl, hown3⟩, hb3⟩
      have hr3 := RB.of_own hown3
      go_wp2_with fail
      refine (plain_c (some ⟨g3, 0, none⟩) e.n c3 (wb e.bs e.k true) w3 hr3 (by simp) (by omega)).mono ?_
      rintro e1 w4 ⟨A4, c4, rfl, hown4, hb4⟩
      have hr4 := RB.of_own hown4
      have hb24 := hbb.trans ((hb3.trans (hb4.mono hb3.size)).mono hbb.size)
      have hz4 := hz2.keep hb24
      go_wp2_with fail
      refine (walkOn_c A4 e.n c4 (wb e.bs e.k true) 1 z w4 hz4 hr4 (by omega)).mono ?_
      rintro e1 w5 ⟨A5, c5, ns, rfl, hown5, hnl, hnm, hnt, hb5⟩
      obtain ⟨q, rfl⟩ : ∃ q, ns = [q] := List.length_eq_one_iff.1 hnl
      have hqb : q.bs = wb f.bs f.k false := by
        have : [q.bs] = walkList nextAd (adOf (wb e.bs e.k true)) 1 := hnm
        unfold walkList at this
        simp only [List.range_succ, List.range_zero, List.nil_append, List.map_cons, List.map_nil, List.cons.injEq, and_true] at this
        rw [this]
        exact HAB.out
      obtain ⟨tq, -, hoq⟩ := hnt q (by simp)
      have hrq := RB.of_own hoq
      obtain ⟨g5, hA5, hg5, hc5⟩ := own_some hown5 (by omega)
      subst hA5
      have n0 := hc5 0 _ rfl
      have n1 := hc5 1 _ rfl
      have hb35 := hb3.trans ((hb4.trans (hb5.mono hb4.size)).mono hb3.size)
      have hb25 := hbb.trans (hb35.mono hbb.size)
      have hbf5 := hbf.keep hb35
      have hgw5 := Nat.lt_of_lt_of_le hg' hb35.size
      have m0 := (hb35.cell (p := ⟨g, o + (j + 1) * 3, none⟩) hg').trans hd0
      have m1 := (hb35.cell (p := ⟨g, o + (j + 1) * 3 + 1, none⟩) hg').trans hd1
      have m2 := (hb35.cell (p := ⟨g, o + (j + 1) * 3 + 2, none⟩) hg').trans hd2
      have hqn : q.n ≤ 9223372036854775807 := by rw [← hrq.1, hqb, wb_len, hbf.1]; omega
      rw [hqb] at hrq
      have rF : ∀ w', Below w5.heap.size w5 w' → w'.cell? ⟨g, o + (j + 1) * 3, none⟩ = some (.slice f.a f.n f.c) ∧ w'.cell? ⟨g, o + (j + 1) * 3 + 1, none⟩ = some (.string ⟨#[]⟩) ∧ w'.cell? ⟨g, o + (j + 1) * 3 + 2, none⟩ = some (.int .i64 f.k) := fun w' hb =>
        ⟨(hb.cell (p := ⟨g, o + (j + 1) * 3, none⟩) hgw5).trans m0, (hb.cell (p := ⟨g, o + (j + 1) * 3 + 1, none⟩) hgw5).trans m1, (hb.cell (p := ⟨g, o + (j + 1) * 3 + 2, none⟩) hgw5).trans m2⟩
      have rN : ∀ w', Below w5.heap.size w5 w' → w'.cell? ⟨g5, 0, none⟩ = some (.slice q.a q.n q.c) ∧ w'.cell? ⟨g5, 1, none⟩ = some (.string ⟨#[]⟩) := fun w' hb =>
        ⟨(hb.cell (p := ⟨g5, 0, none⟩) hg5).trans n0, (hb.cell (p := ⟨g5, 1, none⟩) hg5).trans n1⟩
      have ks : ∀ w' A c, Below w5.heap.size w5 w' → RB w' A f.n (wb f.bs f.k false) → Calls Tryd.prog 26 #[.agg #[.slice q.a q.n q.c, .string ⟨#[]⟩], .agg #[.slice A f.n c, .string ⟨#[]⟩]] w' fun e w'' => e = .returned (.bool true) ∧ Below w'.heap.size w' w'' := fun w' A c hb hr => by
        have := sameAddr_c q.a A q.n f.n q.c c (wb f.bs f.k false) (wb f.bs f.k false) w' (hrq.keep hb) hr hqn
        rw [show decide (wb f.bs f.k false = wb f.bs f.k false) = true by simp] at this
        exact this
      have q1 : (0 : Int) ≤ (j : Int) + 1 ∧ (j : Int) + 1 < N := by omega
      have q2 : ((j : Int) + 1).toNat = j + 1 := by omega
      have HQ := Lib.hid (And.intro q1 q2)
      have hdr : Below w5.heap.size w5 w5.drew := ⟨rfl, rfl, rfl, Nat.le_refl _, fun _ _ => rfl⟩
      clear hown3 hown4 hown5 hnl hnm hnt hqb hoq hrq n0 n1 m0 m1 m2 hc0 hc1 hc2 hd0 hd1 hd2 hc5 hr3 hr4 hz4 q1 q2 hbe hbf hb3 hb4 hb5 hb24
      go_wp2_with fail
      refine region_pick (Below w5.heap.size w5) [(0, false, none), (1, false, none), (2, false, none), (3, false, none), (4, false, none), (5, false, none), (6, false, none), (7, false, none), (8, false, none), (9, false, none), (10, false, none), (11, true, none), (12, true, none), (13, false, none), (14, false, none), (15, false, none)] 16 (by kernel_rfl) (by kernel_rfl) (fun w w' h hb => h.trans (hb.mono h.size)) (hdr) ?_
      simp only [pickOps, List.getElem?_cons_zero, List.getElem?_cons_succ]
      repeat (first | (refine t_skip rfl ?_; (simp only [Act.put, List.setIfInBounds_toArray, List.set_cons_zero, List.set_cons_succ])) | (refine t_run ?_ rfl (fun w1 hw1 => ?_) ?_; rotate_left; (have r0 := (rN w1 hw1).1; have r1 := (rN w1 hw1).2; have r2 := (rF w1 hw1).1; have r3 := (rF w1 hw1).2.1; have r4 := (rF w1 hw1).2.2; have r5 := HQ.out.1; have r6 := HQ.out.2; go_simp; try (with_reducible rfl)); (simp only [Act.put, List.setIfInBounds_toArray, List.set_cons_zero, List.set_cons_succ])))
      refine t_fresh ?_ ?_ (fun v w' => OwnB 0 f.n (wb f.bs f.k false) v w') (by rfl) (fun w1 hw1 => ?_) (fun v w w' h hb => h.keep hb) (fun w1 hw1 => ?_) ?_
      rotate_left 2
      (go_simp; refine ⟨?_, ?_⟩ <;> with_reducible rfl)
      (go_at_call 22; (with_reducible refine (firstOf_c f.a f.n f.c f.bs f.k w1 (hbf5.keep hw1) hnf.2 hkf).mono ?_); rintro e w2 ⟨v, rfl, ⟨g9, c9, rfl, hown9⟩, hb9⟩; exact ⟨_, rfl, ⟨g9, c9, rfl, own_mono hown9 (Nat.zero_le _)⟩, hb9⟩)
      rintro v8 ⟨-, -, g9, c9, rfl, -⟩
      (simp only [Act.put, List.setIfInBounds_toArray, List.set_cons_zero, List.set_cons_succ])
      refine t_fresh ?_ ?_ (fun v w' => FreshOw 0 f.n (wb f.bs f.k false) v w') (by rfl) (fun w1 hw1 => ?_) (fun v w w' h hb => h.keep hb) (fun w1 hw1 => ?_) ?_
      rotate_left 2
      (go_simp; refine ⟨?_, ?_⟩ <;> with_reducible rfl)
      (go_at_call 24; (with_reducible refine (plain_c (some ⟨g9, 0, none⟩) f.n c9 (wb f.bs f.k false) w1 (RB.of_own hw1.2.own) (by simp) (by omega)).mono ?_); rintro e w2 ⟨A10, c10, rfl, hown10, hb10⟩; exact ⟨_, rfl, ⟨A10, c10, rfl, own_mono hown10 (Nat.zero_le _)⟩, hb10⟩)
      rintro v9 ⟨-, -, A10, c10, rfl, -⟩
      (simp only [Act.put, List.setIfInBounds_toArray, List.set_cons_zero, List.set_cons_succ])
      repeat (first | (refine t_skip rfl ?_; (simp only [Act.put, List.setIfInBounds_toArray, List.set_cons_zero, List.set_cons_succ])) | (refine t_run ?_ rfl (fun w1 hw1 => ?_) ?_; rotate_left; (go_simp; try (with_reducible rfl)); (simp only [Act.put, List.setIfInBounds_toArray, List.set_cons_zero, List.set_cons_succ])) | (refine t_call ?_ ?_ ?_ rfl (fun w1 hw1 => ?_) (fun w1 hw1 => ?_) ?_; rotate_left 3; (go_simp; refine ⟨?_, ?_⟩ <;> with_reducible rfl); (first | (go_at_call 26; (with_reducible refine (ks w1 A10 c10 hw1.1.1 (RB.of_own hw1.2.own)).mono ?_); rintro e w2 ⟨rfl, hb⟩; refine ⟨?_, hb⟩; with_reducible rfl) | (go_at_call 26; (refine (ks w1 A10 c10 hw1.1.1 (RB.of_own hw1.2.own)).mono ?_); rintro e w2 ⟨rfl, hb⟩; refine ⟨?_, hb⟩; with_reducible rfl)); (simp only [Act.put, List.setIfInBounds_toArray, List.set_cons_zero, List.set_cons_succ])))
      intro w11 ⟨⟨hw11, _⟩, _⟩
      simp only [List.drop_succ_cons, List.drop_zero]
      have hb11 := hb25.trans (hw11.mono hb25.size)
      clear rN rF ks hdr
      go_wp2
      go_roundw
      case rel => exact ⟨j + 1, by omega, by go_num, hb11⟩
      case measure => simp [intOf]; omega
    · have hbw9 := hbw.trans (hbb.mono hbw.size)
      have hjn : ¬ (j : Int) + 1 < N := by omega
      go_wp2
      go_returns
      exact ⟨rfl, hbw9⟩
end Go.Proofs.YtckfgdohpmllmaaDoor
