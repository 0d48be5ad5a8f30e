/-
  The walk of laws.FnMaskedInOrder.
-/
import Derived.Test.YtckfgdohpmllmaaDoorSamePf
import Derived.Test.YtckfgdohpmllmaaDoorOrd
namespace Go.Proofs.YtckfgdohpmllmaaDoor
open Go Go.RowKit
theorem maskIs_valid {p : List UInt8 × Nat} (h : Vp p) : Vp (maskIs p) := ⟨by show isLen (wb p.1 p.2 false).length; rw [wb_len]; exact h.1, by show p.2 ≤ 8 * (wb p.1 p.2 false).length; rw [wb_len]; exact h.2⟩
theorem wb_self (a : List UInt8) (k : Nat) : wb (wb a k false) k false = wb a k false := (wb_top (wb_len _ _ _) k).2 (by rw [wb_len]; exact first_in a k)
theorem maskIs_le {a b : List UInt8 × Nat} (ha : Vp a) (hb : Vp b) (h : pkey a ≤ pkey b) : pkey (maskIs a) ≤ pkey (maskIs b) := by
  obtain ⟨h1, h2⟩ := pkey_le ha.k8 hb.k8 h
  have k1 := ha.k8
  have k2 := hb.k8
  unfold pkey maskIs
  simp only [wb_self]
  have l1 := key_lt (wb a.1 a.2 false)
  have l2 := key_lt (wb b.1 b.2 false)
  omega
theorem maskIs_same {a b : List UInt8 × Nat} : maskIs a = maskIs b ↔ a.2 = b.2 ∧ ovP a.1 a.2 b.1 b.2 = true := by
  unfold maskIs
  rw [Prod.mk.injEq, ovP_iff]
  constructor
  · rintro ⟨h1, h2⟩
    have hl : a.1.length = b.1.length := by have := congrArg List.length h1; rw [wb_len, wb_len] at this; exact this
    rw [← h2] at h1
    exact ⟨h2, hl, by rw [← h2, Nat.min_self]; exact (wb_top hl a.2).1 h1⟩
  · rintro ⟨h1, h2, h3⟩
    rw [← h1, Nat.min_self] at h3
    exact ⟨by rw [← h1]; exact (wb_top h2 a.2).2 h3, h1⟩
theorem mask_sorted {l : List (List UInt8 × Nat)} (hv : ∀ p ∈ l, Vp p) (h : l.Pairwise (fun a b => pkey a ≤ pkey b)) : (l.map maskIs).Pairwise (fun a b => pkey a ≤ pkey b) := by
  rw [List.pairwise_map]
  induction l with
  | nil => exact List.Pairwise.nil
  | cons a r ih =>
    rw [List.pairwise_cons] at h ⊢
    exact ⟨fun b hb => maskIs_le (hv a (by simp)) (hv b (by simp [hb])) (h.1 b hb), ih (fun p hp => hv p (by simp [hp])) h.2⟩
theorem sorted_is {es : List Pf} (h : es.Pairwise lePf) : (es.map Pf.is).Pairwise (fun a b => pkey a ≤ pkey b) := by rw [List.pairwise_map]; exact h
/-- What is in order stays as it is. -/
theorem SortOf.same {es es' : List Pf} (h : SortOf es es') (hv : ∀ e ∈ es, Vp e.is) (hs : (es.map Pf.is).Pairwise (fun a b => pkey a ≤ pkey b)) : es'.map Pf.is = es.map Pf.is :=
  sort_uniq _ _ (fun p hp => by obtain ⟨e, he, rfl⟩ := List.mem_map.1 hp; exact hv e (h.1.subset he)) (h.1.map _) (sorted_is h.2) hs
set_option maxRecDepth 100000 in
set_option maxHeartbeats 16000000 in
theorem maskO_walk (A : Option Addr) (n c : Nat) (es0 : List En) (B : Option Addr) (m d : Nat) (xs : List UInt8) (z : ZP) (w : World) (hz : Zs w z) (hl : RS w A n es0) (hn : n ≤ 1048576) (hx : RB w B m xs) (hm : m ≤ 140737488355328) :
    Calls Tryd.prog 14 #[.slice A n c, .slice B m d] w (TrueW w) := by
  have hval := madeZ_valid ((es0.map (·.bs)).zip xs)
  have hmlen : (madeZ ((es0.map (·.bs)).zip xs)).length ≤ n := Nat.le_trans (madeZ_len _) (by rw [List.length_zip, List.length_map, hl.1]; omega)
  go_enter Tryd.func14, Tryd.ntmps14
  go_wp2_with fail
  refine (made_c A n c es0 B m d xs w hl (by omega) hx (by omega)).mono ?_
  rintro e0 w1 ⟨v1, rfl, ⟨A1, c1, es, rfl, hown, hmap, hin⟩, hb1⟩
  rw [← hmap] at hval hmlen
  rw [List.length_map] at hmlen
  have hrp := RP.of_own hown rfl hin
  have hz1 := hz.keep hb1
  have hv : ∀ e ∈ es, Vp e.is := fun e he => hval e.is (List.mem_map_of_mem he)
  clear hown hmap hin hval
  go_wp2_with fail
  refine (sorted_c A1 es.length c1 es z w1 hz1 hrp hv (by omega)).mono ?_
  rintro e0 w2 ⟨A2, c2, fs, rfl, hown2, hsort, hb2⟩
  have hrp2 := hsort.rp hrp hb2 hown2
  have hv2 := hsort.all hv
  have hz2 := hz1.keep hb2
  have hbw := hb1.trans (hb2.mono hb1.size)
  obtain ⟨N, hN⟩ : ∃ N, N = es.length := ⟨_, rfl⟩
  rw [← hN] at hrp2 hmlen ⊢
  have hs2 := hsort.2
  clear hown2 hsort hv hrp hN hb1 hb2 hz1
  clear es
  have hNf := hrp2.1
  have hme := masked_each A2 N c2 fs z w2 hz2 hrp2 hv2 (by omega)
  unfold MaskPost at hme
  rw [hNf] at hme
  have HS := Lib.hid (And.intro hs2 (And.intro hv2 hNf))
  clear hNf hs2
  go_wp2_with fail
  refine hme.mono ?_
  rintro e0 w3 ⟨A3, c3, gs, rfl, hown3, hmap3, hin3, hb3⟩
  have hlg : gs.length = N := by have := congrArg List.length hmap3; simp only [List.length_map] at this; rw [this]; exact HS.out.2.2
  have hrp3 := mask_rp hown3 hlg hin3
  have hvg : ∀ e ∈ gs, Vp e.is := fun e he => by
    have : e.is ∈ gs.map Pf.is := List.mem_map_of_mem he
    rw [hmap3] at this
    obtain ⟨p, hp, h1⟩ := List.mem_map.1 this
    obtain ⟨q, hq, rfl⟩ := List.mem_map.1 hp
    rw [← h1]
    exact maskIs_valid (HS.out.2.1 q hq)
  have hsg : (gs.map Pf.is).Pairwise (fun a b => pkey a ≤ pkey b) := by
    rw [hmap3]
    exact mask_sorted (fun p hp => by obtain ⟨q, hq, rfl⟩ := List.mem_map.1 hp; exact HS.out.2.1 q hq) (sorted_is HS.out.1)
  have hz3 := hz2.keep hb3
  have hso := sorted_c A3 N c3 gs z w3 hz3 hrp3 hvg (by omega)
  unfold SortPost at hso
  rw [hlg] at hso
  have HG := Lib.hid (And.intro hmap3 (And.intro hvg (And.intro hsg hlg)))
  clear hme hown3 hmap3 hin3 hvg hsg hlg
  go_wp2_with fail
  refine hso.mono ?_
  rintro e0 w4 ⟨A4, c4, hs, rfl, hown4, hsort4, hb4⟩
  have hlh : hs.length = N := by rw [hsort4.1.length_eq]; exact HG.out.2.2.2
  have hrp4 : RP w4 A4 N hs := ⟨hlh, RC.of_own hown4, fun e he => ((hrp3.2.2 e (hsort4.1.subset he)).keep hb4)⟩
  have hsame := samePfs_c A4 A3 N c4 c3 hs gs w4 hrp4 (hrp3.keep hb4) (hsort4.all HG.out.2.1) (hsort4.same HG.out.2.1 HG.out.2.2.1) (by omega)
  clear hso hown4 hsort4 hlh hrp4
  go_wp2_with fail
  refine hsame.mono ?_
  rintro e0 w5 ⟨rfl, hb5⟩
  have hb35 := hb4.trans (hb5.mono hb4.size)
  have hb25 := hb3.trans (hb35.mono hb3.size)
  have hr2 := hrp2.keep hb25
  have hr3 := hrp3.keep hb35
  have hz5 := hz3.keep hb35
  have hbw5 := hbw.trans (hb25.mono hbw.size)
  clear hsame hb4 hb5 hb35 hb25 hb3 hrp2 hrp3 hz2 hz3 hbw
  go_wp2_with fail
  go_loopw [7] (fun i wr => ∃ (j : Nat), (j < N ∨ j = 0) ∧ i = .int .i64 ((j + 1 : Nat) : Int) ∧ Below w5.heap.size w5 wr) (fun i _ => N - (intOf i).toNat)
  case atStart => exact ⟨0, .inr rfl, rfl, Below.refl _ _⟩
  case round =>
    obtain ⟨j, hj, rfl, hbb⟩ := hrel
    by_cases hlt : j + 1 < N
    · obtain ⟨g, o, e, hA, hg, hek, hc0, hc1, hc2, hbe⟩ := (hr2.keep hbb).at (i := j) (by omega)
      subst hA
      obtain ⟨g', o', f, hA', hg', hfk, hd0, hd1, hd2, hbf⟩ := (hr2.keep hbb).at (i := j + 1) hlt
      injection hA' with hA'
      injection hA' with hA1 hA2
      subst hA1 hA2
      obtain ⟨h, q, e', hB, hh, hek', he0, he1, he2, hbe'⟩ := (hr3.keep hbb).at (i := j) (by omega)
      subst hB
      obtain ⟨h', q', f', hB', hh', hfk', hf0, hf1, hf2, hbf'⟩ := (hr3.keep hbb).at (i := j + 1) hlt
      injection hB' with hB'
      injection hB' with hB1 hB2
      subst hB1 hB2
      have hve := HS.out.2.1 e (List.mem_of_getElem? hek)
      have hvf := HS.out.2.1 f (List.mem_of_getElem? hfk)
      have ise : e'.is = maskIs e.is := by
        have h3 : (gs.map Pf.is)[j]? = some e'.is := by rw [List.getElem?_map, hek']; rfl
        rw [HG.out.1, List.getElem?_map, List.getElem?_map, hek] at h3
        injection h3 with h3
        exact h3.symm
      have isf : f'.is = maskIs f.is := by
        have h3 : (gs.map Pf.is)[j + 1]? = some f'.is := by rw [List.getElem?_map, hfk']; rfl
        rw [HG.out.1, List.getElem?_map, List.getElem?_map, hfk] at h3
        injection h3 with h3
        exact h3.symm
      have hen : e'.n ≤ 9223372036854775807 := by
        have h5 := (HG.out.2.1 e' (List.mem_of_getElem? hek')).1
        rw [← hbe'.1]; unfold isLen at h5; simp only [Pf.is] at h5; omega
      have k1 := fun w' (hb : Below wr.heap.size wr w') => samePf_c e'.a f'.a e'.n f'.n e'.c f'.c e'.bs f'.bs e'.k f'.k w' (hbe'.keep hb) (hbf'.keep hb) hen
      have k2 := fun w' (hb : Below wr.heap.size wr w') => overlaps_c e.a f.a e.n f.n e.c f.c e.bs f.bs e.k f.k z w' ((hz5.keep hbb).keep hb) (hbe.keep hb) (hbf.keep hb) hve.1 hve.2 hvf.1 hvf.2
      have hxy : decide ((e'.bs, e'.k) = (f'.bs, f'.k)) = (decide (e.k = f.k) && ovP e.bs e.k f.bs f.k) := by
        rw [show (e'.bs, e'.k) = maskIs e.is from ise, show (f'.bs, f'.k) = maskIs f.is from isf, Bool.eq_iff_iff, decide_eq_true_eq, maskIs_same, Bool.and_eq_true, decide_eq_true_eq]
        rfl
      simp only [hxy] at k1
      have rE : ∀ w', Below wr.heap.size wr w' → w'.cell? ⟨g, o + j * 3, none⟩ = some (.slice e.a e.n e.c) ∧ w'.cell? ⟨g, o + j * 3 + 1, none⟩ = some (.string ⟨#[]⟩) ∧ w'.cell? ⟨g, o + j * 3 + 2, none⟩ = some (.int .i64 e.k) ∧ w'.cell? ⟨g, o + (j + 1) * 3, none⟩ = some (.slice f.a f.n f.c) ∧ w'.cell? ⟨g, o + (j + 1) * 3 + 1, none⟩ = some (.string ⟨#[]⟩) ∧ w'.cell? ⟨g, o + (j + 1) * 3 + 2, none⟩ = some (.int .i64 f.k) := fun w' hb =>
        ⟨(hb.cell (p := ⟨g, o + j * 3, none⟩) hg).trans hc0, (hb.cell (p := ⟨g, o + j * 3 + 1, none⟩) hg).trans hc1, (hb.cell (p := ⟨g, o + j * 3 + 2, none⟩) hg).trans hc2, (hb.cell (p := ⟨g, o + (j + 1) * 3, none⟩) hg).trans hd0, (hb.cell (p := ⟨g, o + (j + 1) * 3 + 1, none⟩) hg).trans hd1, (hb.cell (p := ⟨g, o + (j + 1) * 3 + 2, none⟩) hg).trans hd2⟩
      have rF : ∀ w', Below wr.heap.size wr w' → w'.cell? ⟨h, q + j * 3, none⟩ = some (.slice e'.a e'.n e'.c) ∧ w'.cell? ⟨h, q + j * 3 + 1, none⟩ = some (.string ⟨#[]⟩) ∧ w'.cell? ⟨h, q + j * 3 + 2, none⟩ = some (.int .i64 e'.k) ∧ w'.cell? ⟨h, q + (j + 1) * 3, none⟩ = some (.slice f'.a f'.n f'.c) ∧ w'.cell? ⟨h, q + (j + 1) * 3 + 1, none⟩ = some (.string ⟨#[]⟩) ∧ w'.cell? ⟨h, q + (j + 1) * 3 + 2, none⟩ = some (.int .i64 f'.k) := fun w' hb =>
        ⟨(hb.cell (p := ⟨h, q + j * 3, none⟩) hh).trans he0, (hb.cell (p := ⟨h, q + j * 3 + 1, none⟩) hh).trans he1, (hb.cell (p := ⟨h, q + j * 3 + 2, none⟩) hh).trans he2, (hb.cell (p := ⟨h, q + (j + 1) * 3, none⟩) hh).trans hf0, (hb.cell (p := ⟨h, q + (j + 1) * 3 + 1, none⟩) hh).trans hf1, (hb.cell (p := ⟨h, q + (j + 1) * 3 + 2, none⟩) hh).trans hf2⟩
      have q1 : (0 : Int) ≤ j ∧ (j : Int) < N := by omega
      have q2 : (0 : Int) ≤ (j : Int) + 1 ∧ (j : Int) + 1 < N := by omega
      have q3 : ((j : Int) + 1).toNat = j + 1 := by omega
      have q4 : IntKind.i64.wrap (j : Int) = j := by rw [IntKind.wrap_i64]; omega
      have HQ := Lib.hid (And.intro q1 (And.intro q2 (And.intro q3 q4)))
      have hdr : Below wr.heap.size wr wr.drew := ⟨rfl, rfl, rfl, Nat.le_refl _, fun _ _ => rfl⟩
      obtain ⟨y, hy⟩ : ∃ y, y = ovP e.bs e.k f.bs f.k := ⟨_, rfl⟩
      simp only [← hy] at k1 k2
      clear hek hfk hek' hfk' ise isf hxy hc0 hc1 hc2 hd0 hd1 hd2 he0 he1 he2 hf0 hf1 hf2 q1 q2 q3 q4 hy
      by_cases hkk : e.k = f.k
      · have hkk1 : decide (e.k = f.k) = true := by simpa using hkk
        simp only [hkk1, Bool.true_and] at k1
        have hkk2 : ((e.k : Int) == f.k) = true ∧ (e.k == f.k) = true := by simp [hkk]
        have HK := Lib.hid hkk2
        clear hkk hkk1 hkk2
        go_wp2_with fail
        refine region_pick (Below wr.heap.size wr) [(0, false, none), (1, false, none), (2, false, none), (3, false, none), (4, false, none), (5, false, none), (6, false, none), (7, false, none), (8, false, none), (9, false, none), (10, false, none), (11, false, none), (12, false, none), (13, false, none), (14, false, none), (15, false, none), (16, false, none), (17, false, none), (18, false, none), (19, false, none), (20, false, none), (21, false, none), (22, false, none), (23, false, none), (24, false, none), (25, false, none), (26, false, none), (27, false, none), (28, false, none), (29, false, none), (30, false, none), (31, false, none), (32, false, none), (33, false, none), (34, false, none)] 35 (by kernel_rfl) (by kernel_rfl) (fun w w' h hb => h.trans (hb.mono h.size)) (hdr) ?_
        simp only [pickOps, List.getElem?_cons_zero, List.getElem?_cons_succ]
        repeat (first | (refine t_skip rfl ?_; (simp only [Act.put, List.setIfInBounds_toArray, List.set_cons_zero, List.set_cons_succ])) | (refine t_run ?_ rfl (fun w1 hw1 => ?_) ?_; rotate_left; (have r0 := (rE w1 hw1).1; have r1 := (rE w1 hw1).2.1; have r2 := (rE w1 hw1).2.2.1; have r3 := (rE w1 hw1).2.2.2.1; have r4 := (rE w1 hw1).2.2.2.2.1; have r5 := (rE w1 hw1).2.2.2.2.2; have r6 := (rF w1 hw1).1; have r7 := (rF w1 hw1).2.1; have r8 := (rF w1 hw1).2.2.1; have r9 := (rF w1 hw1).2.2.2.1; have r10 := (rF w1 hw1).2.2.2.2.1; have r11 := (rF w1 hw1).2.2.2.2.2; have r12 := HQ.out.1; have r13 := HQ.out.2.1; have r14 := HQ.out.2.2.1; have r15 := HQ.out.2.2.2; have r16 := HK.out.1; have r17 := HK.out.2; go_simp; try (with_reducible rfl)); (simp only [Act.put, List.setIfInBounds_toArray, List.set_cons_zero, List.set_cons_succ])) | (refine t_call ?_ ?_ ?_ rfl (fun w1 hw1 => ?_) (fun w1 hw1 => ?_) ?_; rotate_left 3; (have r0 := (rE w1 hw1).1; have r1 := (rE w1 hw1).2.1; have r2 := (rE w1 hw1).2.2.1; have r3 := (rE w1 hw1).2.2.2.1; have r4 := (rE w1 hw1).2.2.2.2.1; have r5 := (rE w1 hw1).2.2.2.2.2; have r6 := (rF w1 hw1).1; have r7 := (rF w1 hw1).2.1; have r8 := (rF w1 hw1).2.2.1; have r9 := (rF w1 hw1).2.2.2.1; have r10 := (rF w1 hw1).2.2.2.2.1; have r11 := (rF w1 hw1).2.2.2.2.2; have r12 := HQ.out.1; have r13 := HQ.out.2.1; have r14 := HQ.out.2.2.1; have r15 := HQ.out.2.2.2; have r16 := HK.out.1; have r17 := HK.out.2; go_simp; refine ⟨?_, ?_⟩ <;> with_reducible rfl); (first | (go_at_call 34; (with_reducible refine (k1 w1 hw1).mono ?_); rintro e w2 ⟨rfl, hb⟩; refine ⟨?_, hb⟩; with_reducible rfl) | (go_at_call 29; (with_reducible refine (k2 w1 hw1).mono ?_); rintro e w2 ⟨rfl, hb⟩; refine ⟨?_, hb⟩; with_reducible rfl) | (go_at_call 34; (refine (k1 w1 hw1).mono ?_); rintro e w2 ⟨rfl, hb⟩; refine ⟨?_, hb⟩; with_reducible rfl) | (go_at_call 29; (refine (k2 w1 hw1).mono ?_); rintro e w2 ⟨rfl, hb⟩; refine ⟨?_, hb⟩; with_reducible rfl)); (simp only [Act.put, List.setIfInBounds_toArray, List.set_cons_zero, List.set_cons_succ])))
        intro w9 hw9
        simp only [List.drop_succ_cons, List.drop_zero]
        have hb9 := hbb.trans (hw9.mono hbb.size)
        clear rE rF k1 k2 hdr
        cases y
        all_goals
          go_wp2
          go_roundw
          case rel => exact ⟨j + 1, by omega, by go_num, hb9⟩
          case measure => simp [intOf]; omega
      · have hkk1 : decide (e.k = f.k) = false := by simpa using hkk
        simp only [hkk1, Bool.false_and] at k1
        have hkk2 : ((e.k : Int) == f.k) = false ∧ (e.k == f.k) = false := by simp; omega
        have HK := Lib.hid hkk2
        clear hkk hkk1 hkk2
        go_wp2_with fail
        refine region_pick (Below wr.heap.size wr) [(0, false, none), (1, false, none), (2, false, none), (3, false, none), (4, false, none), (5, false, none), (6, false, none), (7, false, none), (8, false, none), (9, false, none), (10, false, none), (11, false, none), (12, false, none), (13, false, none), (14, false, none), (15, false, none), (16, false, none), (17, false, none), (18, false, none), (19, false, none), (20, false, none), (21, false, none), (22, false, none), (23, false, none), (24, false, none), (25, false, none), (26, false, none), (27, false, none), (28, false, none), (29, false, none), (30, false, none), (31, false, none), (32, false, none), (33, false, none), (34, false, none)] 35 (by kernel_rfl) (by kernel_rfl) (fun w w' h hb => h.trans (hb.mono h.size)) (hdr) ?_
        simp only [pickOps, List.getElem?_cons_zero, List.getElem?_cons_succ]
        repeat (first | (refine t_skip rfl ?_; (simp only [Act.put, List.setIfInBounds_toArray, List.set_cons_zero, List.set_cons_succ])) | (refine t_run ?_ rfl (fun w1 hw1 => ?_) ?_; rotate_left; (have r0 := (rE w1 hw1).1; have r1 := (rE w1 hw1).2.1; have r2 := (rE w1 hw1).2.2.1; have r3 := (rE w1 hw1).2.2.2.1; have r4 := (rE w1 hw1).2.2.2.2.1; have r5 := (rE w1 hw1).2.2.2.2.2; have r6 := (rF w1 hw1).1; have r7 := (rF w1 hw1).2.1; have r8 := (rF w1 hw1).2.2.1; have r9 := (rF w1 hw1).2.2.2.1; have r10 := (rF w1 hw1).2.2.2.2.1; have r11 := (rF w1 hw1).2.2.2.2.2; have r12 := HQ.out.1; have r13 := HQ.out.2.1; have r14 := HQ.out.2.2.1; have r15 := HQ.out.2.2.2; have r16 := HK.out.1; have r17 := HK.out.2; go_simp; try (with_reducible rfl)); (simp only [Act.put, List.setIfInBounds_toArray, List.set_cons_zero, List.set_cons_succ])) | (refine t_call ?_ ?_ ?_ rfl (fun w1 hw1 => ?_) (fun w1 hw1 => ?_) ?_; rotate_left 3; (have r0 := (rE w1 hw1).1; have r1 := (rE w1 hw1).2.1; have r2 := (rE w1 hw1).2.2.1; have r3 := (rE w1 hw1).2.2.2.1; have r4 := (rE w1 hw1).2.2.2.2.1; have r5 := (rE w1 hw1).2.2.2.2.2; have r6 := (rF w1 hw1).1; have r7 := (rF w1 hw1).2.1; have r8 := (rF w1 hw1).2.2.1; have r9 := (rF w1 hw1).2.2.2.1; have r10 := (rF w1 hw1).2.2.2.2.1; have r11 := (rF w1 hw1).2.2.2.2.2; have r12 := HQ.out.1; have r13 := HQ.out.2.1; have r14 := HQ.out.2.2.1; have r15 := HQ.out.2.2.2; have r16 := HK.out.1; have r17 := HK.out.2; go_simp; refine ⟨?_, ?_⟩ <;> with_reducible rfl); (first | (go_at_call 34; (with_reducible refine (k1 w1 hw1).mono ?_); rintro e w2 ⟨rfl, hb⟩; refine ⟨?_, hb⟩; with_reducible rfl) | (go_at_call 29; (with_reducible refine (k2 w1 hw1).mono ?_); rintro e w2 ⟨rfl, hb⟩; refine ⟨?_, hb⟩; with_reducible rfl) | (go_at_call 34; (refine (k1 w1 hw1).mono ?_); rintro e w2 ⟨rfl, hb⟩; refine ⟨?_, hb⟩; with_reducible rfl) | (go_at_call 29; (refine (k2 w1 hw1).mono ?_); rintro e w2 ⟨rfl, hb⟩; refine ⟨?_, hb⟩; with_reducible rfl)); (simp only [Act.put, List.setIfInBounds_toArray, List.set_cons_zero, List.set_cons_succ])))
        intro w9 hw9
        simp only [List.drop_succ_cons, List.drop_zero]
        have hb9 := hbb.trans (hw9.mono hbb.size)
        clear rE rF k1 k2 hdr
        go_wp2
        go_roundw
        case rel => exact ⟨j + 1, by omega, by go_num, hb9⟩
        case measure => simp [intOf]; omega
    · have hbw9 := hbw5.trans (hbb.mono hbw5.size)
      have hjn : ¬ (j : Int) + 1 < N := by omega
      go_wp2
      go_returns
      exact ⟨rfl, hbw9⟩
end Go.Proofs.YtckfgdohpmllmaaDoor
