/-
  Contract of Prefix.Overlaps at valid prefixes.
-/
import Derived.Test.YtckfgdohpmllmaaDoorOver
namespace Go.Proofs.YtckfgdohpmllmaaDoor
open Go Go.RowKit
theorem pfBits2_c (h l : Int) (P : Option Addr) (b : Nat) (hb : b ≤ 128) (w : World) :
    Calls Tryd.prog 62 #[.agg #[.int .u64 h, .int .u64 l, .pointer P, .int .u8 ((b : Int) + 1)]] w fun e w' => e = .returned (.int .i64 b) ∧ Below w.heap.size w w' := by
  have := pfBits_c h l P b hb w
  rwa [Int.natCast_add] at this
/-- What Overlaps says. -/
def ovP (p : List UInt8) (k : Nat) (q : List UInt8) (j : Nat) : Bool := decide (p.length = q.length ∧ Lib.beNat p / 2 ^ (8 * p.length - min k j) = Lib.beNat q / 2 ^ (8 * p.length - min k j))
/-- Two handles are the same. -/
theorem eqz (k k' : Option Bool) (z : ZP) (w : World) (d : Nat) (hne : apart2 z.b4 z.o4 z.b6 z.o6 = true) (hne' : apart2 z.b6 z.o6 z.b4 z.o4 = true) (p4 : plainAt w z.b4 = true) (p6 : plainAt w z.b6 = true) :
    (Op.equalIn (d + 1) 69 (.pointer (z.ptr k)) (.pointer (z.ptr k'))).run Tryd.prog w = .ok (decide (k = k')) w := by
  rcases k with _ | _ | _ <;> rcases k' with _ | _ | _ <;> simp only [ptr0, ptr4, ptr6]
  · rw [eqp_nil]; rfl
  · rw [eqp_nil']; rfl
  · rw [eqp_nil']; rfl
  · rw [eqp_nil]; rfl
  · rw [eqp_same]; rfl
  · rw [eqp_other _ _ _ _ _ _ hne p4 p6]; rfl
  · rw [eqp_nil]; rfl
  · rw [eqp_other _ _ _ _ _ _ hne' p6 p4]; rfl
  · rw [eqp_same]; rfl
theorem ad_inj {a b : List UInt8} (ha : isLen a.length) (hl : a.length = b.length) (h1 : (adOf a).h = (adOf b).h) (h2 : (adOf a).l = (adOf b).l) : a = b := by
  apply beNat_inj a.length _ _ rfl hl.symm
  rcases ha with h | h
  · rw [ad4 h, ad4 (hl ▸ h)] at h2
    simp only at h2
    omega
  · rw [ad16 h, ad16 (hl ▸ h)] at h1 h2
    simp only at h1 h2
    omega
theorem k_len {a b : List UInt8} (ha : isLen a.length) (hb : isLen b.length) : ((adOf a).k = some false ↔ a.length = 4) ∧ ((adOf a).k = (adOf b).k ↔ a.length = b.length) := by
  rcases ha with h | h <;> rcases hb with h' | h'
  · rw [ad4 h, ad4 h', h, h']; simp
  · rw [ad4 h, ad16 h', h, h']; simp
  · rw [ad16 h, ad4 h', h, h']; simp
  · rw [ad16 h, ad16 h', h, h']; simp
theorem wb_top {a b : List UInt8} (hl : a.length = b.length) (m : Nat) : (wb a m false = wb b m false) ↔ Lib.beNat a / 2 ^ (8 * a.length - m) = Lib.beNat b / 2 ^ (8 * a.length - m) := by
  constructor
  · intro h
    have h1 := first_in a m
    have h2 := first_in b m
    rw [h, hl] at h1
    rw [hl, ← h1, ← h2]
  · intro h
    unfold wb wbN
    rw [← hl, h]
theorem ov_zero {p q : List UInt8} {k j : Nat} (hl : p.length = q.length) (h : min k j = 0) : ovP p k q j = true := by
  unfold ovP
  rw [h, decide_eq_true_eq]
  refine ⟨hl, ?_⟩
  have h1 := beNat_lt p
  have h2 := beNat_lt q
  rw [pow256] at h1 h2
  rw [Nat.sub_zero, Nat.div_eq_of_lt h1, Nat.div_eq_of_lt (by rw [hl]; exact h2)]
/-- What the code of Overlaps sees. -/
theorem ov_self (p : List UInt8) (k : Nat) : ovP p k p k = true := by unfold ovP; simp
set_option maxRecDepth 100000 in
set_option maxHeartbeats 16000000 in
theorem pfOverlaps_c (p q : List UInt8) (k j : Nat) (z : ZP) (w : World) (hz : Zs w z) (hp : isLen p.length) (hk : k ≤ 8 * p.length) (hq : isLen q.length) (hj : j ≤ 8 * q.length) :
    Calls Tryd.prog 47 #[.agg #[.int .u64 (adOf p).h, .int .u64 (adOf p).l, .pointer (z.ptr (adOf p).k), .int .u8 ((k + 1 : Nat) : Int)], .agg #[.int .u64 (adOf q).h, .int .u64 (adOf q).l, .pointer (z.ptr (adOf q).k), .int .u8 ((j + 1 : Nat) : Int)]] w fun e w' => e = .returned (.bool (ovP p k q j)) ∧ Below w.heap.size w w' := by
  have hT0 := twoB w 75 75 #[.int .u64 (adOf p).h, .int .u64 (adOf p).l, .pointer (z.ptr (adOf p).k), .int .u8 ((k + 1 : Nat) : Int)] #[.int .u64 (adOf q).h, .int .u64 (adOf q).l, .pointer (z.ptr (adOf q).k), .int .u8 ((j + 1 : Nat) : Int)]
  obtain ⟨l1, l2⟩ := k_len hp hq
  obtain ⟨l1', -⟩ := k_len hq hp
  have hk128 : k ≤ 128 := by unfold isLen at hp; omega
  have hj128 : j ≤ 128 := by unfold isLen at hq; omega
  obtain ⟨r, hr⟩ : ∃ r, r = ovP p k q j := ⟨_, rfl⟩
  rw [← hr]
  have HR := Lib.hid hr
  have HL := Lib.hid (And.intro l1 (And.intro l2 l1'))
  have HPQ := Lib.hid (And.intro hp (And.intro hk (And.intro hq hj)))
  clear hr l1 l2 l1' hp hk hq hj
  have hadp := fun m (hm : m ≤ 8 * p.length) w hz => aPrefix_c p m z w hz HPQ.out.1 hm
  have hadq := fun m (hm : m ≤ 8 * q.length) w hz => aPrefix_c q m z w hz HPQ.out.2.2.1 hm
  have hinj : p.length = q.length → (adOf p).h = (adOf q).h → (adOf p).l = (adOf q).l → p = q := fun h => ad_inj HPQ.out.1 h
  have hinjw : ∀ m, p.length = q.length → (adOf (wb p m false)).h = (adOf (wb q m false)).h → (adOf (wb p m false)).l = (adOf (wb q m false)).l → wb p m false = wb q m false := fun m h => ad_inj (by rw [wb_len]; exact HPQ.out.1) (by rw [wb_len, wb_len]; exact h)
  have HAD := Lib.hid (And.intro hadp (And.intro hadq (And.intro hinj hinjw)))
  clear hadp hadq hinj hinjw
  generalize (adOf p).h = ph at *
  generalize (adOf p).l = pl at *
  generalize (adOf p).k = pk at *
  generalize (adOf q).h = qh at *
  generalize (adOf q).l = ql at *
  generalize (adOf q).k = qk at *
  go_enter Tryd.func47, Tryd.ntmps47
  go_wp2_with fail
  refine (pfValid_c _ _ _ _ _).mono ?_
  rintro e w1 ⟨rfl, hb1⟩
  have hT1 := hT0.keep hb1
  have c1 := hT1.b1.cell
  clear hT0 hb1
  go_wp2_with fail
  refine (pfValid_c _ _ _ _ _).mono ?_
  rintro e w2 ⟨rfl, hb2⟩
  have hT2 := hT1.keep hb2
  clear hT1 hb2 c1
  have hz2 := hz.keep hT2.below
  by_cases hall : ph = qh ∧ pl = ql ∧ pk = qk ∧ k = j
  · obtain ⟨rfl, rfl, rfl, rfl⟩ := hall
    have hpq : p = q := HAD.out.2.2.1 (HL.out.2.1.1 rfl) rfl rfl
    subst hpq
    have hr := HR.out
    rw [ov_self] at hr
    subst hr
    have c0 := hT2.b0.cell
    have c1 := hT2.b1.cell
    have he := fun d => eqz pk pk z w2 d hz2.ne hz2.ne' hz2.p4 hz2.p6
    simp only [decide_true] at he
    have bb := hT2.below
    go_wp2
    go_returns
    exact ⟨rfl, bb⟩
  · have c0 := hT2.b0.cell
    have c1 := hT2.b1.cell
    have he := fun d => eqz pk qk z w2 d hz2.ne hz2.ne' hz2.p4 hz2.p6
    have hcase : (¬ ph = qh) ∨ (ph = qh ∧ ¬ pl = ql) ∨ (ph = qh ∧ pl = ql ∧ ¬ pk = qk) ∨ (ph = qh ∧ pl = ql ∧ pk = qk ∧ ¬ k = j) := by
      by_cases a1 : ph = qh
      · by_cases a2 : pl = ql
        · by_cases a3 : pk = qk
          · exact Or.inr (Or.inr (Or.inr ⟨a1, a2, a3, fun a4 => hall ⟨a1, a2, a3, a4⟩⟩))
          · exact Or.inr (Or.inr (Or.inl ⟨a1, a2, a3⟩))
        · exact Or.inr (Or.inl ⟨a1, a2⟩)
      · exact Or.inl a1
    clear hall
    rcases hcase with a1 | ⟨rfl, a2⟩ | ⟨rfl, rfl, a3⟩ | ⟨rfl, rfl, rfl, a4⟩
    · have b1 : ((ph : Int) == qh) = false := by simp; omega
      have b2 : (ph == qh) = false := by simpa using a1
      go_wp2_with fail
      clear b1 b2 a1
      clear c0 c1 he
      refine region_all (TwoB w 75 75 #[.int .u64 ph, .int .u64 pl, .pointer (z.ptr pk), .int .u8 ((k + 1 : Nat) : Int)] #[.int .u64 qh, .int .u64 ql, .pointer (z.ptr qk), .int .u8 ((j + 1 : Nat) : Int)]) (by kernel_rfl) (by kernel_rfl) (hT2.drew) ?_
      repeat (first | (refine quiet_skip rfl ?_; (simp only [Act.put, List.setIfInBounds_toArray, List.set_cons_zero, List.set_cons_succ])) | (refine quiet_run ?_ rfl (fun w1 hw1 => ?_) ?_; rotate_left; (have r0 := hw1.b0.cell; have r1 := hw1.b1.cell; go_simp; try (with_reducible rfl)); (simp only [Act.put, List.setIfInBounds_toArray, List.set_cons_zero, List.set_cons_succ])) | (refine quiet_call ?_ ?_ ?_ rfl (fun w1 hw1 => ?_) (fun w1 hw1 => ?_) ?_; rotate_left 3; (have r0 := hw1.b0.cell; have r1 := hw1.b1.cell; go_simp; refine ⟨?_, ?_⟩ <;> with_reducible rfl); (first | (go_at_call 64; (with_reducible refine (is4_c _ _ _ z w1 (hz.keep hw1.below)).mono ?_); rintro e w2 ⟨rfl, hb⟩; refine ⟨?_, hw1.keep hb⟩; with_reducible rfl) | (go_at_call 64; (refine (is4_c _ _ _ z w1 (hz.keep hw1.below)).mono ?_); rintro e w2 ⟨rfl, hb⟩; refine ⟨?_, hw1.keep hb⟩; with_reducible rfl)); (simp only [Act.put, List.setIfInBounds_toArray, List.set_cons_zero, List.set_cons_succ])))
      refine wpQuiet_nil ?_
      intro w3 hw3
      clear hT2 hz2
      by_cases hlen : p.length = q.length
      · have hpk : pk = qk := HL.out.2.1.2 hlen
        have hk := HPQ.out.2.1
        have hj := HPQ.out.2.2.2
        have hf : (!((pk == some false) == (qk == some false))) = false := by rw [hpk]; simp
        rw [hf]
        have HPK := Lib.hid hpk
        clear hpk
        go_wp2_with fail
        clear hf
        refine region_all (TwoB w 75 75 #[.int .u64 ph, .int .u64 pl, .pointer (z.ptr pk), .int .u8 ((k + 1 : Nat) : Int)] #[.int .u64 qh, .int .u64 ql, .pointer (z.ptr qk), .int .u8 ((j + 1 : Nat) : Int)]) (by kernel_rfl) (by kernel_rfl) (hw3.drew) ?_
        repeat (first | (refine quiet_skip rfl ?_; (simp only [Act.put, List.setIfInBounds_toArray, List.set_cons_zero, List.set_cons_succ])) | (refine quiet_run ?_ rfl (fun w1 hw1 => ?_) ?_; rotate_left; (have r0 := hw1.b0.cell; have r1 := hw1.b1.cell; go_simp; try (with_reducible rfl)); (simp only [Act.put, List.setIfInBounds_toArray, List.set_cons_zero, List.set_cons_succ])) | (refine quiet_call ?_ ?_ ?_ rfl (fun w1 hw1 => ?_) (fun w1 hw1 => ?_) ?_; rotate_left 3; (have r0 := hw1.b0.cell; have r1 := hw1.b1.cell; go_simp; refine ⟨?_, ?_⟩ <;> with_reducible rfl); (first | (go_at_call 62; (with_reducible refine (pfBits2_c _ _ _ k hk128 w1).mono ?_); rintro e w2 ⟨rfl, hb⟩; refine ⟨?_, hw1.keep hb⟩; with_reducible rfl) | (go_at_call 62; (with_reducible refine (pfBits2_c _ _ _ j hj128 w1).mono ?_); rintro e w2 ⟨rfl, hb⟩; refine ⟨?_, hw1.keep hb⟩; with_reducible rfl) | (go_at_call 62; (refine (pfBits2_c _ _ _ k hk128 w1).mono ?_); rintro e w2 ⟨rfl, hb⟩; refine ⟨?_, hw1.keep hb⟩; with_reducible rfl) | (go_at_call 62; (refine (pfBits2_c _ _ _ j hj128 w1).mono ?_); rintro e w2 ⟨rfl, hb⟩; refine ⟨?_, hw1.keep hb⟩; with_reducible rfl)); (simp only [Act.put, List.setIfInBounds_toArray, List.set_cons_zero, List.set_cons_succ])))
        refine wpQuiet_nil ?_
        intro w4 hw4
        clear hw3
        by_cases hkj : k < j
        · skip
          by_cases hm0 : k = 0
          · have hr := HR.out
            rw [ov_zero hlen (by omega)] at hr
            subst hr
            have d1 : ((k : Int) == 0) = true := by simp [hm0]
            have d2 : (k == 0) = true := by simpa using hm0
            have b4 := hw4.below
            go_wp2
            go_returns
            exact ⟨rfl, b4⟩
          · have d1 : ((k : Int) == 0) = false := by simp; omega
            have d2 : (k == 0) = false := by simpa using hm0
            have c4 := hw4.b0.cell
            go_wp2_with fail
            refine (HAD.out.1 k (by omega) w4 (hz.keep hw4.below)).mono ?_
            rintro e w5 ⟨rfl, hb5⟩
            have hT5 := hw4.keep hb5
            have hmn : min k j = k := by omega
            obtain ⟨mh, hmh⟩ : ∃ x, x = (adOf (wb p k false)).h := ⟨_, rfl⟩
            obtain ⟨ml, hml⟩ : ∃ x, x = (adOf (wb p k false)).l := ⟨_, rfl⟩
            rw [← hmh, ← hml]
            have HM := Lib.hid (And.intro hmh hml)
            clear hmh hml hb5 c4 hw4
            have c5 := hT5.b0.cell
            have f5 := hT5.b0.free
            have l5 := hT5.b0.lt
            have d5 := hT5.b1.cell
            have hT6 := (((hT5.set0 0 (.int .u64 mh)).set0 1 (.int .u64 ml)).set0 2 (.pointer (z.ptr pk))).set0 3 (.int .u8 ((k : Int) + 1))
            simp only [List.setIfInBounds_toArray, List.set_cons_zero, List.set_cons_succ] at hT6
            go_wp2_with fail
            generalize (((w5.setCell ⟨w.heap.size, 0, none⟩ (.int .u64 mh)).setCell ⟨w.heap.size, 1, none⟩ (.int .u64 ml)).setCell ⟨w.heap.size, 2, none⟩ (.pointer (z.ptr pk))).setCell ⟨w.heap.size, 3, none⟩ (.int .u8 ((k : Int) + 1)) = w6 at *
            clear c5 f5 l5 d5 hT5
            refine (HAD.out.2.1 k (by omega) w6 (hz.keep hT6.below)).mono ?_
            rintro e w7 ⟨rfl, hb7⟩
            have hT7 := hT6.keep hb7
            obtain ⟨nh, hnh⟩ : ∃ x, x = (adOf (wb q k false)).h := ⟨_, rfl⟩
            obtain ⟨nl, hnl⟩ : ∃ x, x = (adOf (wb q k false)).l := ⟨_, rfl⟩
            rw [← hnh, ← hnl]
            have HN := Lib.hid (And.intro hnh hnl)
            clear hnh hnl hb7 hT6
            have c7 := hT7.b1.cell
            have f7 := hT7.b1.free
            have l7 := hT7.b1.lt
            have hT8 := (((hT7.set1 0 (.int .u64 nh)).set1 1 (.int .u64 nl)).set1 2 (.pointer (z.ptr qk))).set1 3 (.int .u8 ((k : Int) + 1))
            simp only [List.setIfInBounds_toArray, List.set_cons_zero, List.set_cons_succ] at hT8
            have hz8 := hz.keep hT8.below
            have b8 := hT8.below
            have e0 := hT8.b0.cell
            have e1 := hT8.b1.cell
            have he8 := fun d => eqz pk qk z _ d hz8.ne hz8.ne' hz8.p4 hz8.p6
            rw [show decide (pk = qk) = true from decide_eq_true HPK.out] at he8
            have HT8 := Lib.hid hT8
            clear hT8 hz8 hT7
            have hcmp : (mh = nh ∧ ml = nl ∧ r = true) ∨ (¬ mh = nh ∧ r = false) ∨ (mh = nh ∧ ¬ ml = nl ∧ r = false) := by
              have hr := HR.out
              unfold ovP at hr
              rw [hmn] at hr
              by_cases ht : wb p k false = wb q k false
              · refine Or.inl ⟨?_, ?_, ?_⟩
                · rw [HM.out.1, HN.out.1, ht]
                · rw [HM.out.2, HN.out.2, ht]
                · rw [hr, decide_eq_true_eq]; exact ⟨hlen, (wb_top hlen k).1 ht⟩
              · have hrf : r = false := by rw [hr, decide_eq_false_iff_not]; intro h; exact ht ((wb_top hlen k).2 h.2)
                by_cases hh : mh = nh
                · refine Or.inr (Or.inr ⟨hh, fun h => ht (HAD.out.2.2.2 k hlen ?_ ?_), hrf⟩)
                  · rw [← HM.out.1, ← HN.out.1]; exact hh
                  · rw [← HM.out.2, ← HN.out.2]; exact h
                · exact Or.inr (Or.inl ⟨hh, hrf⟩)
            rcases hcmp with ⟨rfl, rfl, rfl⟩ | ⟨hh, rfl⟩ | ⟨rfl, hh, rfl⟩
            · go_wp2
              go_returns
              exact ⟨rfl, b8⟩
            · have g1 : ((mh : Int) == nh) = false := by simp; omega
              have g2 : (mh == nh) = false := by simpa using hh
              go_wp2
              go_returns
              exact ⟨rfl, b8⟩
            · have g1 : ((ml : Int) == nl) = false := by simp; omega
              have g2 : (ml == nl) = false := by simpa using hh
              go_wp2
              go_returns
              exact ⟨rfl, b8⟩
        · skip
          by_cases hm0 : j = 0
          · have hr := HR.out
            rw [ov_zero hlen (by omega)] at hr
            subst hr
            have d1 : ((j : Int) == 0) = true := by simp [hm0]
            have d2 : (j == 0) = true := by simpa using hm0
            have b4 := hw4.below
            go_wp2
            go_returns
            exact ⟨rfl, b4⟩
          · have d1 : ((j : Int) == 0) = false := by simp; omega
            have d2 : (j == 0) = false := by simpa using hm0
            have c4 := hw4.b0.cell
            go_wp2_with fail
            refine (HAD.out.1 j (by omega) w4 (hz.keep hw4.below)).mono ?_
            rintro e w5 ⟨rfl, hb5⟩
            have hT5 := hw4.keep hb5
            have hmn : min k j = j := by omega
            obtain ⟨mh, hmh⟩ : ∃ x, x = (adOf (wb p j false)).h := ⟨_, rfl⟩
            obtain ⟨ml, hml⟩ : ∃ x, x = (adOf (wb p j false)).l := ⟨_, rfl⟩
            rw [← hmh, ← hml]
            have HM := Lib.hid (And.intro hmh hml)
            clear hmh hml hb5 c4 hw4
            have c5 := hT5.b0.cell
            have f5 := hT5.b0.free
            have l5 := hT5.b0.lt
            have d5 := hT5.b1.cell
            have hT6 := (((hT5.set0 0 (.int .u64 mh)).set0 1 (.int .u64 ml)).set0 2 (.pointer (z.ptr pk))).set0 3 (.int .u8 ((j : Int) + 1))
            simp only [List.setIfInBounds_toArray, List.set_cons_zero, List.set_cons_succ] at hT6
            go_wp2_with fail
            generalize (((w5.setCell ⟨w.heap.size, 0, none⟩ (.int .u64 mh)).setCell ⟨w.heap.size, 1, none⟩ (.int .u64 ml)).setCell ⟨w.heap.size, 2, none⟩ (.pointer (z.ptr pk))).setCell ⟨w.heap.size, 3, none⟩ (.int .u8 ((j : Int) + 1)) = w6 at *
            clear c5 f5 l5 d5 hT5
            refine (HAD.out.2.1 j (by omega) w6 (hz.keep hT6.below)).mono ?_
            rintro e w7 ⟨rfl, hb7⟩
            have hT7 := hT6.keep hb7
            obtain ⟨nh, hnh⟩ : ∃ x, x = (adOf (wb q j false)).h := ⟨_, rfl⟩
            obtain ⟨nl, hnl⟩ : ∃ x, x = (adOf (wb q j false)).l := ⟨_, rfl⟩
            rw [← hnh, ← hnl]
            have HN := Lib.hid (And.intro hnh hnl)
            clear hnh hnl hb7 hT6
            have c7 := hT7.b1.cell
            have f7 := hT7.b1.free
            have l7 := hT7.b1.lt
            have hT8 := (((hT7.set1 0 (.int .u64 nh)).set1 1 (.int .u64 nl)).set1 2 (.pointer (z.ptr qk))).set1 3 (.int .u8 ((j : Int) + 1))
            simp only [List.setIfInBounds_toArray, List.set_cons_zero, List.set_cons_succ] at hT8
            have hz8 := hz.keep hT8.below
            have b8 := hT8.below
            have e0 := hT8.b0.cell
            have e1 := hT8.b1.cell
            have he8 := fun d => eqz pk qk z _ d hz8.ne hz8.ne' hz8.p4 hz8.p6
            rw [show decide (pk = qk) = true from decide_eq_true HPK.out] at he8
            have HT8 := Lib.hid hT8
            clear hT8 hz8 hT7
            have hcmp : (mh = nh ∧ ml = nl ∧ r = true) ∨ (¬ mh = nh ∧ r = false) ∨ (mh = nh ∧ ¬ ml = nl ∧ r = false) := by
              have hr := HR.out
              unfold ovP at hr
              rw [hmn] at hr
              by_cases ht : wb p j false = wb q j false
              · refine Or.inl ⟨?_, ?_, ?_⟩
                · rw [HM.out.1, HN.out.1, ht]
                · rw [HM.out.2, HN.out.2, ht]
                · rw [hr, decide_eq_true_eq]; exact ⟨hlen, (wb_top hlen j).1 ht⟩
              · have hrf : r = false := by rw [hr, decide_eq_false_iff_not]; intro h; exact ht ((wb_top hlen j).2 h.2)
                by_cases hh : mh = nh
                · refine Or.inr (Or.inr ⟨hh, fun h => ht (HAD.out.2.2.2 j hlen ?_ ?_), hrf⟩)
                  · rw [← HM.out.1, ← HN.out.1]; exact hh
                  · rw [← HM.out.2, ← HN.out.2]; exact h
                · exact Or.inr (Or.inl ⟨hh, hrf⟩)
            rcases hcmp with ⟨rfl, rfl, rfl⟩ | ⟨hh, rfl⟩ | ⟨rfl, hh, rfl⟩
            · go_wp2
              go_returns
              exact ⟨rfl, b8⟩
            · have g1 : ((mh : Int) == nh) = false := by simp; omega
              have g2 : (mh == nh) = false := by simpa using hh
              go_wp2
              go_returns
              exact ⟨rfl, b8⟩
            · have g1 : ((ml : Int) == nl) = false := by simp; omega
              have g2 : (ml == nl) = false := by simpa using hh
              go_wp2
              go_returns
              exact ⟨rfl, b8⟩
      · have hr := HR.out
        have hrf : ovP p k q j = false := by unfold ovP; simp [hlen]
        rw [hrf] at hr
        subst hr
        have hf : ((pk == some false) == (qk == some false)) = false := by
          have h1 := HL.out.1
          have h2 := HL.out.2.2
          have h3 : p.length = 4 ↔ ¬ q.length = 4 := by
            have := HPQ.out.1; have := HPQ.out.2.2.1; unfold isLen at *; omega
          by_cases hh : q.length = 4
          · rw [h2.2 hh, show (pk == some false) = false by simp; intro h; exact (h3.1 (h1.1 h)) hh]; rfl
          · rw [h1.2 (h3.2 hh), show (qk == some false) = false by simp; intro h; exact hh (h2.1 h)]; rfl
        have b3 := hw3.below
        clear hw3
        rw [show (!((pk == some false) == (qk == some false))) = true by rw [hf]; rfl]
        go_wp2
        go_returns
        exact ⟨rfl, b3⟩
    · have b1 : ((pl : Int) == ql) = false := by simp; omega
      have b2 : (pl == ql) = false := by simpa using a2
      go_wp2_with fail
      clear b1 b2 a2
      clear c0 c1 he
      refine region_all (TwoB w 75 75 #[.int .u64 ph, .int .u64 pl, .pointer (z.ptr pk), .int .u8 ((k + 1 : Nat) : Int)] #[.int .u64 ph, .int .u64 ql, .pointer (z.ptr qk), .int .u8 ((j + 1 : Nat) : Int)]) (by kernel_rfl) (by kernel_rfl) (hT2.drew) ?_
      repeat (first | (refine quiet_skip rfl ?_; (simp only [Act.put, List.setIfInBounds_toArray, List.set_cons_zero, List.set_cons_succ])) | (refine quiet_run ?_ rfl (fun w1 hw1 => ?_) ?_; rotate_left; (have r0 := hw1.b0.cell; have r1 := hw1.b1.cell; go_simp; try (with_reducible rfl)); (simp only [Act.put, List.setIfInBounds_toArray, List.set_cons_zero, List.set_cons_succ])) | (refine quiet_call ?_ ?_ ?_ rfl (fun w1 hw1 => ?_) (fun w1 hw1 => ?_) ?_; rotate_left 3; (have r0 := hw1.b0.cell; have r1 := hw1.b1.cell; go_simp; refine ⟨?_, ?_⟩ <;> with_reducible rfl); (first | (go_at_call 64; (with_reducible refine (is4_c _ _ _ z w1 (hz.keep hw1.below)).mono ?_); rintro e w2 ⟨rfl, hb⟩; refine ⟨?_, hw1.keep hb⟩; with_reducible rfl) | (go_at_call 64; (refine (is4_c _ _ _ z w1 (hz.keep hw1.below)).mono ?_); rintro e w2 ⟨rfl, hb⟩; refine ⟨?_, hw1.keep hb⟩; with_reducible rfl)); (simp only [Act.put, List.setIfInBounds_toArray, List.set_cons_zero, List.set_cons_succ])))
      refine wpQuiet_nil ?_
      intro w3 hw3
      clear hT2 hz2
      by_cases hlen : p.length = q.length
      · have hpk : pk = qk := HL.out.2.1.2 hlen
        have hk := HPQ.out.2.1
        have hj := HPQ.out.2.2.2
        have hf : (!((pk == some false) == (qk == some false))) = false := by rw [hpk]; simp
        rw [hf]
        have HPK := Lib.hid hpk
        clear hpk
        go_wp2_with fail
        clear hf
        refine region_all (TwoB w 75 75 #[.int .u64 ph, .int .u64 pl, .pointer (z.ptr pk), .int .u8 ((k + 1 : Nat) : Int)] #[.int .u64 ph, .int .u64 ql, .pointer (z.ptr qk), .int .u8 ((j + 1 : Nat) : Int)]) (by kernel_rfl) (by kernel_rfl) (hw3.drew) ?_
        repeat (first | (refine quiet_skip rfl ?_; (simp only [Act.put, List.setIfInBounds_toArray, List.set_cons_zero, List.set_cons_succ])) | (refine quiet_run ?_ rfl (fun w1 hw1 => ?_) ?_; rotate_left; (have r0 := hw1.b0.cell; have r1 := hw1.b1.cell; go_simp; try (with_reducible rfl)); (simp only [Act.put, List.setIfInBounds_toArray, List.set_cons_zero, List.set_cons_succ])) | (refine quiet_call ?_ ?_ ?_ rfl (fun w1 hw1 => ?_) (fun w1 hw1 => ?_) ?_; rotate_left 3; (have r0 := hw1.b0.cell; have r1 := hw1.b1.cell; go_simp; refine ⟨?_, ?_⟩ <;> with_reducible rfl); (first | (go_at_call 62; (with_reducible refine (pfBits2_c _ _ _ k hk128 w1).mono ?_); rintro e w2 ⟨rfl, hb⟩; refine ⟨?_, hw1.keep hb⟩; with_reducible rfl) | (go_at_call 62; (with_reducible refine (pfBits2_c _ _ _ j hj128 w1).mono ?_); rintro e w2 ⟨rfl, hb⟩; refine ⟨?_, hw1.keep hb⟩; with_reducible rfl) | (go_at_call 62; (refine (pfBits2_c _ _ _ k hk128 w1).mono ?_); rintro e w2 ⟨rfl, hb⟩; refine ⟨?_, hw1.keep hb⟩; with_reducible rfl) | (go_at_call 62; (refine (pfBits2_c _ _ _ j hj128 w1).mono ?_); rintro e w2 ⟨rfl, hb⟩; refine ⟨?_, hw1.keep hb⟩; with_reducible rfl)); (simp only [Act.put, List.setIfInBounds_toArray, List.set_cons_zero, List.set_cons_succ])))
        refine wpQuiet_nil ?_
        intro w4 hw4
        clear hw3
        by_cases hkj : k < j
        · skip
          by_cases hm0 : k = 0
          · have hr := HR.out
            rw [ov_zero hlen (by omega)] at hr
            subst hr
            have d1 : ((k : Int) == 0) = true := by simp [hm0]
            have d2 : (k == 0) = true := by simpa using hm0
            have b4 := hw4.below
            go_wp2
            go_returns
            exact ⟨rfl, b4⟩
          · have d1 : ((k : Int) == 0) = false := by simp; omega
            have d2 : (k == 0) = false := by simpa using hm0
            have c4 := hw4.b0.cell
            go_wp2_with fail
            refine (HAD.out.1 k (by omega) w4 (hz.keep hw4.below)).mono ?_
            rintro e w5 ⟨rfl, hb5⟩
            have hT5 := hw4.keep hb5
            have hmn : min k j = k := by omega
            obtain ⟨mh, hmh⟩ : ∃ x, x = (adOf (wb p k false)).h := ⟨_, rfl⟩
            obtain ⟨ml, hml⟩ : ∃ x, x = (adOf (wb p k false)).l := ⟨_, rfl⟩
            rw [← hmh, ← hml]
            have HM := Lib.hid (And.intro hmh hml)
            clear hmh hml hb5 c4 hw4
            have c5 := hT5.b0.cell
            have f5 := hT5.b0.free
            have l5 := hT5.b0.lt
            have d5 := hT5.b1.cell
            have hT6 := (((hT5.set0 0 (.int .u64 mh)).set0 1 (.int .u64 ml)).set0 2 (.pointer (z.ptr pk))).set0 3 (.int .u8 ((k : Int) + 1))
            simp only [List.setIfInBounds_toArray, List.set_cons_zero, List.set_cons_succ] at hT6
            go_wp2_with fail
            generalize (((w5.setCell ⟨w.heap.size, 0, none⟩ (.int .u64 mh)).setCell ⟨w.heap.size, 1, none⟩ (.int .u64 ml)).setCell ⟨w.heap.size, 2, none⟩ (.pointer (z.ptr pk))).setCell ⟨w.heap.size, 3, none⟩ (.int .u8 ((k : Int) + 1)) = w6 at *
            clear c5 f5 l5 d5 hT5
            refine (HAD.out.2.1 k (by omega) w6 (hz.keep hT6.below)).mono ?_
            rintro e w7 ⟨rfl, hb7⟩
            have hT7 := hT6.keep hb7
            obtain ⟨nh, hnh⟩ : ∃ x, x = (adOf (wb q k false)).h := ⟨_, rfl⟩
            obtain ⟨nl, hnl⟩ : ∃ x, x = (adOf (wb q k false)).l := ⟨_, rfl⟩
            rw [← hnh, ← hnl]
            have HN := Lib.hid (And.intro hnh hnl)
            clear hnh hnl hb7 hT6
            have c7 := hT7.b1.cell
            have f7 := hT7.b1.free
            have l7 := hT7.b1.lt
            have hT8 := (((hT7.set1 0 (.int .u64 nh)).set1 1 (.int .u64 nl)).set1 2 (.pointer (z.ptr qk))).set1 3 (.int .u8 ((k : Int) + 1))
            simp only [List.setIfInBounds_toArray, List.set_cons_zero, List.set_cons_succ] at hT8
            have hz8 := hz.keep hT8.below
            have b8 := hT8.below
            have e0 := hT8.b0.cell
            have e1 := hT8.b1.cell
            have he8 := fun d => eqz pk qk z _ d hz8.ne hz8.ne' hz8.p4 hz8.p6
            rw [show decide (pk = qk) = true from decide_eq_true HPK.out] at he8
            have HT8 := Lib.hid hT8
            clear hT8 hz8 hT7
            have hcmp : (mh = nh ∧ ml = nl ∧ r = true) ∨ (¬ mh = nh ∧ r = false) ∨ (mh = nh ∧ ¬ ml = nl ∧ r = false) := by
              have hr := HR.out
              unfold ovP at hr
              rw [hmn] at hr
              by_cases ht : wb p k false = wb q k false
              · refine Or.inl ⟨?_, ?_, ?_⟩
                · rw [HM.out.1, HN.out.1, ht]
                · rw [HM.out.2, HN.out.2, ht]
                · rw [hr, decide_eq_true_eq]; exact ⟨hlen, (wb_top hlen k).1 ht⟩
              · have hrf : r = false := by rw [hr, decide_eq_false_iff_not]; intro h; exact ht ((wb_top hlen k).2 h.2)
                by_cases hh : mh = nh
                · refine Or.inr (Or.inr ⟨hh, fun h => ht (HAD.out.2.2.2 k hlen ?_ ?_), hrf⟩)
                  · rw [← HM.out.1, ← HN.out.1]; exact hh
                  · rw [← HM.out.2, ← HN.out.2]; exact h
                · exact Or.inr (Or.inl ⟨hh, hrf⟩)
            rcases hcmp with ⟨rfl, rfl, rfl⟩ | ⟨hh, rfl⟩ | ⟨rfl, hh, rfl⟩
            · go_wp2
              go_returns
              exact ⟨rfl, b8⟩
            · have g1 : ((mh : Int) == nh) = false := by simp; omega
              have g2 : (mh == nh) = false := by simpa using hh
              go_wp2
              go_returns
              exact ⟨rfl, b8⟩
            · have g1 : ((ml : Int) == nl) = false := by simp; omega
              have g2 : (ml == nl) = false := by simpa using hh
              go_wp2
              go_returns
              exact ⟨rfl, b8⟩
        · skip
          by_cases hm0 : j = 0
          · have hr := HR.out
            rw [ov_zero hlen (by omega)] at hr
            subst hr
            have d1 : ((j : Int) == 0) = true := by simp [hm0]
            have d2 : (j == 0) = true := by simpa using hm0
            have b4 := hw4.below
            go_wp2
            go_returns
            exact ⟨rfl, b4⟩
          · have d1 : ((j : Int) == 0) = false := by simp; omega
            have d2 : (j == 0) = false := by simpa using hm0
            have c4 := hw4.b0.cell
            go_wp2_with fail
            refine (HAD.out.1 j (by omega) w4 (hz.keep hw4.below)).mono ?_
            rintro e w5 ⟨rfl, hb5⟩
            have hT5 := hw4.keep hb5
            have hmn : min k j = j := by omega
            obtain ⟨mh, hmh⟩ : ∃ x, x = (adOf (wb p j false)).h := ⟨_, rfl⟩
            obtain ⟨ml, hml⟩ : ∃ x, x = (adOf (wb p j false)).l := ⟨_, rfl⟩
            rw [← hmh, ← hml]
            have HM := Lib.hid (And.intro hmh hml)
            clear hmh hml hb5 c4 hw4
            have c5 := hT5.b0.cell
            have f5 := hT5.b0.free
            have l5 := hT5.b0.lt
            have d5 := hT5.b1.cell
            have hT6 := (((hT5.set0 0 (.int .u64 mh)).set0 1 (.int .u64 ml)).set0 2 (.pointer (z.ptr pk))).set0 3 (.int .u8 ((j : Int) + 1))
            simp only [List.setIfInBounds_toArray, List.set_cons_zero, List.set_cons_succ] at hT6
            go_wp2_with fail
            generalize (((w5.setCell ⟨w.heap.size, 0, none⟩ (.int .u64 mh)).setCell ⟨w.heap.size, 1, none⟩ (.int .u64 ml)).setCell ⟨w.heap.size, 2, none⟩ (.pointer (z.ptr pk))).setCell ⟨w.heap.size, 3, none⟩ (.int .u8 ((j : Int) + 1)) = w6 at *
            clear c5 f5 l5 d5 hT5
            refine (HAD.out.2.1 j (by omega) w6 (hz.keep hT6.below)).mono ?_
            rintro e w7 ⟨rfl, hb7⟩
            have hT7 := hT6.keep hb7
            obtain ⟨nh, hnh⟩ : ∃ x, x = (adOf (wb q j false)).h := ⟨_, rfl⟩
            obtain ⟨nl, hnl⟩ : ∃ x, x = (adOf (wb q j false)).l := ⟨_, rfl⟩
            rw [← hnh, ← hnl]
            have HN := Lib.hid (And.intro hnh hnl)
            clear hnh hnl hb7 hT6
            have c7 := hT7.b1.cell
            have f7 := hT7.b1.free
            have l7 := hT7.b1.lt
            have hT8 := (((hT7.set1 0 (.int .u64 nh)).set1 1 (.int .u64 nl)).set1 2 (.pointer (z.ptr qk))).set1 3 (.int .u8 ((j : Int) + 1))
            simp only [List.setIfInBounds_toArray, List.set_cons_zero, List.set_cons_succ] at hT8
            have hz8 := hz.keep hT8.below
            have b8 := hT8.below
            have e0 := hT8.b0.cell
            have e1 := hT8.b1.cell
            have he8 := fun d => eqz pk qk z _ d hz8.ne hz8.ne' hz8.p4 hz8.p6
            rw [show decide (pk = qk) = true from decide_eq_true HPK.out] at he8
            have HT8 := Lib.hid hT8
            clear hT8 hz8 hT7
            have hcmp : (mh = nh ∧ ml = nl ∧ r = true) ∨ (¬ mh = nh ∧ r = false) ∨ (mh = nh ∧ ¬ ml = nl ∧ r = false) := by
              have hr := HR.out
              unfold ovP at hr
              rw [hmn] at hr
              by_cases ht : wb p j false = wb q j false
              · refine Or.inl ⟨?_, ?_, ?_⟩
                · rw [HM.out.1, HN.out.1, ht]
                · rw [HM.out.2, HN.out.2, ht]
                · rw [hr, decide_eq_true_eq]; exact ⟨hlen, (wb_top hlen j).1 ht⟩
              · have hrf : r = false := by rw [hr, decide_eq_false_iff_not]; intro h; exact ht ((wb_top hlen j).2 h.2)
                by_cases hh : mh = nh
                · refine Or.inr (Or.inr ⟨hh, fun h => ht (HAD.out.2.2.2 j hlen ?_ ?_), hrf⟩)
                  · rw [← HM.out.1, ← HN.out.1]; exact hh
                  · rw [← HM.out.2, ← HN.out.2]; exact h
                · exact Or.inr (Or.inl ⟨hh, hrf⟩)
            rcases hcmp with ⟨rfl, rfl, rfl⟩ | ⟨hh, rfl⟩ | ⟨rfl, hh, rfl⟩
            · go_wp2
              go_returns
              exact ⟨rfl, b8⟩
            · have g1 : ((mh : Int) == nh) = false := by simp; omega
              have g2 : (mh == nh) = false := by simpa using hh
              go_wp2
              go_returns
              exact ⟨rfl, b8⟩
            · have g1 : ((ml : Int) == nl) = false := by simp; omega
              have g2 : (ml == nl) = false := by simpa using hh
              go_wp2
              go_returns
              exact ⟨rfl, b8⟩
      · have hr := HR.out
        have hrf : ovP p k q j = false := by unfold ovP; simp [hlen]
        rw [hrf] at hr
        subst hr
        have hf : ((pk == some false) == (qk == some false)) = false := by
          have h1 := HL.out.1
          have h2 := HL.out.2.2
          have h3 : p.length = 4 ↔ ¬ q.length = 4 := by
            have := HPQ.out.1; have := HPQ.out.2.2.1; unfold isLen at *; omega
          by_cases hh : q.length = 4
          · rw [h2.2 hh, show (pk == some false) = false by simp; intro h; exact (h3.1 (h1.1 h)) hh]; rfl
          · rw [h1.2 (h3.2 hh), show (qk == some false) = false by simp; intro h; exact hh (h2.1 h)]; rfl
        have b3 := hw3.below
        clear hw3
        rw [show (!((pk == some false) == (qk == some false))) = true by rw [hf]; rfl]
        go_wp2
        go_returns
        exact ⟨rfl, b3⟩
    · rw [show decide (pk = qk) = false by simpa using a3] at he
      go_wp2_with fail
      clear a3
      clear c0 c1 he
      refine region_all (TwoB w 75 75 #[.int .u64 ph, .int .u64 pl, .pointer (z.ptr pk), .int .u8 ((k + 1 : Nat) : Int)] #[.int .u64 ph, .int .u64 pl, .pointer (z.ptr qk), .int .u8 ((j + 1 : Nat) : Int)]) (by kernel_rfl) (by kernel_rfl) (hT2.drew) ?_
      repeat (first | (refine quiet_skip rfl ?_; (simp only [Act.put, List.setIfInBounds_toArray, List.set_cons_zero, List.set_cons_succ])) | (refine quiet_run ?_ rfl (fun w1 hw1 => ?_) ?_; rotate_left; (have r0 := hw1.b0.cell; have r1 := hw1.b1.cell; go_simp; try (with_reducible rfl)); (simp only [Act.put, List.setIfInBounds_toArray, List.set_cons_zero, List.set_cons_succ])) | (refine quiet_call ?_ ?_ ?_ rfl (fun w1 hw1 => ?_) (fun w1 hw1 => ?_) ?_; rotate_left 3; (have r0 := hw1.b0.cell; have r1 := hw1.b1.cell; go_simp; refine ⟨?_, ?_⟩ <;> with_reducible rfl); (first | (go_at_call 64; (with_reducible refine (is4_c _ _ _ z w1 (hz.keep hw1.below)).mono ?_); rintro e w2 ⟨rfl, hb⟩; refine ⟨?_, hw1.keep hb⟩; with_reducible rfl) | (go_at_call 64; (refine (is4_c _ _ _ z w1 (hz.keep hw1.below)).mono ?_); rintro e w2 ⟨rfl, hb⟩; refine ⟨?_, hw1.keep hb⟩; with_reducible rfl)); (simp only [Act.put, List.setIfInBounds_toArray, List.set_cons_zero, List.set_cons_succ])))
      refine wpQuiet_nil ?_
      intro w3 hw3
      clear hT2 hz2
      by_cases hlen : p.length = q.length
      · have hpk : pk = qk := HL.out.2.1.2 hlen
        have hk := HPQ.out.2.1
        have hj := HPQ.out.2.2.2
        have hf : (!((pk == some false) == (qk == some false))) = false := by rw [hpk]; simp
        rw [hf]
        have HPK := Lib.hid hpk
        clear hpk
        go_wp2_with fail
        clear hf
        refine region_all (TwoB w 75 75 #[.int .u64 ph, .int .u64 pl, .pointer (z.ptr pk), .int .u8 ((k + 1 : Nat) : Int)] #[.int .u64 ph, .int .u64 pl, .pointer (z.ptr qk), .int .u8 ((j + 1 : Nat) : Int)]) (by kernel_rfl) (by kernel_rfl) (hw3.drew) ?_
        repeat (first | (refine quiet_skip rfl ?_; (simp only [Act.put, List.setIfInBounds_toArray, List.set_cons_zero, List.set_cons_succ])) | (refine quiet_run ?_ rfl (fun w1 hw1 => ?_) ?_; rotate_left; (have r0 := hw1.b0.cell; have r1 := hw1.b1.cell; go_simp; try (with_reducible rfl)); (simp only [Act.put, List.setIfInBounds_toArray, List.set_cons_zero, List.set_cons_succ])) | (refine quiet_call ?_ ?_ ?_ rfl (fun w1 hw1 => ?_) (fun w1 hw1 => ?_) ?_; rotate_left 3; (have r0 := hw1.b0.cell; have r1 := hw1.b1.cell; go_simp; refine ⟨?_, ?_⟩ <;> with_reducible rfl); (first | (go_at_call 62; (with_reducible refine (pfBits2_c _ _ _ k hk128 w1).mono ?_); rintro e w2 ⟨rfl, hb⟩; refine ⟨?_, hw1.keep hb⟩; with_reducible rfl) | (go_at_call 62; (with_reducible refine (pfBits2_c _ _ _ j hj128 w1).mono ?_); rintro e w2 ⟨rfl, hb⟩; refine ⟨?_, hw1.keep hb⟩; with_reducible rfl) | (go_at_call 62; (refine (pfBits2_c _ _ _ k hk128 w1).mono ?_); rintro e w2 ⟨rfl, hb⟩; refine ⟨?_, hw1.keep hb⟩; with_reducible rfl) | (go_at_call 62; (refine (pfBits2_c _ _ _ j hj128 w1).mono ?_); rintro e w2 ⟨rfl, hb⟩; refine ⟨?_, hw1.keep hb⟩; with_reducible rfl)); (simp only [Act.put, List.setIfInBounds_toArray, List.set_cons_zero, List.set_cons_succ])))
        refine wpQuiet_nil ?_
        intro w4 hw4
        clear hw3
        by_cases hkj : k < j
        · skip
          by_cases hm0 : k = 0
          · have hr := HR.out
            rw [ov_zero hlen (by omega)] at hr
            subst hr
            have d1 : ((k : Int) == 0) = true := by simp [hm0]
            have d2 : (k == 0) = true := by simpa using hm0
            have b4 := hw4.below
            go_wp2
            go_returns
            exact ⟨rfl, b4⟩
          · have d1 : ((k : Int) == 0) = false := by simp; omega
            have d2 : (k == 0) = false := by simpa using hm0
            have c4 := hw4.b0.cell
            go_wp2_with fail
            refine (HAD.out.1 k (by omega) w4 (hz.keep hw4.below)).mono ?_
            rintro e w5 ⟨rfl, hb5⟩
            have hT5 := hw4.keep hb5
            have hmn : min k j = k := by omega
            obtain ⟨mh, hmh⟩ : ∃ x, x = (adOf (wb p k false)).h := ⟨_, rfl⟩
            obtain ⟨ml, hml⟩ : ∃ x, x = (adOf (wb p k false)).l := ⟨_, rfl⟩
            rw [← hmh, ← hml]
            have HM := Lib.hid (And.intro hmh hml)
            clear hmh hml hb5 c4 hw4
            have c5 := hT5.b0.cell
            have f5 := hT5.b0.free
            have l5 := hT5.b0.lt
            have d5 := hT5.b1.cell
            have hT6 := (((hT5.set0 0 (.int .u64 mh)).set0 1 (.int .u64 ml)).set0 2 (.pointer (z.ptr pk))).set0 3 (.int .u8 ((k : Int) + 1))
            simp only [List.setIfInBounds_toArray, List.set_cons_zero, List.set_cons_succ] at hT6
            go_wp2_with fail
            generalize (((w5.setCell ⟨w.heap.size, 0, none⟩ (.int .u64 mh)).setCell ⟨w.heap.size, 1, none⟩ (.int .u64 ml)).setCell ⟨w.heap.size, 2, none⟩ (.pointer (z.ptr pk))).setCell ⟨w.heap.size, 3, none⟩ (.int .u8 ((k : Int) + 1)) = w6 at *
            clear c5 f5 l5 d5 hT5
            refine (HAD.out.2.1 k (by omega) w6 (hz.keep hT6.below)).mono ?_
            rintro e w7 ⟨rfl, hb7⟩
            have hT7 := hT6.keep hb7
            obtain ⟨nh, hnh⟩ : ∃ x, x = (adOf (wb q k false)).h := ⟨_, rfl⟩
            obtain ⟨nl, hnl⟩ : ∃ x, x = (adOf (wb q k false)).l := ⟨_, rfl⟩
            rw [← hnh, ← hnl]
            have HN := Lib.hid (And.intro hnh hnl)
            clear hnh hnl hb7 hT6
            have c7 := hT7.b1.cell
            have f7 := hT7.b1.free
            have l7 := hT7.b1.lt
            have hT8 := (((hT7.set1 0 (.int .u64 nh)).set1 1 (.int .u64 nl)).set1 2 (.pointer (z.ptr qk))).set1 3 (.int .u8 ((k : Int) + 1))
            simp only [List.setIfInBounds_toArray, List.set_cons_zero, List.set_cons_succ] at hT8
            have hz8 := hz.keep hT8.below
            have b8 := hT8.below
            have e0 := hT8.b0.cell
            have e1 := hT8.b1.cell
            have he8 := fun d => eqz pk qk z _ d hz8.ne hz8.ne' hz8.p4 hz8.p6
            rw [show decide (pk = qk) = true from decide_eq_true HPK.out] at he8
            have HT8 := Lib.hid hT8
            clear hT8 hz8 hT7
            have hcmp : (mh = nh ∧ ml = nl ∧ r = true) ∨ (¬ mh = nh ∧ r = false) ∨ (mh = nh ∧ ¬ ml = nl ∧ r = false) := by
              have hr := HR.out
              unfold ovP at hr
              rw [hmn] at hr
              by_cases ht : wb p k false = wb q k false
              · refine Or.inl ⟨?_, ?_, ?_⟩
                · rw [HM.out.1, HN.out.1, ht]
                · rw [HM.out.2, HN.out.2, ht]
                · rw [hr, decide_eq_true_eq]; exact ⟨hlen, (wb_top hlen k).1 ht⟩
              · have hrf : r = false := by rw [hr, decide_eq_false_iff_not]; intro h; exact ht ((wb_top hlen k).2 h.2)
                by_cases hh : mh = nh
                · refine Or.inr (Or.inr ⟨hh, fun h => ht (HAD.out.2.2.2 k hlen ?_ ?_), hrf⟩)
                  · rw [← HM.out.1, ← HN.out.1]; exact hh
                  · rw [← HM.out.2, ← HN.out.2]; exact h
                · exact Or.inr (Or.inl ⟨hh, hrf⟩)
            rcases hcmp with ⟨rfl, rfl, rfl⟩ | ⟨hh, rfl⟩ | ⟨rfl, hh, rfl⟩
            · go_wp2
              go_returns
              exact ⟨rfl, b8⟩
            · have g1 : ((mh : Int) == nh) = false := by simp; omega
              have g2 : (mh == nh) = false := by simpa using hh
              go_wp2
              go_returns
              exact ⟨rfl, b8⟩
            · have g1 : ((ml : Int) == nl) = false := by simp; omega
              have g2 : (ml == nl) = false := by simpa using hh
              go_wp2
              go_returns
              exact ⟨rfl, b8⟩
        · skip
          by_cases hm0 : j = 0
          · have hr := HR.out
            rw [ov_zero hlen (by omega)] at hr
            subst hr
            have d1 : ((j : Int) == 0) = true := by simp [hm0]
            have d2 : (j == 0) = true := by simpa using hm0
            have b4 := hw4.below
            go_wp2
            go_returns
            exact ⟨rfl, b4⟩
          · have d1 : ((j : Int) == 0) = false := by simp; omega
            have d2 : (j == 0) = false := by simpa using hm0
            have c4 := hw4.b0.cell
            go_wp2_with fail
            refine (HAD.out.1 j (by omega) w4 (hz.keep hw4.below)).mono ?_
            rintro e w5 ⟨rfl, hb5⟩
            have hT5 := hw4.keep hb5
            have hmn : min k j = j := by omega
            obtain ⟨mh, hmh⟩ : ∃ x, x = (adOf (wb p j false)).h := ⟨_, rfl⟩
            obtain ⟨ml, hml⟩ : ∃ x, x = (adOf (wb p j false)).l := ⟨_, rfl⟩
            rw [← hmh, ← hml]
            have HM := Lib.hid (And.intro hmh hml)
            clear hmh hml hb5 c4 hw4
            have c5 := hT5.b0.cell
            have f5 := hT5.b0.free
            have l5 := hT5.b0.lt
            have d5 := hT5.b1.cell
            have hT6 := (((hT5.set0 0 (.int .u64 mh)).set0 1 (.int .u64 ml)).set0 2 (.pointer (z.ptr pk))).set0 3 (.int .u8 ((j : Int) + 1))
            simp only [List.setIfInBounds_toArray, List.set_cons_zero, List.set_cons_succ] at hT6
            go_wp2_with fail
            generalize (((w5.setCell ⟨w.heap.size, 0, none⟩ (.int .u64 mh)).setCell ⟨w.heap.size, 1, none⟩ (.int .u64 ml)).setCell ⟨w.heap.size, 2, none⟩ (.pointer (z.ptr pk))).setCell ⟨w.heap.size, 3, none⟩ (.int .u8 ((j : Int) + 1)) = w6 at *
            clear c5 f5 l5 d5 hT5
            refine (HAD.out.2.1 j (by omega) w6 (hz.keep hT6.below)).mono ?_
            rintro e w7 ⟨rfl, hb7⟩
            have hT7 := hT6.keep hb7
            obtain ⟨nh, hnh⟩ : ∃ x, x = (adOf (wb q j false)).h := ⟨_, rfl⟩
            obtain ⟨nl, hnl⟩ : ∃ x, x = (adOf (wb q j false)).l := ⟨_, rfl⟩
            rw [← hnh, ← hnl]
            have HN := Lib.hid (And.intro hnh hnl)
            clear hnh hnl hb7 hT6
            have c7 := hT7.b1.cell
            have f7 := hT7.b1.free
            have l7 := hT7.b1.lt
            have hT8 := (((hT7.set1 0 (.int .u64 nh)).set1 1 (.int .u64 nl)).set1 2 (.pointer (z.ptr qk))).set1 3 (.int .u8 ((j : Int) + 1))
            simp only [List.setIfInBounds_toArray, List.set_cons_zero, List.set_cons_succ] at hT8
            have hz8 := hz.keep hT8.below
            have b8 := hT8.below
            have e0 := hT8.b0.cell
            have e1 := hT8.b1.cell
            have he8 := fun d => eqz pk qk z _ d hz8.ne hz8.ne' hz8.p4 hz8.p6
            rw [show decide (pk = qk) = true from decide_eq_true HPK.out] at he8
            have HT8 := Lib.hid hT8
            clear hT8 hz8 hT7
            have hcmp : (mh = nh ∧ ml = nl ∧ r = true) ∨ (¬ mh = nh ∧ r = false) ∨ (mh = nh ∧ ¬ ml = nl ∧ r = false) := by
              have hr := HR.out
              unfold ovP at hr
              rw [hmn] at hr
              by_cases ht : wb p j false = wb q j false
              · refine Or.inl ⟨?_, ?_, ?_⟩
                · rw [HM.out.1, HN.out.1, ht]
                · rw [HM.out.2, HN.out.2, ht]
                · rw [hr, decide_eq_true_eq]; exact ⟨hlen, (wb_top hlen j).1 ht⟩
              · have hrf : r = false := by rw [hr, decide_eq_false_iff_not]; intro h; exact ht ((wb_top hlen j).2 h.2)
                by_cases hh : mh = nh
                · refine Or.inr (Or.inr ⟨hh, fun h => ht (HAD.out.2.2.2 j hlen ?_ ?_), hrf⟩)
                  · rw [← HM.out.1, ← HN.out.1]; exact hh
                  · rw [← HM.out.2, ← HN.out.2]; exact h
                · exact Or.inr (Or.inl ⟨hh, hrf⟩)
            rcases hcmp with ⟨rfl, rfl, rfl⟩ | ⟨hh, rfl⟩ | ⟨rfl, hh, rfl⟩
            · go_wp2
              go_returns
              exact ⟨rfl, b8⟩
            · have g1 : ((mh : Int) == nh) = false := by simp; omega
              have g2 : (mh == nh) = false := by simpa using hh
              go_wp2
              go_returns
              exact ⟨rfl, b8⟩
            · have g1 : ((ml : Int) == nl) = false := by simp; omega
              have g2 : (ml == nl) = false := by simpa using hh
              go_wp2
              go_returns
              exact ⟨rfl, b8⟩
      · have hr := HR.out
        have hrf : ovP p k q j = false := by unfold ovP; simp [hlen]
        rw [hrf] at hr
        subst hr
        have hf : ((pk == some false) == (qk == some false)) = false := by
          have h1 := HL.out.1
          have h2 := HL.out.2.2
          have h3 : p.length = 4 ↔ ¬ q.length = 4 := by
            have := HPQ.out.1; have := HPQ.out.2.2.1; unfold isLen at *; omega
          by_cases hh : q.length = 4
          · rw [h2.2 hh, show (pk == some false) = false by simp; intro h; exact (h3.1 (h1.1 h)) hh]; rfl
          · rw [h1.2 (h3.2 hh), show (qk == some false) = false by simp; intro h; exact hh (h2.1 h)]; rfl
        have b3 := hw3.below
        clear hw3
        rw [show (!((pk == some false) == (qk == some false))) = true by rw [hf]; rfl]
        go_wp2
        go_returns
        exact ⟨rfl, b3⟩
    · simp only [decide_true] at he
      have b1 : ((k : Int) == j) = false := by simp; omega
      have b2 : (k == j) = false := by simpa using a4
      have b3 : ((k : Int) + 1 == (j : Int) + 1) = false := by simp; omega
      go_wp2_with fail
      clear b1 b2 b3 a4
      clear c0 c1 he
      refine region_all (TwoB w 75 75 #[.int .u64 ph, .int .u64 pl, .pointer (z.ptr pk), .int .u8 ((k + 1 : Nat) : Int)] #[.int .u64 ph, .int .u64 pl, .pointer (z.ptr pk), .int .u8 ((j + 1 : Nat) : Int)]) (by kernel_rfl) (by kernel_rfl) (hT2.drew) ?_
      repeat (first | (refine quiet_skip rfl ?_; (simp only [Act.put, List.setIfInBounds_toArray, List.set_cons_zero, List.set_cons_succ])) | (refine quiet_run ?_ rfl (fun w1 hw1 => ?_) ?_; rotate_left; (have r0 := hw1.b0.cell; have r1 := hw1.b1.cell; go_simp; try (with_reducible rfl)); (simp only [Act.put, List.setIfInBounds_toArray, List.set_cons_zero, List.set_cons_succ])) | (refine quiet_call ?_ ?_ ?_ rfl (fun w1 hw1 => ?_) (fun w1 hw1 => ?_) ?_; rotate_left 3; (have r0 := hw1.b0.cell; have r1 := hw1.b1.cell; go_simp; refine ⟨?_, ?_⟩ <;> with_reducible rfl); (first | (go_at_call 64; (with_reducible refine (is4_c _ _ _ z w1 (hz.keep hw1.below)).mono ?_); rintro e w2 ⟨rfl, hb⟩; refine ⟨?_, hw1.keep hb⟩; with_reducible rfl) | (go_at_call 64; (refine (is4_c _ _ _ z w1 (hz.keep hw1.below)).mono ?_); rintro e w2 ⟨rfl, hb⟩; refine ⟨?_, hw1.keep hb⟩; with_reducible rfl)); (simp only [Act.put, List.setIfInBounds_toArray, List.set_cons_zero, List.set_cons_succ])))
      refine wpQuiet_nil ?_
      intro w3 hw3
      clear hT2 hz2
      have hlen : p.length = q.length := by have := HL.out.2.1; simpa using this
      have hk := HPQ.out.2.1
      have hj := HPQ.out.2.2.2
      go_wp2_with fail
      refine region_all (TwoB w 75 75 #[.int .u64 ph, .int .u64 pl, .pointer (z.ptr pk), .int .u8 ((k + 1 : Nat) : Int)] #[.int .u64 ph, .int .u64 pl, .pointer (z.ptr pk), .int .u8 ((j + 1 : Nat) : Int)]) (by kernel_rfl) (by kernel_rfl) (hw3.drew) ?_
      repeat (first | (refine quiet_skip rfl ?_; (simp only [Act.put, List.setIfInBounds_toArray, List.set_cons_zero, List.set_cons_succ])) | (refine quiet_run ?_ rfl (fun w1 hw1 => ?_) ?_; rotate_left; (have r0 := hw1.b0.cell; have r1 := hw1.b1.cell; go_simp; try (with_reducible rfl)); (simp only [Act.put, List.setIfInBounds_toArray, List.set_cons_zero, List.set_cons_succ])) | (refine quiet_call ?_ ?_ ?_ rfl (fun w1 hw1 => ?_) (fun w1 hw1 => ?_) ?_; rotate_left 3; (have r0 := hw1.b0.cell; have r1 := hw1.b1.cell; go_simp; refine ⟨?_, ?_⟩ <;> with_reducible rfl); (first | (go_at_call 62; (with_reducible refine (pfBits2_c _ _ _ k hk128 w1).mono ?_); rintro e w2 ⟨rfl, hb⟩; refine ⟨?_, hw1.keep hb⟩; with_reducible rfl) | (go_at_call 62; (with_reducible refine (pfBits2_c _ _ _ j hj128 w1).mono ?_); rintro e w2 ⟨rfl, hb⟩; refine ⟨?_, hw1.keep hb⟩; with_reducible rfl) | (go_at_call 62; (refine (pfBits2_c _ _ _ k hk128 w1).mono ?_); rintro e w2 ⟨rfl, hb⟩; refine ⟨?_, hw1.keep hb⟩; with_reducible rfl) | (go_at_call 62; (refine (pfBits2_c _ _ _ j hj128 w1).mono ?_); rintro e w2 ⟨rfl, hb⟩; refine ⟨?_, hw1.keep hb⟩; with_reducible rfl)); (simp only [Act.put, List.setIfInBounds_toArray, List.set_cons_zero, List.set_cons_succ])))
      refine wpQuiet_nil ?_
      intro w4 hw4
      clear hw3
      by_cases hkj : k < j
      · skip
        by_cases hm0 : k = 0
        · have hr := HR.out
          rw [ov_zero hlen (by omega)] at hr
          subst hr
          have d1 : ((k : Int) == 0) = true := by simp [hm0]
          have d2 : (k == 0) = true := by simpa using hm0
          have b4 := hw4.below
          go_wp2
          go_returns
          exact ⟨rfl, b4⟩
        · have d1 : ((k : Int) == 0) = false := by simp; omega
          have d2 : (k == 0) = false := by simpa using hm0
          have c4 := hw4.b0.cell
          go_wp2_with fail
          refine (HAD.out.1 k (by omega) w4 (hz.keep hw4.below)).mono ?_
          rintro e w5 ⟨rfl, hb5⟩
          have hT5 := hw4.keep hb5
          have hmn : min k j = k := by omega
          obtain ⟨mh, hmh⟩ : ∃ x, x = (adOf (wb p k false)).h := ⟨_, rfl⟩
          obtain ⟨ml, hml⟩ : ∃ x, x = (adOf (wb p k false)).l := ⟨_, rfl⟩
          rw [← hmh, ← hml]
          have HM := Lib.hid (And.intro hmh hml)
          clear hmh hml hb5 c4 hw4
          have c5 := hT5.b0.cell
          have f5 := hT5.b0.free
          have l5 := hT5.b0.lt
          have d5 := hT5.b1.cell
          have hT6 := (((hT5.set0 0 (.int .u64 mh)).set0 1 (.int .u64 ml)).set0 2 (.pointer (z.ptr pk))).set0 3 (.int .u8 ((k : Int) + 1))
          simp only [List.setIfInBounds_toArray, List.set_cons_zero, List.set_cons_succ] at hT6
          go_wp2_with fail
          generalize (((w5.setCell ⟨w.heap.size, 0, none⟩ (.int .u64 mh)).setCell ⟨w.heap.size, 1, none⟩ (.int .u64 ml)).setCell ⟨w.heap.size, 2, none⟩ (.pointer (z.ptr pk))).setCell ⟨w.heap.size, 3, none⟩ (.int .u8 ((k : Int) + 1)) = w6 at *
          clear c5 f5 l5 d5 hT5
          refine (HAD.out.2.1 k (by omega) w6 (hz.keep hT6.below)).mono ?_
          rintro e w7 ⟨rfl, hb7⟩
          have hT7 := hT6.keep hb7
          obtain ⟨nh, hnh⟩ : ∃ x, x = (adOf (wb q k false)).h := ⟨_, rfl⟩
          obtain ⟨nl, hnl⟩ : ∃ x, x = (adOf (wb q k false)).l := ⟨_, rfl⟩
          rw [← hnh, ← hnl]
          have HN := Lib.hid (And.intro hnh hnl)
          clear hnh hnl hb7 hT6
          have c7 := hT7.b1.cell
          have f7 := hT7.b1.free
          have l7 := hT7.b1.lt
          have hT8 := (((hT7.set1 0 (.int .u64 nh)).set1 1 (.int .u64 nl)).set1 2 (.pointer (z.ptr pk))).set1 3 (.int .u8 ((k : Int) + 1))
          simp only [List.setIfInBounds_toArray, List.set_cons_zero, List.set_cons_succ] at hT8
          have hz8 := hz.keep hT8.below
          have b8 := hT8.below
          have e0 := hT8.b0.cell
          have e1 := hT8.b1.cell
          have he8 := fun d => eqz pk pk z _ d hz8.ne hz8.ne' hz8.p4 hz8.p6
          rw [show decide (pk = pk) = true from decide_eq_true rfl] at he8
          have HT8 := Lib.hid hT8
          clear hT8 hz8 hT7
          have hcmp : (mh = nh ∧ ml = nl ∧ r = true) ∨ (¬ mh = nh ∧ r = false) ∨ (mh = nh ∧ ¬ ml = nl ∧ r = false) := by
            have hr := HR.out
            unfold ovP at hr
            rw [hmn] at hr
            by_cases ht : wb p k false = wb q k false
            · refine Or.inl ⟨?_, ?_, ?_⟩
              · rw [HM.out.1, HN.out.1, ht]
              · rw [HM.out.2, HN.out.2, ht]
              · rw [hr, decide_eq_true_eq]; exact ⟨hlen, (wb_top hlen k).1 ht⟩
            · have hrf : r = false := by rw [hr, decide_eq_false_iff_not]; intro h; exact ht ((wb_top hlen k).2 h.2)
              by_cases hh : mh = nh
              · refine Or.inr (Or.inr ⟨hh, fun h => ht (HAD.out.2.2.2 k hlen ?_ ?_), hrf⟩)
                · rw [← HM.out.1, ← HN.out.1]; exact hh
                · rw [← HM.out.2, ← HN.out.2]; exact h
              · exact Or.inr (Or.inl ⟨hh, hrf⟩)
          rcases hcmp with ⟨rfl, rfl, rfl⟩ | ⟨hh, rfl⟩ | ⟨rfl, hh, rfl⟩
          · go_wp2
            go_returns
            exact ⟨rfl, b8⟩
          · have g1 : ((mh : Int) == nh) = false := by simp; omega
            have g2 : (mh == nh) = false := by simpa using hh
            go_wp2
            go_returns
            exact ⟨rfl, b8⟩
          · have g1 : ((ml : Int) == nl) = false := by simp; omega
            have g2 : (ml == nl) = false := by simpa using hh
            go_wp2
            go_returns
            exact ⟨rfl, b8⟩
      · skip
        by_cases hm0 : j = 0
        · have hr := HR.out
          rw [ov_zero hlen (by omega)] at hr
          subst hr
          have d1 : ((j : Int) == 0) = true := by simp [hm0]
          have d2 : (j == 0) = true := by simpa using hm0
          have b4 := hw4.below
          go_wp2
          go_returns
          exact ⟨rfl, b4⟩
        · have d1 : ((j : Int) == 0) = false := by simp; omega
          have d2 : (j == 0) = false := by simpa using hm0
          have c4 := hw4.b0.cell
          go_wp2_with fail
          refine (HAD.out.1 j (by omega) w4 (hz.keep hw4.below)).mono ?_
          rintro e w5 ⟨rfl, hb5⟩
          have hT5 := hw4.keep hb5
          have hmn : min k j = j := by omega
          obtain ⟨mh, hmh⟩ : ∃ x, x = (adOf (wb p j false)).h := ⟨_, rfl⟩
          obtain ⟨ml, hml⟩ : ∃ x, x = (adOf (wb p j false)).l := ⟨_, rfl⟩
          rw [← hmh, ← hml]
          have HM := Lib.hid (And.intro hmh hml)
          clear hmh hml hb5 c4 hw4
          have c5 := hT5.b0.cell
          have f5 := hT5.b0.free
          have l5 := hT5.b0.lt
          have d5 := hT5.b1.cell
          have hT6 := (((hT5.set0 0 (.int .u64 mh)).set0 1 (.int .u64 ml)).set0 2 (.pointer (z.ptr pk))).set0 3 (.int .u8 ((j : Int) + 1))
          simp only [List.setIfInBounds_toArray, List.set_cons_zero, List.set_cons_succ] at hT6
          go_wp2_with fail
          generalize (((w5.setCell ⟨w.heap.size, 0, none⟩ (.int .u64 mh)).setCell ⟨w.heap.size, 1, none⟩ (.int .u64 ml)).setCell ⟨w.heap.size, 2, none⟩ (.pointer (z.ptr pk))).setCell ⟨w.heap.size, 3, none⟩ (.int .u8 ((j : Int) + 1)) = w6 at *
          clear c5 f5 l5 d5 hT5
          refine (HAD.out.2.1 j (by omega) w6 (hz.keep hT6.below)).mono ?_
          rintro e w7 ⟨rfl, hb7⟩
          have hT7 := hT6.keep hb7
          obtain ⟨nh, hnh⟩ : ∃ x, x = (adOf (wb q j false)).h := ⟨_, rfl⟩
          obtain ⟨nl, hnl⟩ : ∃ x, x = (adOf (wb q j false)).l := ⟨_, rfl⟩
          rw [← hnh, ← hnl]
          have HN := Lib.hid (And.intro hnh hnl)
          clear hnh hnl hb7 hT6
          have c7 := hT7.b1.cell
          have f7 := hT7.b1.free
          have l7 := hT7.b1.lt
          have hT8 := (((hT7.set1 0 (.int .u64 nh)).set1 1 (.int .u64 nl)).set1 2 (.pointer (z.ptr pk))).set1 3 (.int .u8 ((j : Int) + 1))
          simp only [List.setIfInBounds_toArray, List.set_cons_zero, List.set_cons_succ] at hT8
          have hz8 := hz.keep hT8.below
          have b8 := hT8.below
          have e0 := hT8.b0.cell
          have e1 := hT8.b1.cell
          have he8 := fun d => eqz pk pk z _ d hz8.ne hz8.ne' hz8.p4 hz8.p6
          rw [show decide (pk = pk) = true from decide_eq_true rfl] at he8
          have HT8 := Lib.hid hT8
          clear hT8 hz8 hT7
          have hcmp : (mh = nh ∧ ml = nl ∧ r = true) ∨ (¬ mh = nh ∧ r = false) ∨ (mh = nh ∧ ¬ ml = nl ∧ r = false) := by
            have hr := HR.out
            unfold ovP at hr
            rw [hmn] at hr
            by_cases ht : wb p j false = wb q j false
            · refine Or.inl ⟨?_, ?_, ?_⟩
              · rw [HM.out.1, HN.out.1, ht]
              · rw [HM.out.2, HN.out.2, ht]
              · rw [hr, decide_eq_true_eq]; exact ⟨hlen, (wb_top hlen j).1 ht⟩
            · have hrf : r = false := by rw [hr, decide_eq_false_iff_not]; intro h; exact ht ((wb_top hlen j).2 h.2)
              by_cases hh : mh = nh
              · refine Or.inr (Or.inr ⟨hh, fun h => ht (HAD.out.2.2.2 j hlen ?_ ?_), hrf⟩)
                · rw [← HM.out.1, ← HN.out.1]; exact hh
                · rw [← HM.out.2, ← HN.out.2]; exact h
              · exact Or.inr (Or.inl ⟨hh, hrf⟩)
          rcases hcmp with ⟨rfl, rfl, rfl⟩ | ⟨hh, rfl⟩ | ⟨rfl, hh, rfl⟩
          · go_wp2
            go_returns
            exact ⟨rfl, b8⟩
          · have g1 : ((mh : Int) == nh) = false := by simp; omega
            have g2 : (mh == nh) = false := by simpa using hh
            go_wp2
            go_returns
            exact ⟨rfl, b8⟩
          · have g1 : ((ml : Int) == nl) = false := by simp; omega
            have g2 : (ml == nl) = false := by simpa using hh
            go_wp2
            go_returns
            exact ⟨rfl, b8⟩
end Go.Proofs.YtckfgdohpmllmaaDoor
