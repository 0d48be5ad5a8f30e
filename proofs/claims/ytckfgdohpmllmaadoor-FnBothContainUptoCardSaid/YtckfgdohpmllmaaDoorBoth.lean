/-
  The walk of laws.FnBothContain.
-/
import Derived.Test.YtckfgdohpmllmaaDoorCommon
namespace Go.Proofs.YtckfgdohpmllmaaDoor
open Go Go.RowKit
/-- Two prefixes overlap just if the first address of the longer one lies in both. -/
theorem ov_both (p q : List UInt8) (k j : Nat) : ovP p k q j = (inP p k (if k < j then wb q j false else wb p k false) && inP q j (if k < j then wb q j false else wb p k false)) := by
  have self : ∀ (a : List UInt8) (m : Nat), inP a m (wb a m false) = true := fun a m => in_of_ov (ov_self a m) (Nat.le_refl _)
  have sym : ovP p k q j = ovP q j p k := by
    unfold ovP
    rw [Bool.eq_iff_iff, decide_eq_true_eq, decide_eq_true_eq, Nat.min_comm]
    constructor
    · rintro ⟨h1, h2⟩; exact ⟨h1.symm, by rw [← h1]; exact h2.symm⟩
    · rintro ⟨h1, h2⟩; exact ⟨h1.symm, by rw [← h1]; exact h2.symm⟩
  by_cases h : k < j
  · rw [if_pos h, self q j, Bool.and_true, Bool.eq_iff_iff]
    constructor
    · intro ho; rw [sym] at ho; exact in_of_ov ho (by omega)
    · intro hi; exact ov_of_in hi (self q j)
  · rw [if_neg h, self p k, Bool.true_and, Bool.eq_iff_iff]
    constructor
    · intro ho; exact in_of_ov ho (by omega)
    · intro hi; exact ov_of_in (self p k) hi
set_option maxRecDepth 100000 in
set_option maxHeartbeats 16000000 in
theorem both_walk (A : Option Addr) (n c : Nat) (es0 : List En) (B : Option Addr) (m d : Nat) (xs : List UInt8) (R : Option Addr) (rn rc : Nat) (rs : List En) (z : ZP) (w : World) (hz : Zs w z) (hl : RS w A n es0) (hn : n ≤ 1048576) (hx : RB w B m xs) (hm : m ≤ 1048576)
    (hp : RS w R rn rs) (hrn : rn ≤ 1048576) :
    Calls Tryd.prog 6 #[.slice A n c, .slice B m d, .slice R rn rc] w (TrueW w) := by
  have hzl : ((es0.map (·.bs)).zip xs).length ≤ n := by rw [List.length_zip, List.length_map, hl.1]; omega
  have hval := madeZ_valid ((es0.map (·.bs)).zip xs)
  have hmlen : (madeZ ((es0.map (·.bs)).zip xs)).length ≤ n := by
    unfold madeZ; rw [List.length_map]; exact Nat.le_trans (List.length_filter_le _ _) hzl
  go_enter Tryd.func6, Tryd.ntmps6
  go_wp2_with fail
  refine (made_c A n c es0 B m d xs w hl (by omega) hx (by omega)).mono ?_
  rintro e0 w1 ⟨v1, rfl, ⟨A1, c1, es, rfl, hown, hmap, hin⟩, hb1⟩
  rw [← hmap] at hval hmlen
  rw [List.length_map] at hmlen
  have hrp := RP.of_own hown rfl hin
  have hz1 := hz.keep hb1
  have hv : ∀ e ∈ es, Vp e.is := fun e he => hval e.is (List.mem_map_of_mem he)
  have hp1 := hp.keep hb1
  have HV := Lib.hid hv
  obtain ⟨N, hN⟩ : ∃ N, N = es.length := ⟨_, rfl⟩
  rw [← hN] at hrp hmlen ⊢
  have HN := Lib.hid hN
  clear hown hmap hin hval hzl hv hN
  go_wp2_with fail
  go_loopw [22] (fun i wr => ∃ (j : Nat), j ≤ N ∧ i = .int .i64 j ∧ Below w1.heap.size w1 wr) (fun i _ => N - (intOf i).toNat)
  case atStart => exact ⟨0, Nat.zero_le _, rfl, Below.refl _ _⟩
  case round =>
    obtain ⟨j, hj, rfl, hbb⟩ := hrel
    by_cases hlt : j < N
    · obtain ⟨g, o, e, hA, hg, hek, hc0, hc1, hc2, hbe⟩ := (hrp.keep hbb).at hlt
      subst hA
      have hem := List.mem_of_getElem? hek
      have hve := HV.out e hem
      have HE := Lib.hid (And.intro hem hek)
      clear hem hek
      have hx4 : Below wr.heap.size wr (wr.alloc (.cells #[.slice e.a e.n e.c, .string ⟨#[]⟩, .int .i64 e.k] 29)) := (Below.refl _ _).alloc (Nat.le_refl _) _
      have hbP : Blk (wr.alloc (.cells #[.slice e.a e.n e.c, .string ⟨#[]⟩, .int .i64 e.k] 29)) wr.heap.size 29 #[.slice e.a e.n e.c, .string ⟨#[]⟩, .int .i64 e.k] := heap_alloc_new _ _
      have hW5 := hbb.trans (hx4.mono hbb.size)
      clear hx4
      go_wp2_with fail
      obtain ⟨gP, hgP⟩ : ∃ gP, gP = wr.heap.size := ⟨_, rfl⟩
      rw [← hgP] at hbP ⊢
      generalize wr.alloc (.cells #[.slice e.a e.n e.c, .string ⟨#[]⟩, .int .i64 e.k] 29) = w5 at *
      have hgP1 : w1.heap.size ≤ gP := by have := hbb.size; omega
      clear hgP hc0 hc1 hc2 hbe
      have hb5e := (hrp.keep hW5).2.2 e HE.out.1
      refine (ovEach_c e.a e.n e.c e.bs e.k _ N c1 es z w5 (hz1.keep hW5) hb5e hve.1 hve.2 (hrp.keep hW5) HV.out (by omega)).mono ?_
      rintro e1 w6 ⟨A6, c6, rfl, hown6, hb6⟩
      have hP6 := hbP.below hb6
      have hW6 := hW5.trans (hb6.mono hW5.size)
      have hol : (ovs e.bs e.k (es.map Pf.is)).length = N := by unfold ovs; rw [List.length_map, List.length_map, ← HN.out]
      obtain ⟨g6, hA6, hg6, hc6⟩ := own_some hown6 (by omega)
      subst hA6
      have HC := Lib.hid hc6
      have HOL := Lib.hid hol
      have HP6 := Lib.hid hP6
      clear hown6 hc6 hol hP6 hbP hb6 hW5 hb5e
      go_wp2_with fail
      go_loopw [37] (fun i wr2 => ∃ (t : Nat), t ≤ N ∧ i = .int .i64 t ∧ Below w6.heap.size w6 wr2) (fun i _ => N - (intOf i).toNat)
      case atStart => exact ⟨0, Nat.zero_le _, rfl, Below.refl _ _⟩
      case round =>
        obtain ⟨t, ht, rfl, hbt⟩ := hrel
        have hWt := hW6.trans (hbt.mono hW6.size)
        by_cases htN : t < N
        · obtain ⟨g', o', f, hA, hg', hfk, hc0, hc1, hc2, hbf⟩ := (hrp.keep hWt).at htN
          injection hA with hA
          injection hA with hA1 hA2
          subst hA1 hA2
          have hfm := List.mem_of_getElem? hfk
          have hfv := HV.out f hfm
          have hev := HV.out e HE.out.1
          have hx1 := (hbt.cell (p := ⟨g6, t, none⟩) hg6).trans (HC.out t _ (boolCells_get _ t (by rw [HOL.out]; exact htN)))
          have hx2 : (ovs e.bs e.k (es.map Pf.is)).getD t false = ovP e.bs e.k f.bs f.k := by
            unfold ovs
            simp [List.getD, hfk, Pf.is]
          rw [hx2] at hx1
          have hx3 : j = t → ovP e.bs e.k f.bs f.k = true := fun h => by
            subst h
            have := HE.out.2
            rw [hfk] at this
            injection this with this
            subst this
            exact ov_self _ _
          have hx4 : ∀ b, inP e.bs e.k b = true → inP f.bs f.k b = true → ovP e.bs e.k f.bs f.k = true := fun b h1 h2 => ov_of_in h1 h2
          have hx5 := ov_both e.bs f.bs e.k f.k
          have HF := Lib.hid (And.intro hfm hfk)
          have HX0 := Lib.hid hx3
          generalize ovP e.bs e.k f.bs f.k = x at *
          clear hx2 hx3 hfm hfk
          obtain ⟨gQ, hgQ⟩ : ∃ gQ, gQ = wr.heap.size := ⟨_, rfl⟩
          have hP7 := HP6.out.below hbt
          have lP7 := hP7.lt
          have cP := hP7.cell
          have ha1 : Below wr.heap.size wr (wr.alloc (.cells #[.slice f.a f.n f.c, .string ⟨#[]⟩, .int .i64 f.k] 29)) := (Below.refl _ _).alloc (Nat.le_refl _) _
          by_cases hgt : e.k < f.k
          · rw [if_pos hgt] at hx5
            have HXV := Lib.hid (And.intro hx5 hx4)
            have ha2 : Below (wr.alloc (.cells #[.slice f.a f.n f.c, .string ⟨#[]⟩, .int .i64 f.k] 29)).heap.size (wr.alloc (.cells #[.slice f.a f.n f.c, .string ⟨#[]⟩, .int .i64 f.k] 29)) ((wr.alloc (.cells #[.slice f.a f.n f.c, .string ⟨#[]⟩, .int .i64 f.k] 29)).alloc (.cells #[.slice f.a f.n f.c, .string ⟨#[]⟩, .int .i64 f.k] 29)) := (Below.refl _ _).alloc (Nat.le_refl _) _
            have ha3 := ha1.trans (ha2.mono ha1.size)
            have hW8 := hbt.trans (ha3.mono hbt.size)
            have bP8 := hP7.below ha3
            have bQ8 : Blk ((wr.alloc (.cells #[.slice f.a f.n f.c, .string ⟨#[]⟩, .int .i64 f.k] 29)).alloc (.cells #[.slice f.a f.n f.c, .string ⟨#[]⟩, .int .i64 f.k] 29)) gQ 29 #[.slice f.a f.n f.c, .string ⟨#[]⟩, .int .i64 f.k] := by rw [hgQ]; exact (Below.heap_alloc _ _ _ (by simp)).trans (heap_alloc_new _ _)
            have bL8 : Blk ((wr.alloc (.cells #[.slice f.a f.n f.c, .string ⟨#[]⟩, .int .i64 f.k] 29)).alloc (.cells #[.slice f.a f.n f.c, .string ⟨#[]⟩, .int .i64 f.k] 29)) (gQ + 1) 29 #[.slice f.a f.n f.c, .string ⟨#[]⟩, .int .i64 f.k] := by
              have := heap_alloc_new (wr.alloc (.cells #[.slice f.a f.n f.c, .string ⟨#[]⟩, .int .i64 f.k] 29)) (.cells #[.slice f.a f.n f.c, .string ⟨#[]⟩, .int .i64 f.k] 29)
              rw [hgQ]
              simpa [Blk] using this
            have HGQ := Lib.hid hgQ
            clear hx5 hx4 ha1 ha2 ha3 hP7 hgQ
            go_wp2_with fail
            rw [← HGQ.out]
            clear hx1 hc0 hc1 hc2 hbf cP lP7 HGQ
            generalize (wr.alloc (.cells #[.slice f.a f.n f.c, .string ⟨#[]⟩, .int .i64 f.k] 29)).alloc (.cells #[.slice f.a f.n f.c, .string ⟨#[]⟩, .int .i64 f.k] 29) = w8 at *
            have hW18 := hW6.trans (hW8.mono hW6.size)
            have he8 := (hrp.keep hW18).2.2 e HE.out.1
            have hf8 := (hrp.keep hW18).2.2 f HF.out.1
            have hL8 := hf8
            have hisl : isLen f.n := by rw [← hL8.1]; exact hfv.1
            have hLk : f.k ≤ 8 * f.n := by rw [← hL8.1]; exact hfv.2
            have hL16 : f.n ≤ 16 := by unfold isLen at hisl; omega
            have lP := bP8.lt
            have lQ := bQ8.lt
            have lL := bL8.lt
            have rP : ∀ w', Below w8.heap.size w8 w' → ∀ i, w'.cell? ⟨gP, i, none⟩ = #[Value.slice e.a e.n e.c, .string ⟨#[]⟩, .int .i64 e.k][i]? := fun w' h i => (h.cell (p := ⟨gP, i, none⟩) lP).trans (bP8.cell i)
            have rQ : ∀ w', Below w8.heap.size w8 w' → ∀ i, w'.cell? ⟨gQ, i, none⟩ = #[Value.slice f.a f.n f.c, .string ⟨#[]⟩, .int .i64 f.k][i]? := fun w' h i => (h.cell (p := ⟨gQ, i, none⟩) lQ).trans (bQ8.cell i)
            have rL : ∀ w', Below w8.heap.size w8 w' → ∀ i, w'.cell? ⟨gQ + 1, i, none⟩ = #[Value.slice f.a f.n f.c, .string ⟨#[]⟩, .int .i64 f.k][i]? := fun w' h i => (h.cell (p := ⟨gQ + 1, i, none⟩) lL).trans (bL8.cell i)
            have hdr : Below w8.heap.size w8 w8.drew := ⟨rfl, rfl, rfl, Nat.le_refl _, fun _ _ => rfl⟩
            clear lP lQ lL
            cases hb1 : inP e.bs e.k (wb f.bs f.k false)
            · have hxf : x = false := by rw [HXV.out.1, hb1]; rfl
              subst hxf
              have hne : ((j : Int) == t) = false := by simp; intro h; exact absurd (HX0.out (by omega)) (by simp)
              have hne2 : (j == t) = false := by simp; intro h; exact absurd (HX0.out (by omega)) (by simp)
              refine region_pick (Below w8.heap.size w8) [(0, false, none), (1, false, none), (2, false, none), (3, true, none), (4, false, none), (5, false, none), (6, false, none), (7, false, none), (8, true, none), (9, false, none), (10, false, none), (11, false, none), (12, false, none), (13, false, none), (14, false, none), (15, false, none), (16, false, none), (17, false, none), (18, false, none), (19, false, none)] 20 (by kernel_rfl) (by kernel_rfl) (fun w w' h hb => h.trans (hb.mono h.size)) (hdr) ?_
              simp only [pickOps, List.getElem?_cons_zero, List.getElem?_cons_succ]
              repeat (first | (refine t_skip rfl ?_; (simp only [Act.put, List.setIfInBounds_toArray, List.set_cons_zero, List.set_cons_succ])) | (refine t_run ?_ rfl (fun w1 hw1 => ?_) ?_; rotate_left; (have r0 := rP w1 hw1; have r1 := rQ w1 hw1; have r2 := rL w1 hw1; go_simp; try (with_reducible rfl)); (simp only [Act.put, List.setIfInBounds_toArray, List.set_cons_zero, List.set_cons_succ])))
              refine t_fresh ?_ ?_ (fun v w' => OwnB 0 f.n (wb f.bs f.k false) v w') (by rfl) (fun w1 hw1 => ?_) (fun v w w' h hb => h.keep hb) (fun w1 hw1 => ?_) ?_
              rotate_left 2
              (go_simp; refine ⟨?_, ?_⟩ <;> with_reducible rfl)
              (go_at_call 22; (with_reducible refine (firstOf_c f.a f.n f.c f.bs f.k w1 (hL8.keep hw1) hisl hLk).mono ?_); rintro e w2 ⟨v, rfl, ⟨g9, c9, rfl, hown9⟩, hb9⟩; exact ⟨_, rfl, ⟨g9, c9, rfl, own_mono hown9 (Nat.zero_le _)⟩, hb9⟩)
              rintro v8 ⟨-, -, g9, c9, rfl, -⟩
              (simp only [Act.put, List.setIfInBounds_toArray, List.set_cons_zero, List.set_cons_succ])
              repeat (first | (refine t_skip rfl ?_; (simp only [Act.put, List.setIfInBounds_toArray, List.set_cons_zero, List.set_cons_succ])) | (refine t_run ?_ rfl (fun w1 hw1 => ?_) ?_; rotate_left; (have r0 := rP w1 hw1.1; have r1 := rQ w1 hw1.1; have r2 := rL w1 hw1.1; go_simp; try (with_reducible rfl)); (simp only [Act.put, List.setIfInBounds_toArray, List.set_cons_zero, List.set_cons_succ])) | (refine t_call ?_ ?_ ?_ rfl (fun w1 hw1 => ?_) (fun w1 hw1 => ?_) ?_; rotate_left 3; (have r0 := rP w1 hw1.1; have r1 := rQ w1 hw1.1; have r2 := rL w1 hw1.1; go_simp; refine ⟨?_, ?_⟩ <;> with_reducible rfl); (first | (go_at_call 21; (with_reducible refine (contains_c e.a (some ⟨g9, 0, none⟩) e.n f.n e.c c9 e.bs (wb f.bs f.k false) e.k z w1 (hz1.keep (hW18.trans (hw1.1.mono hW18.size))) (he8.keep hw1.1) (RB.of_own hw1.2.own) (by simp) (by omega) hev.1 hev.2).mono ?_); rintro e w2 ⟨rfl, hb⟩; refine ⟨?_, hb⟩; with_reducible rfl) | (go_at_call 21; (refine (contains_c e.a (some ⟨g9, 0, none⟩) e.n f.n e.c c9 e.bs (wb f.bs f.k false) e.k z w1 (hz1.keep (hW18.trans (hw1.1.mono hW18.size))) (he8.keep hw1.1) (RB.of_own hw1.2.own) (by simp) (by omega) hev.1 hev.2).mono ?_); rintro e w2 ⟨rfl, hb⟩; refine ⟨?_, hb⟩; with_reducible rfl)); (simp only [Act.put, List.setIfInBounds_toArray, List.set_cons_zero, List.set_cons_succ])))
              intro w11 ⟨hw11, _⟩
              simp only [List.drop_succ_cons, List.drop_zero]
              try rw [hb1]
              clear hb1
              have hP11 := bP8.below hw11
              have hQ11 := bQ8.below hw11
              have hW11 := hW8.trans (hw11.mono hW8.size)
              have HPQ := Lib.hid (And.intro hP11 hQ11)
              clear rP rQ rL hdr hL8 he8 hf8 bP8 bQ8 bL8
              go_wp2_with fail
              go_loopw [76] (fun i wr3 => ∃ (u : Nat), u ≤ rn ∧ i = .int .i64 u ∧ Below w11.heap.size w11 wr3) (fun i _ => rn - (intOf i).toNat)
              case atStart => exact ⟨0, Nat.zero_le _, rfl, Below.refl _ _⟩
              case round =>
                obtain ⟨u, hu, rfl, hbu⟩ := hrel
                have hW12 := hW11.trans (hbu.mono hW11.size)
                have hW13 := hW6.trans (hW12.mono hW6.size)
                by_cases huN : u < rn
                · obtain ⟨gr, or, eb, hRR, hgr, heb, hcr, hbr, hnil, hcap⟩ := (hp1.keep hW13).at huN
                  subst hRR
                  have HNIL := Lib.hid hnil
                  clear heb hnil
                  go_wp2_with fail
                  refine (isAddress_c eb.a eb.n eb.c wr).mono ?_
                  rintro e1 w12 ⟨rfl, hb12⟩
                  cases had : (eb.n == 4 || eb.n == 16)
                  · have hbu2 := hbu.trans (hb12.mono hbu.size)
                    go_wp2
                    go_roundw
                    case rel => exact ⟨u + 1, by omega, by go_num, hbu2⟩
                    case measure => simp [intOf]; omega
                  · have hbu2 := hbu.trans (hb12.mono hbu.size)
                    have hW14 := hW13.trans (hb12.mono hW13.size)
                    have cP := (HPQ.out.1.below hbu2).cell
                    have hbr2 := hbr.keep hb12
                    clear hcr hbr hb12
                    go_wp2_with fail
                    refine (contains_c e.a eb.a e.n eb.n e.c eb.c e.bs eb.bs e.k z w12 (hz1.keep hW14) ((hrp.keep hW14).2.2 e HE.out.1) hbr2 HNIL.out (by omega) hev.1 hev.2).mono ?_
                    rintro e1 w13 ⟨rfl, hb13⟩
                    have hbu3 := hbu2.trans (hb13.mono hbu2.size)
                    have hW15 := hW14.trans (hb13.mono hW14.size)
                    have hbr3 := hbr2.keep hb13
                    clear cP hb13 hbr2
                    cases hi1 : inP e.bs e.k eb.bs
                    · go_wp2
                      go_roundw
                      case rel => exact ⟨u + 1, by omega, by go_num, hbu3⟩
                      case measure => simp [intOf]; omega
                    · have cQ := (HPQ.out.2.below hbu3).cell
                      go_wp2_with fail
                      refine (contains_c f.a eb.a f.n eb.n f.c eb.c f.bs eb.bs f.k z w13 (hz1.keep hW15) ((hrp.keep hW15).2.2 f HF.out.1) hbr3 HNIL.out (by omega) hfv.1 hfv.2).mono ?_
                      rintro e1 w14 ⟨rfl, hb14⟩
                      have hbu4 := hbu3.trans (hb14.mono hbu3.size)
                      clear cQ hb14
                      cases hi2 : inP f.bs f.k eb.bs
                      · go_wp2
                        go_roundw
                        case rel => exact ⟨u + 1, by omega, by go_num, hbu4⟩
                        case measure => simp [intOf]; omega
                      · have hxt := HXV.out.2 eb.bs hi1 hi2
                        exact absurd hxt (by simp)
                · obtain rfl : u = rn := by omega
                  go_wp2
                  go_roundw
                  case rel => exact ⟨t + 1, by omega, by go_num, hW12⟩
                  case measure => simp [intOf]; omega
            · cases hb2 : inP f.bs f.k (wb f.bs f.k false)
              · have hxf : x = false := by rw [HXV.out.1, hb1, hb2]; rfl
                subst hxf
                have hne : ((j : Int) == t) = false := by simp; intro h; exact absurd (HX0.out (by omega)) (by simp)
                have hne2 : (j == t) = false := by simp; intro h; exact absurd (HX0.out (by omega)) (by simp)
                refine region_pick (Below w8.heap.size w8) [(0, false, none), (1, false, none), (2, false, none), (3, true, none), (4, false, none), (5, false, none), (6, false, none), (7, false, none), (8, true, none), (9, false, none), (10, false, none), (11, false, none), (12, false, none), (13, false, none), (14, false, none), (15, false, none), (16, false, none), (17, false, none), (18, false, none), (19, false, none)] 20 (by kernel_rfl) (by kernel_rfl) (fun w w' h hb => h.trans (hb.mono h.size)) (hdr) ?_
                simp only [pickOps, List.getElem?_cons_zero, List.getElem?_cons_succ]
                repeat (first | (refine t_skip rfl ?_; (simp only [Act.put, List.setIfInBounds_toArray, List.set_cons_zero, List.set_cons_succ])) | (refine t_run ?_ rfl (fun w1 hw1 => ?_) ?_; rotate_left; (have r0 := rP w1 hw1; have r1 := rQ w1 hw1; have r2 := rL w1 hw1; go_simp; try (with_reducible rfl)); (simp only [Act.put, List.setIfInBounds_toArray, List.set_cons_zero, List.set_cons_succ])))
                refine t_fresh ?_ ?_ (fun v w' => OwnB 0 f.n (wb f.bs f.k false) v w') (by rfl) (fun w1 hw1 => ?_) (fun v w w' h hb => h.keep hb) (fun w1 hw1 => ?_) ?_
                rotate_left 2
                (go_simp; refine ⟨?_, ?_⟩ <;> with_reducible rfl)
                (go_at_call 22; (with_reducible refine (firstOf_c f.a f.n f.c f.bs f.k w1 (hL8.keep hw1) hisl hLk).mono ?_); rintro e w2 ⟨v, rfl, ⟨g9, c9, rfl, hown9⟩, hb9⟩; exact ⟨_, rfl, ⟨g9, c9, rfl, own_mono hown9 (Nat.zero_le _)⟩, hb9⟩)
                rintro v8 ⟨-, -, g9, c9, rfl, -⟩
                (simp only [Act.put, List.setIfInBounds_toArray, List.set_cons_zero, List.set_cons_succ])
                repeat (first | (refine t_skip rfl ?_; (simp only [Act.put, List.setIfInBounds_toArray, List.set_cons_zero, List.set_cons_succ])) | (refine t_run ?_ rfl (fun w1 hw1 => ?_) ?_; rotate_left; (have r0 := rP w1 hw1.1; have r1 := rQ w1 hw1.1; have r2 := rL w1 hw1.1; go_simp; try (with_reducible rfl)); (simp only [Act.put, List.setIfInBounds_toArray, List.set_cons_zero, List.set_cons_succ])) | (refine t_call ?_ ?_ ?_ rfl (fun w1 hw1 => ?_) (fun w1 hw1 => ?_) ?_; rotate_left 3; (have r0 := rP w1 hw1.1; have r1 := rQ w1 hw1.1; have r2 := rL w1 hw1.1; go_simp; refine ⟨?_, ?_⟩ <;> with_reducible rfl); (first | (go_at_call 21; (with_reducible refine (contains_c e.a (some ⟨g9, 0, none⟩) e.n f.n e.c c9 e.bs (wb f.bs f.k false) e.k z w1 (hz1.keep (hW18.trans (hw1.1.mono hW18.size))) (he8.keep hw1.1) (RB.of_own hw1.2.own) (by simp) (by omega) hev.1 hev.2).mono ?_); rintro e w2 ⟨rfl, hb⟩; refine ⟨?_, hb⟩; with_reducible rfl) | (go_at_call 21; (refine (contains_c e.a (some ⟨g9, 0, none⟩) e.n f.n e.c c9 e.bs (wb f.bs f.k false) e.k z w1 (hz1.keep (hW18.trans (hw1.1.mono hW18.size))) (he8.keep hw1.1) (RB.of_own hw1.2.own) (by simp) (by omega) hev.1 hev.2).mono ?_); rintro e w2 ⟨rfl, hb⟩; refine ⟨?_, hb⟩; with_reducible rfl)); (simp only [Act.put, List.setIfInBounds_toArray, List.set_cons_zero, List.set_cons_succ])))
                refine t_fresh ?_ ?_ (fun v w' => OwnB 0 f.n (wb f.bs f.k false) v w') (by rfl) (fun w1 hw1 => ?_) (fun v w w' h hb => h.keep hb) (fun w1 hw1 => ?_) ?_
                rotate_left 2
                (go_simp; refine ⟨?_, ?_⟩ <;> with_reducible rfl)
                (go_at_call 22; (with_reducible refine (firstOf_c f.a f.n f.c f.bs f.k w1 (hL8.keep hw1.1) hisl hLk).mono ?_); rintro e w2 ⟨v, rfl, ⟨g9, c9, rfl, hown9⟩, hb9⟩; exact ⟨_, rfl, ⟨g9, c9, rfl, own_mono hown9 (Nat.zero_le _)⟩, hb9⟩)
                rintro v9 ⟨-, -, g10, c10, rfl, -⟩
                (simp only [Act.put, List.setIfInBounds_toArray, List.set_cons_zero, List.set_cons_succ])
                repeat (first | (refine t_skip rfl ?_; (simp only [Act.put, List.setIfInBounds_toArray, List.set_cons_zero, List.set_cons_succ])) | (refine t_run ?_ rfl (fun w1 hw1 => ?_) ?_; rotate_left; (have r0 := rP w1 hw1.1.1; have r1 := rQ w1 hw1.1.1; have r2 := rL w1 hw1.1.1; go_simp; try (with_reducible rfl)); (simp only [Act.put, List.setIfInBounds_toArray, List.set_cons_zero, List.set_cons_succ])) | (refine t_call ?_ ?_ ?_ rfl (fun w1 hw1 => ?_) (fun w1 hw1 => ?_) ?_; rotate_left 3; (have r0 := rP w1 hw1.1.1; have r1 := rQ w1 hw1.1.1; have r2 := rL w1 hw1.1.1; go_simp; refine ⟨?_, ?_⟩ <;> with_reducible rfl); (first | (go_at_call 21; (with_reducible refine (contains_c f.a (some ⟨g10, 0, none⟩) f.n f.n f.c c10 f.bs (wb f.bs f.k false) f.k z w1 (hz1.keep (hW18.trans (hw1.1.1.mono hW18.size))) (hf8.keep hw1.1.1) (RB.of_own hw1.2.own) (by simp) (by omega) hfv.1 hfv.2).mono ?_); rintro e w2 ⟨rfl, hb⟩; refine ⟨?_, hb⟩; with_reducible rfl) | (go_at_call 21; (refine (contains_c f.a (some ⟨g10, 0, none⟩) f.n f.n f.c c10 f.bs (wb f.bs f.k false) f.k z w1 (hz1.keep (hW18.trans (hw1.1.1.mono hW18.size))) (hf8.keep hw1.1.1) (RB.of_own hw1.2.own) (by simp) (by omega) hfv.1 hfv.2).mono ?_); rintro e w2 ⟨rfl, hb⟩; refine ⟨?_, hb⟩; with_reducible rfl)); (simp only [Act.put, List.setIfInBounds_toArray, List.set_cons_zero, List.set_cons_succ])))
                intro w11 ⟨⟨hw11, _⟩, _⟩
                simp only [List.drop_succ_cons, List.drop_zero]
                try rw [hb1]
                try rw [hb2]
                clear hb1 hb2
                have hP11 := bP8.below hw11
                have hQ11 := bQ8.below hw11
                have hW11 := hW8.trans (hw11.mono hW8.size)
                have HPQ := Lib.hid (And.intro hP11 hQ11)
                clear rP rQ rL hdr hL8 he8 hf8 bP8 bQ8 bL8
                go_wp2_with fail
                go_loopw [76] (fun i wr3 => ∃ (u : Nat), u ≤ rn ∧ i = .int .i64 u ∧ Below w11.heap.size w11 wr3) (fun i _ => rn - (intOf i).toNat)
                case atStart => exact ⟨0, Nat.zero_le _, rfl, Below.refl _ _⟩
                case round =>
                  obtain ⟨u, hu, rfl, hbu⟩ := hrel
                  have hW12 := hW11.trans (hbu.mono hW11.size)
                  have hW13 := hW6.trans (hW12.mono hW6.size)
                  by_cases huN : u < rn
                  · obtain ⟨gr, or, eb, hRR, hgr, heb, hcr, hbr, hnil, hcap⟩ := (hp1.keep hW13).at huN
                    subst hRR
                    have HNIL := Lib.hid hnil
                    clear heb hnil
                    go_wp2_with fail
                    refine (isAddress_c eb.a eb.n eb.c wr).mono ?_
                    rintro e1 w12 ⟨rfl, hb12⟩
                    cases had : (eb.n == 4 || eb.n == 16)
                    · have hbu2 := hbu.trans (hb12.mono hbu.size)
                      go_wp2
                      go_roundw
                      case rel => exact ⟨u + 1, by omega, by go_num, hbu2⟩
                      case measure => simp [intOf]; omega
                    · have hbu2 := hbu.trans (hb12.mono hbu.size)
                      have hW14 := hW13.trans (hb12.mono hW13.size)
                      have cP := (HPQ.out.1.below hbu2).cell
                      have hbr2 := hbr.keep hb12
                      clear hcr hbr hb12
                      go_wp2_with fail
                      refine (contains_c e.a eb.a e.n eb.n e.c eb.c e.bs eb.bs e.k z w12 (hz1.keep hW14) ((hrp.keep hW14).2.2 e HE.out.1) hbr2 HNIL.out (by omega) hev.1 hev.2).mono ?_
                      rintro e1 w13 ⟨rfl, hb13⟩
                      have hbu3 := hbu2.trans (hb13.mono hbu2.size)
                      have hW15 := hW14.trans (hb13.mono hW14.size)
                      have hbr3 := hbr2.keep hb13
                      clear cP hb13 hbr2
                      cases hi1 : inP e.bs e.k eb.bs
                      · go_wp2
                        go_roundw
                        case rel => exact ⟨u + 1, by omega, by go_num, hbu3⟩
                        case measure => simp [intOf]; omega
                      · have cQ := (HPQ.out.2.below hbu3).cell
                        go_wp2_with fail
                        refine (contains_c f.a eb.a f.n eb.n f.c eb.c f.bs eb.bs f.k z w13 (hz1.keep hW15) ((hrp.keep hW15).2.2 f HF.out.1) hbr3 HNIL.out (by omega) hfv.1 hfv.2).mono ?_
                        rintro e1 w14 ⟨rfl, hb14⟩
                        have hbu4 := hbu3.trans (hb14.mono hbu3.size)
                        clear cQ hb14
                        cases hi2 : inP f.bs f.k eb.bs
                        · go_wp2
                          go_roundw
                          case rel => exact ⟨u + 1, by omega, by go_num, hbu4⟩
                          case measure => simp [intOf]; omega
                        · have hxt := HXV.out.2 eb.bs hi1 hi2
                          exact absurd hxt (by simp)
                  · obtain rfl : u = rn := by omega
                    go_wp2
                    go_roundw
                    case rel => exact ⟨t + 1, by omega, by go_num, hW12⟩
                    case measure => simp [intOf]; omega
              · have hxf : x = true := by rw [HXV.out.1, hb1, hb2]; rfl
                subst hxf
                obtain ⟨y, hy⟩ : ∃ y, ((j : Int) == t) = y := ⟨_, rfl⟩
                have hy2 : (j == t) = y := by rw [← hy, Bool.eq_iff_iff, beq_iff_eq, beq_iff_eq]; omega
                cases y
                all_goals
                  refine region_pick (Below w8.heap.size w8) [(0, false, none), (1, false, none), (2, false, none), (3, true, none), (4, false, none), (5, false, none), (6, false, none), (7, false, none), (8, true, none), (9, false, none), (10, false, none), (11, false, none), (12, false, none), (13, false, none), (14, false, none), (15, false, none), (16, false, none), (17, false, none), (18, false, none), (19, false, none)] 20 (by kernel_rfl) (by kernel_rfl) (fun w w' h hb => h.trans (hb.mono h.size)) (hdr) ?_
                  simp only [pickOps, List.getElem?_cons_zero, List.getElem?_cons_succ]
                  repeat (first | (refine t_skip rfl ?_; (simp only [Act.put, List.setIfInBounds_toArray, List.set_cons_zero, List.set_cons_succ])) | (refine t_run ?_ rfl (fun w1 hw1 => ?_) ?_; rotate_left; (have r0 := rP w1 hw1; have r1 := rQ w1 hw1; have r2 := rL w1 hw1; go_simp; try (with_reducible rfl)); (simp only [Act.put, List.setIfInBounds_toArray, List.set_cons_zero, List.set_cons_succ])))
                  refine t_fresh ?_ ?_ (fun v w' => OwnB 0 f.n (wb f.bs f.k false) v w') (by rfl) (fun w1 hw1 => ?_) (fun v w w' h hb => h.keep hb) (fun w1 hw1 => ?_) ?_
                  rotate_left 2
                  (go_simp; refine ⟨?_, ?_⟩ <;> with_reducible rfl)
                  (go_at_call 22; (with_reducible refine (firstOf_c f.a f.n f.c f.bs f.k w1 (hL8.keep hw1) hisl hLk).mono ?_); rintro e w2 ⟨v, rfl, ⟨g9, c9, rfl, hown9⟩, hb9⟩; exact ⟨_, rfl, ⟨g9, c9, rfl, own_mono hown9 (Nat.zero_le _)⟩, hb9⟩)
                  rintro v8 ⟨-, -, g9, c9, rfl, -⟩
                  (simp only [Act.put, List.setIfInBounds_toArray, List.set_cons_zero, List.set_cons_succ])
                  repeat (first | (refine t_skip rfl ?_; (simp only [Act.put, List.setIfInBounds_toArray, List.set_cons_zero, List.set_cons_succ])) | (refine t_run ?_ rfl (fun w1 hw1 => ?_) ?_; rotate_left; (have r0 := rP w1 hw1.1; have r1 := rQ w1 hw1.1; have r2 := rL w1 hw1.1; go_simp; try (with_reducible rfl)); (simp only [Act.put, List.setIfInBounds_toArray, List.set_cons_zero, List.set_cons_succ])) | (refine t_call ?_ ?_ ?_ rfl (fun w1 hw1 => ?_) (fun w1 hw1 => ?_) ?_; rotate_left 3; (have r0 := rP w1 hw1.1; have r1 := rQ w1 hw1.1; have r2 := rL w1 hw1.1; go_simp; refine ⟨?_, ?_⟩ <;> with_reducible rfl); (first | (go_at_call 21; (with_reducible refine (contains_c e.a (some ⟨g9, 0, none⟩) e.n f.n e.c c9 e.bs (wb f.bs f.k false) e.k z w1 (hz1.keep (hW18.trans (hw1.1.mono hW18.size))) (he8.keep hw1.1) (RB.of_own hw1.2.own) (by simp) (by omega) hev.1 hev.2).mono ?_); rintro e w2 ⟨rfl, hb⟩; refine ⟨?_, hb⟩; with_reducible rfl) | (go_at_call 21; (refine (contains_c e.a (some ⟨g9, 0, none⟩) e.n f.n e.c c9 e.bs (wb f.bs f.k false) e.k z w1 (hz1.keep (hW18.trans (hw1.1.mono hW18.size))) (he8.keep hw1.1) (RB.of_own hw1.2.own) (by simp) (by omega) hev.1 hev.2).mono ?_); rintro e w2 ⟨rfl, hb⟩; refine ⟨?_, hb⟩; with_reducible rfl)); (simp only [Act.put, List.setIfInBounds_toArray, List.set_cons_zero, List.set_cons_succ])))
                  refine t_fresh ?_ ?_ (fun v w' => OwnB 0 f.n (wb f.bs f.k false) v w') (by rfl) (fun w1 hw1 => ?_) (fun v w w' h hb => h.keep hb) (fun w1 hw1 => ?_) ?_
                  rotate_left 2
                  (go_simp; refine ⟨?_, ?_⟩ <;> with_reducible rfl)
                  (go_at_call 22; (with_reducible refine (firstOf_c f.a f.n f.c f.bs f.k w1 (hL8.keep hw1.1) hisl hLk).mono ?_); rintro e w2 ⟨v, rfl, ⟨g9, c9, rfl, hown9⟩, hb9⟩; exact ⟨_, rfl, ⟨g9, c9, rfl, own_mono hown9 (Nat.zero_le _)⟩, hb9⟩)
                  rintro v9 ⟨-, -, g10, c10, rfl, -⟩
                  (simp only [Act.put, List.setIfInBounds_toArray, List.set_cons_zero, List.set_cons_succ])
                  repeat (first | (refine t_skip rfl ?_; (simp only [Act.put, List.setIfInBounds_toArray, List.set_cons_zero, List.set_cons_succ])) | (refine t_run ?_ rfl (fun w1 hw1 => ?_) ?_; rotate_left; (have r0 := rP w1 hw1.1.1; have r1 := rQ w1 hw1.1.1; have r2 := rL w1 hw1.1.1; go_simp; try (with_reducible rfl)); (simp only [Act.put, List.setIfInBounds_toArray, List.set_cons_zero, List.set_cons_succ])) | (refine t_call ?_ ?_ ?_ rfl (fun w1 hw1 => ?_) (fun w1 hw1 => ?_) ?_; rotate_left 3; (have r0 := rP w1 hw1.1.1; have r1 := rQ w1 hw1.1.1; have r2 := rL w1 hw1.1.1; go_simp; refine ⟨?_, ?_⟩ <;> with_reducible rfl); (first | (go_at_call 21; (with_reducible refine (contains_c f.a (some ⟨g10, 0, none⟩) f.n f.n f.c c10 f.bs (wb f.bs f.k false) f.k z w1 (hz1.keep (hW18.trans (hw1.1.1.mono hW18.size))) (hf8.keep hw1.1.1) (RB.of_own hw1.2.own) (by simp) (by omega) hfv.1 hfv.2).mono ?_); rintro e w2 ⟨rfl, hb⟩; refine ⟨?_, hb⟩; with_reducible rfl) | (go_at_call 21; (refine (contains_c f.a (some ⟨g10, 0, none⟩) f.n f.n f.c c10 f.bs (wb f.bs f.k false) f.k z w1 (hz1.keep (hW18.trans (hw1.1.1.mono hW18.size))) (hf8.keep hw1.1.1) (RB.of_own hw1.2.own) (by simp) (by omega) hfv.1 hfv.2).mono ?_); rintro e w2 ⟨rfl, hb⟩; refine ⟨?_, hb⟩; with_reducible rfl)); (simp only [Act.put, List.setIfInBounds_toArray, List.set_cons_zero, List.set_cons_succ])))
                  intro w11 ⟨⟨hw11, _⟩, _⟩
                  simp only [List.drop_succ_cons, List.drop_zero]
                  try rw [hb1]
                  try rw [hb2]
                  clear hb1 hb2
                  have hP11 := bP8.below hw11
                  have hQ11 := bQ8.below hw11
                  have hW11 := hW8.trans (hw11.mono hW8.size)
                  have HPQ := Lib.hid (And.intro hP11 hQ11)
                  clear rP rQ rL hdr hL8 he8 hf8 bP8 bQ8 bL8
                  go_wp2_with fail
                  go_loopw [76] (fun i wr3 => ∃ (u : Nat), u ≤ rn ∧ i = .int .i64 u ∧ Below w11.heap.size w11 wr3) (fun i _ => rn - (intOf i).toNat)
                  case atStart => exact ⟨0, Nat.zero_le _, rfl, Below.refl _ _⟩
                  case round =>
                    obtain ⟨u, hu, rfl, hbu⟩ := hrel
                    have hW12 := hW11.trans (hbu.mono hW11.size)
                    have hW13 := hW6.trans (hW12.mono hW6.size)
                    by_cases huN : u < rn
                    · obtain ⟨gr, or, eb, hRR, hgr, heb, hcr, hbr, hnil, hcap⟩ := (hp1.keep hW13).at huN
                      subst hRR
                      have HNIL := Lib.hid hnil
                      clear heb hnil
                      go_wp2_with fail
                      refine (isAddress_c eb.a eb.n eb.c wr).mono ?_
                      rintro e1 w12 ⟨rfl, hb12⟩
                      cases had : (eb.n == 4 || eb.n == 16)
                      · have hbu2 := hbu.trans (hb12.mono hbu.size)
                        go_wp2
                        go_roundw
                        case rel => exact ⟨u + 1, by omega, by go_num, hbu2⟩
                        case measure => simp [intOf]; omega
                      · have hbu2 := hbu.trans (hb12.mono hbu.size)
                        have hW14 := hW13.trans (hb12.mono hW13.size)
                        have cP := (HPQ.out.1.below hbu2).cell
                        have hbr2 := hbr.keep hb12
                        clear hcr hbr hb12
                        go_wp2_with fail
                        refine (contains_c e.a eb.a e.n eb.n e.c eb.c e.bs eb.bs e.k z w12 (hz1.keep hW14) ((hrp.keep hW14).2.2 e HE.out.1) hbr2 HNIL.out (by omega) hev.1 hev.2).mono ?_
                        rintro e1 w13 ⟨rfl, hb13⟩
                        have hbu3 := hbu2.trans (hb13.mono hbu2.size)
                        have hW15 := hW14.trans (hb13.mono hW14.size)
                        have hbr3 := hbr2.keep hb13
                        clear cP hb13 hbr2
                        cases hi1 : inP e.bs e.k eb.bs
                        · go_wp2
                          go_roundw
                          case rel => exact ⟨u + 1, by omega, by go_num, hbu3⟩
                          case measure => simp [intOf]; omega
                        · have cQ := (HPQ.out.2.below hbu3).cell
                          go_wp2_with fail
                          refine (contains_c f.a eb.a f.n eb.n f.c eb.c f.bs eb.bs f.k z w13 (hz1.keep hW15) ((hrp.keep hW15).2.2 f HF.out.1) hbr3 HNIL.out (by omega) hfv.1 hfv.2).mono ?_
                          rintro e1 w14 ⟨rfl, hb14⟩
                          have hbu4 := hbu3.trans (hb14.mono hbu3.size)
                          clear cQ hb14
                          cases hi2 : inP f.bs f.k eb.bs
                          · go_wp2
                            go_roundw
                            case rel => exact ⟨u + 1, by omega, by go_num, hbu4⟩
                            case measure => simp [intOf]; omega
                          · have hxt := HXV.out.2 eb.bs hi1 hi2
                            clear hxt
                            go_wp2
                            go_roundw
                            case rel => exact ⟨u + 1, by omega, by go_num, hbu4⟩
                            case measure => simp [intOf]; omega
                    · obtain rfl : u = rn := by omega
                      go_wp2
                      go_roundw
                      case rel => exact ⟨t + 1, by omega, by go_num, hW12⟩
                      case measure => simp [intOf]; omega

          · rw [if_neg hgt] at hx5
            have HXV := Lib.hid (And.intro hx5 hx4)
            have ha2 : Below (wr.alloc (.cells #[.slice f.a f.n f.c, .string ⟨#[]⟩, .int .i64 f.k] 29)).heap.size (wr.alloc (.cells #[.slice f.a f.n f.c, .string ⟨#[]⟩, .int .i64 f.k] 29)) ((wr.alloc (.cells #[.slice f.a f.n f.c, .string ⟨#[]⟩, .int .i64 f.k] 29)).alloc (.cells #[.slice e.a e.n e.c, .string ⟨#[]⟩, .int .i64 e.k] 29)) := (Below.refl _ _).alloc (Nat.le_refl _) _
            have ha3 := ha1.trans (ha2.mono ha1.size)
            have hW8 := hbt.trans (ha3.mono hbt.size)
            have bP8 := hP7.below ha3
            have bQ8 : Blk ((wr.alloc (.cells #[.slice f.a f.n f.c, .string ⟨#[]⟩, .int .i64 f.k] 29)).alloc (.cells #[.slice e.a e.n e.c, .string ⟨#[]⟩, .int .i64 e.k] 29)) gQ 29 #[.slice f.a f.n f.c, .string ⟨#[]⟩, .int .i64 f.k] := by rw [hgQ]; exact (Below.heap_alloc _ _ _ (by simp)).trans (heap_alloc_new _ _)
            have bL8 : Blk ((wr.alloc (.cells #[.slice f.a f.n f.c, .string ⟨#[]⟩, .int .i64 f.k] 29)).alloc (.cells #[.slice e.a e.n e.c, .string ⟨#[]⟩, .int .i64 e.k] 29)) (gQ + 1) 29 #[.slice e.a e.n e.c, .string ⟨#[]⟩, .int .i64 e.k] := by
              have := heap_alloc_new (wr.alloc (.cells #[.slice f.a f.n f.c, .string ⟨#[]⟩, .int .i64 f.k] 29)) (.cells #[.slice e.a e.n e.c, .string ⟨#[]⟩, .int .i64 e.k] 29)
              rw [hgQ]
              simpa [Blk] using this
            have HGQ := Lib.hid hgQ
            clear hx5 hx4 ha1 ha2 ha3 hP7 hgQ
            go_wp2_with fail
            rw [← HGQ.out]
            clear hx1 hc0 hc1 hc2 hbf cP lP7 HGQ
            generalize (wr.alloc (.cells #[.slice f.a f.n f.c, .string ⟨#[]⟩, .int .i64 f.k] 29)).alloc (.cells #[.slice e.a e.n e.c, .string ⟨#[]⟩, .int .i64 e.k] 29) = w8 at *
            have hW18 := hW6.trans (hW8.mono hW6.size)
            have he8 := (hrp.keep hW18).2.2 e HE.out.1
            have hf8 := (hrp.keep hW18).2.2 f HF.out.1
            have hL8 := he8
            have hisl : isLen e.n := by rw [← hL8.1]; exact hev.1
            have hLk : e.k ≤ 8 * e.n := by rw [← hL8.1]; exact hev.2
            have hL16 : e.n ≤ 16 := by unfold isLen at hisl; omega
            have lP := bP8.lt
            have lQ := bQ8.lt
            have lL := bL8.lt
            have rP : ∀ w', Below w8.heap.size w8 w' → ∀ i, w'.cell? ⟨gP, i, none⟩ = #[Value.slice e.a e.n e.c, .string ⟨#[]⟩, .int .i64 e.k][i]? := fun w' h i => (h.cell (p := ⟨gP, i, none⟩) lP).trans (bP8.cell i)
            have rQ : ∀ w', Below w8.heap.size w8 w' → ∀ i, w'.cell? ⟨gQ, i, none⟩ = #[Value.slice f.a f.n f.c, .string ⟨#[]⟩, .int .i64 f.k][i]? := fun w' h i => (h.cell (p := ⟨gQ, i, none⟩) lQ).trans (bQ8.cell i)
            have rL : ∀ w', Below w8.heap.size w8 w' → ∀ i, w'.cell? ⟨gQ + 1, i, none⟩ = #[Value.slice e.a e.n e.c, .string ⟨#[]⟩, .int .i64 e.k][i]? := fun w' h i => (h.cell (p := ⟨gQ + 1, i, none⟩) lL).trans (bL8.cell i)
            have hdr : Below w8.heap.size w8 w8.drew := ⟨rfl, rfl, rfl, Nat.le_refl _, fun _ _ => rfl⟩
            clear lP lQ lL
            cases hb1 : inP e.bs e.k (wb e.bs e.k false)
            · have hxf : x = false := by rw [HXV.out.1, hb1]; rfl
              subst hxf
              have hne : ((j : Int) == t) = false := by simp; intro h; exact absurd (HX0.out (by omega)) (by simp)
              have hne2 : (j == t) = false := by simp; intro h; exact absurd (HX0.out (by omega)) (by simp)
              refine region_pick (Below w8.heap.size w8) [(0, false, none), (1, false, none), (2, false, none), (3, true, none), (4, false, none), (5, false, none), (6, false, none), (7, false, none), (8, true, none), (9, false, none), (10, false, none), (11, false, none), (12, false, none), (13, false, none), (14, false, none), (15, false, none), (16, false, none), (17, false, none), (18, false, none), (19, false, none)] 20 (by kernel_rfl) (by kernel_rfl) (fun w w' h hb => h.trans (hb.mono h.size)) (hdr) ?_
              simp only [pickOps, List.getElem?_cons_zero, List.getElem?_cons_succ]
              repeat (first | (refine t_skip rfl ?_; (simp only [Act.put, List.setIfInBounds_toArray, List.set_cons_zero, List.set_cons_succ])) | (refine t_run ?_ rfl (fun w1 hw1 => ?_) ?_; rotate_left; (have r0 := rP w1 hw1; have r1 := rQ w1 hw1; have r2 := rL w1 hw1; go_simp; try (with_reducible rfl)); (simp only [Act.put, List.setIfInBounds_toArray, List.set_cons_zero, List.set_cons_succ])))
              refine t_fresh ?_ ?_ (fun v w' => OwnB 0 e.n (wb e.bs e.k false) v w') (by rfl) (fun w1 hw1 => ?_) (fun v w w' h hb => h.keep hb) (fun w1 hw1 => ?_) ?_
              rotate_left 2
              (go_simp; refine ⟨?_, ?_⟩ <;> with_reducible rfl)
              (go_at_call 22; (with_reducible refine (firstOf_c e.a e.n e.c e.bs e.k w1 (hL8.keep hw1) hisl hLk).mono ?_); rintro e w2 ⟨v, rfl, ⟨g9, c9, rfl, hown9⟩, hb9⟩; exact ⟨_, rfl, ⟨g9, c9, rfl, own_mono hown9 (Nat.zero_le _)⟩, hb9⟩)
              rintro v8 ⟨-, -, g9, c9, rfl, -⟩
              (simp only [Act.put, List.setIfInBounds_toArray, List.set_cons_zero, List.set_cons_succ])
              repeat (first | (refine t_skip rfl ?_; (simp only [Act.put, List.setIfInBounds_toArray, List.set_cons_zero, List.set_cons_succ])) | (refine t_run ?_ rfl (fun w1 hw1 => ?_) ?_; rotate_left; (have r0 := rP w1 hw1.1; have r1 := rQ w1 hw1.1; have r2 := rL w1 hw1.1; go_simp; try (with_reducible rfl)); (simp only [Act.put, List.setIfInBounds_toArray, List.set_cons_zero, List.set_cons_succ])) | (refine t_call ?_ ?_ ?_ rfl (fun w1 hw1 => ?_) (fun w1 hw1 => ?_) ?_; rotate_left 3; (have r0 := rP w1 hw1.1; have r1 := rQ w1 hw1.1; have r2 := rL w1 hw1.1; go_simp; refine ⟨?_, ?_⟩ <;> with_reducible rfl); (first | (go_at_call 21; (with_reducible refine (contains_c e.a (some ⟨g9, 0, none⟩) e.n e.n e.c c9 e.bs (wb e.bs e.k false) e.k z w1 (hz1.keep (hW18.trans (hw1.1.mono hW18.size))) (he8.keep hw1.1) (RB.of_own hw1.2.own) (by simp) (by omega) hev.1 hev.2).mono ?_); rintro e w2 ⟨rfl, hb⟩; refine ⟨?_, hb⟩; with_reducible rfl) | (go_at_call 21; (refine (contains_c e.a (some ⟨g9, 0, none⟩) e.n e.n e.c c9 e.bs (wb e.bs e.k false) e.k z w1 (hz1.keep (hW18.trans (hw1.1.mono hW18.size))) (he8.keep hw1.1) (RB.of_own hw1.2.own) (by simp) (by omega) hev.1 hev.2).mono ?_); rintro e w2 ⟨rfl, hb⟩; refine ⟨?_, hb⟩; with_reducible rfl)); (simp only [Act.put, List.setIfInBounds_toArray, List.set_cons_zero, List.set_cons_succ])))
              intro w11 ⟨hw11, _⟩
              simp only [List.drop_succ_cons, List.drop_zero]
              try rw [hb1]
              clear hb1
              have hP11 := bP8.below hw11
              have hQ11 := bQ8.below hw11
              have hW11 := hW8.trans (hw11.mono hW8.size)
              have HPQ := Lib.hid (And.intro hP11 hQ11)
              clear rP rQ rL hdr hL8 he8 hf8 bP8 bQ8 bL8
              go_wp2_with fail
              go_loopw [76] (fun i wr3 => ∃ (u : Nat), u ≤ rn ∧ i = .int .i64 u ∧ Below w11.heap.size w11 wr3) (fun i _ => rn - (intOf i).toNat)
              case atStart => exact ⟨0, Nat.zero_le _, rfl, Below.refl _ _⟩
              case round =>
                obtain ⟨u, hu, rfl, hbu⟩ := hrel
                have hW12 := hW11.trans (hbu.mono hW11.size)
                have hW13 := hW6.trans (hW12.mono hW6.size)
                by_cases huN : u < rn
                · obtain ⟨gr, or, eb, hRR, hgr, heb, hcr, hbr, hnil, hcap⟩ := (hp1.keep hW13).at huN
                  subst hRR
                  have HNIL := Lib.hid hnil
                  clear heb hnil
                  go_wp2_with fail
                  refine (isAddress_c eb.a eb.n eb.c wr).mono ?_
                  rintro e1 w12 ⟨rfl, hb12⟩
                  cases had : (eb.n == 4 || eb.n == 16)
                  · have hbu2 := hbu.trans (hb12.mono hbu.size)
                    go_wp2
                    go_roundw
                    case rel => exact ⟨u + 1, by omega, by go_num, hbu2⟩
                    case measure => simp [intOf]; omega
                  · have hbu2 := hbu.trans (hb12.mono hbu.size)
                    have hW14 := hW13.trans (hb12.mono hW13.size)
                    have cP := (HPQ.out.1.below hbu2).cell
                    have hbr2 := hbr.keep hb12
                    clear hcr hbr hb12
                    go_wp2_with fail
                    refine (contains_c e.a eb.a e.n eb.n e.c eb.c e.bs eb.bs e.k z w12 (hz1.keep hW14) ((hrp.keep hW14).2.2 e HE.out.1) hbr2 HNIL.out (by omega) hev.1 hev.2).mono ?_
                    rintro e1 w13 ⟨rfl, hb13⟩
                    have hbu3 := hbu2.trans (hb13.mono hbu2.size)
                    have hW15 := hW14.trans (hb13.mono hW14.size)
                    have hbr3 := hbr2.keep hb13
                    clear cP hb13 hbr2
                    cases hi1 : inP e.bs e.k eb.bs
                    · go_wp2
                      go_roundw
                      case rel => exact ⟨u + 1, by omega, by go_num, hbu3⟩
                      case measure => simp [intOf]; omega
                    · have cQ := (HPQ.out.2.below hbu3).cell
                      go_wp2_with fail
                      refine (contains_c f.a eb.a f.n eb.n f.c eb.c f.bs eb.bs f.k z w13 (hz1.keep hW15) ((hrp.keep hW15).2.2 f HF.out.1) hbr3 HNIL.out (by omega) hfv.1 hfv.2).mono ?_
                      rintro e1 w14 ⟨rfl, hb14⟩
                      have hbu4 := hbu3.trans (hb14.mono hbu3.size)
                      clear cQ hb14
                      cases hi2 : inP f.bs f.k eb.bs
                      · go_wp2
                        go_roundw
                        case rel => exact ⟨u + 1, by omega, by go_num, hbu4⟩
                        case measure => simp [intOf]; omega
                      · have hxt := HXV.out.2 eb.bs hi1 hi2
                        exact absurd hxt (by simp)
                · obtain rfl : u = rn := by omega
                  go_wp2
                  go_roundw
                  case rel => exact ⟨t + 1, by omega, by go_num, hW12⟩
                  case measure => simp [intOf]; omega
            · cases hb2 : inP f.bs f.k (wb e.bs e.k false)
              · have hxf : x = false := by rw [HXV.out.1, hb1, hb2]; rfl
                subst hxf
                have hne : ((j : Int) == t) = false := by simp; intro h; exact absurd (HX0.out (by omega)) (by simp)
                have hne2 : (j == t) = false := by simp; intro h; exact absurd (HX0.out (by omega)) (by simp)
                refine region_pick (Below w8.heap.size w8) [(0, false, none), (1, false, none), (2, false, none), (3, true, none), (4, false, none), (5, false, none), (6, false, none), (7, false, none), (8, true, none), (9, false, none), (10, false, none), (11, false, none), (12, false, none), (13, false, none), (14, false, none), (15, false, none), (16, false, none), (17, false, none), (18, false, none), (19, false, none)] 20 (by kernel_rfl) (by kernel_rfl) (fun w w' h hb => h.trans (hb.mono h.size)) (hdr) ?_
                simp only [pickOps, List.getElem?_cons_zero, List.getElem?_cons_succ]
                repeat (first | (refine t_skip rfl ?_; (simp only [Act.put, List.setIfInBounds_toArray, List.set_cons_zero, List.set_cons_succ])) | (refine t_run ?_ rfl (fun w1 hw1 => ?_) ?_; rotate_left; (have r0 := rP w1 hw1; have r1 := rQ w1 hw1; have r2 := rL w1 hw1; go_simp; try (with_reducible rfl)); (simp only [Act.put, List.setIfInBounds_toArray, List.set_cons_zero, List.set_cons_succ])))
                refine t_fresh ?_ ?_ (fun v w' => OwnB 0 e.n (wb e.bs e.k false) v w') (by rfl) (fun w1 hw1 => ?_) (fun v w w' h hb => h.keep hb) (fun w1 hw1 => ?_) ?_
                rotate_left 2
                (go_simp; refine ⟨?_, ?_⟩ <;> with_reducible rfl)
                (go_at_call 22; (with_reducible refine (firstOf_c e.a e.n e.c e.bs e.k w1 (hL8.keep hw1) hisl hLk).mono ?_); rintro e w2 ⟨v, rfl, ⟨g9, c9, rfl, hown9⟩, hb9⟩; exact ⟨_, rfl, ⟨g9, c9, rfl, own_mono hown9 (Nat.zero_le _)⟩, hb9⟩)
                rintro v8 ⟨-, -, g9, c9, rfl, -⟩
                (simp only [Act.put, List.setIfInBounds_toArray, List.set_cons_zero, List.set_cons_succ])
                repeat (first | (refine t_skip rfl ?_; (simp only [Act.put, List.setIfInBounds_toArray, List.set_cons_zero, List.set_cons_succ])) | (refine t_run ?_ rfl (fun w1 hw1 => ?_) ?_; rotate_left; (have r0 := rP w1 hw1.1; have r1 := rQ w1 hw1.1; have r2 := rL w1 hw1.1; go_simp; try (with_reducible rfl)); (simp only [Act.put, List.setIfInBounds_toArray, List.set_cons_zero, List.set_cons_succ])) | (refine t_call ?_ ?_ ?_ rfl (fun w1 hw1 => ?_) (fun w1 hw1 => ?_) ?_; rotate_left 3; (have r0 := rP w1 hw1.1; have r1 := rQ w1 hw1.1; have r2 := rL w1 hw1.1; go_simp; refine ⟨?_, ?_⟩ <;> with_reducible rfl); (first | (go_at_call 21; (with_reducible refine (contains_c e.a (some ⟨g9, 0, none⟩) e.n e.n e.c c9 e.bs (wb e.bs e.k false) e.k z w1 (hz1.keep (hW18.trans (hw1.1.mono hW18.size))) (he8.keep hw1.1) (RB.of_own hw1.2.own) (by simp) (by omega) hev.1 hev.2).mono ?_); rintro e w2 ⟨rfl, hb⟩; refine ⟨?_, hb⟩; with_reducible rfl) | (go_at_call 21; (refine (contains_c e.a (some ⟨g9, 0, none⟩) e.n e.n e.c c9 e.bs (wb e.bs e.k false) e.k z w1 (hz1.keep (hW18.trans (hw1.1.mono hW18.size))) (he8.keep hw1.1) (RB.of_own hw1.2.own) (by simp) (by omega) hev.1 hev.2).mono ?_); rintro e w2 ⟨rfl, hb⟩; refine ⟨?_, hb⟩; with_reducible rfl)); (simp only [Act.put, List.setIfInBounds_toArray, List.set_cons_zero, List.set_cons_succ])))
                refine t_fresh ?_ ?_ (fun v w' => OwnB 0 e.n (wb e.bs e.k false) v w') (by rfl) (fun w1 hw1 => ?_) (fun v w w' h hb => h.keep hb) (fun w1 hw1 => ?_) ?_
                rotate_left 2
                (go_simp; refine ⟨?_, ?_⟩ <;> with_reducible rfl)
                (go_at_call 22; (with_reducible refine (firstOf_c e.a e.n e.c e.bs e.k w1 (hL8.keep hw1.1) hisl hLk).mono ?_); rintro e w2 ⟨v, rfl, ⟨g9, c9, rfl, hown9⟩, hb9⟩; exact ⟨_, rfl, ⟨g9, c9, rfl, own_mono hown9 (Nat.zero_le _)⟩, hb9⟩)
                rintro v9 ⟨-, -, g10, c10, rfl, -⟩
                (simp only [Act.put, List.setIfInBounds_toArray, List.set_cons_zero, List.set_cons_succ])
                repeat (first | (refine t_skip rfl ?_; (simp only [Act.put, List.setIfInBounds_toArray, List.set_cons_zero, List.set_cons_succ])) | (refine t_run ?_ rfl (fun w1 hw1 => ?_) ?_; rotate_left; (have r0 := rP w1 hw1.1.1; have r1 := rQ w1 hw1.1.1; have r2 := rL w1 hw1.1.1; go_simp; try (with_reducible rfl)); (simp only [Act.put, List.setIfInBounds_toArray, List.set_cons_zero, List.set_cons_succ])) | (refine t_call ?_ ?_ ?_ rfl (fun w1 hw1 => ?_) (fun w1 hw1 => ?_) ?_; rotate_left 3; (have r0 := rP w1 hw1.1.1; have r1 := rQ w1 hw1.1.1; have r2 := rL w1 hw1.1.1; go_simp; refine ⟨?_, ?_⟩ <;> with_reducible rfl); (first | (go_at_call 21; (with_reducible refine (contains_c f.a (some ⟨g10, 0, none⟩) f.n e.n f.c c10 f.bs (wb e.bs e.k false) f.k z w1 (hz1.keep (hW18.trans (hw1.1.1.mono hW18.size))) (hf8.keep hw1.1.1) (RB.of_own hw1.2.own) (by simp) (by omega) hfv.1 hfv.2).mono ?_); rintro e w2 ⟨rfl, hb⟩; refine ⟨?_, hb⟩; with_reducible rfl) | (go_at_call 21; (refine (contains_c f.a (some ⟨g10, 0, none⟩) f.n e.n f.c c10 f.bs (wb e.bs e.k false) f.k z w1 (hz1.keep (hW18.trans (hw1.1.1.mono hW18.size))) (hf8.keep hw1.1.1) (RB.of_own hw1.2.own) (by simp) (by omega) hfv.1 hfv.2).mono ?_); rintro e w2 ⟨rfl, hb⟩; refine ⟨?_, hb⟩; with_reducible rfl)); (simp only [Act.put, List.setIfInBounds_toArray, List.set_cons_zero, List.set_cons_succ])))
                intro w11 ⟨⟨hw11, _⟩, _⟩
                simp only [List.drop_succ_cons, List.drop_zero]
                try rw [hb1]
                try rw [hb2]
                clear hb1 hb2
                have hP11 := bP8.below hw11
                have hQ11 := bQ8.below hw11
                have hW11 := hW8.trans (hw11.mono hW8.size)
                have HPQ := Lib.hid (And.intro hP11 hQ11)
                clear rP rQ rL hdr hL8 he8 hf8 bP8 bQ8 bL8
                go_wp2_with fail
                go_loopw [76] (fun i wr3 => ∃ (u : Nat), u ≤ rn ∧ i = .int .i64 u ∧ Below w11.heap.size w11 wr3) (fun i _ => rn - (intOf i).toNat)
                case atStart => exact ⟨0, Nat.zero_le _, rfl, Below.refl _ _⟩
                case round =>
                  obtain ⟨u, hu, rfl, hbu⟩ := hrel
                  have hW12 := hW11.trans (hbu.mono hW11.size)
                  have hW13 := hW6.trans (hW12.mono hW6.size)
                  by_cases huN : u < rn
                  · obtain ⟨gr, or, eb, hRR, hgr, heb, hcr, hbr, hnil, hcap⟩ := (hp1.keep hW13).at huN
                    subst hRR
                    have HNIL := Lib.hid hnil
                    clear heb hnil
                    go_wp2_with fail
                    refine (isAddress_c eb.a eb.n eb.c wr).mono ?_
                    rintro e1 w12 ⟨rfl, hb12⟩
                    cases had : (eb.n == 4 || eb.n == 16)
                    · have hbu2 := hbu.trans (hb12.mono hbu.size)
                      go_wp2
                      go_roundw
                      case rel => exact ⟨u + 1, by omega, by go_num, hbu2⟩
                      case measure => simp [intOf]; omega
                    · have hbu2 := hbu.trans (hb12.mono hbu.size)
                      have hW14 := hW13.trans (hb12.mono hW13.size)
                      have cP := (HPQ.out.1.below hbu2).cell
                      have hbr2 := hbr.keep hb12
                      clear hcr hbr hb12
                      go_wp2_with fail
                      refine (contains_c e.a eb.a e.n eb.n e.c eb.c e.bs eb.bs e.k z w12 (hz1.keep hW14) ((hrp.keep hW14).2.2 e HE.out.1) hbr2 HNIL.out (by omega) hev.1 hev.2).mono ?_
                      rintro e1 w13 ⟨rfl, hb13⟩
                      have hbu3 := hbu2.trans (hb13.mono hbu2.size)
                      have hW15 := hW14.trans (hb13.mono hW14.size)
                      have hbr3 := hbr2.keep hb13
                      clear cP hb13 hbr2
                      cases hi1 : inP e.bs e.k eb.bs
                      · go_wp2
                        go_roundw
                        case rel => exact ⟨u + 1, by omega, by go_num, hbu3⟩
                        case measure => simp [intOf]; omega
                      · have cQ := (HPQ.out.2.below hbu3).cell
                        go_wp2_with fail
                        refine (contains_c f.a eb.a f.n eb.n f.c eb.c f.bs eb.bs f.k z w13 (hz1.keep hW15) ((hrp.keep hW15).2.2 f HF.out.1) hbr3 HNIL.out (by omega) hfv.1 hfv.2).mono ?_
                        rintro e1 w14 ⟨rfl, hb14⟩
                        have hbu4 := hbu3.trans (hb14.mono hbu3.size)
                        clear cQ hb14
                        cases hi2 : inP f.bs f.k eb.bs
                        · go_wp2
                          go_roundw
                          case rel => exact ⟨u + 1, by omega, by go_num, hbu4⟩
                          case measure => simp [intOf]; omega
                        · have hxt := HXV.out.2 eb.bs hi1 hi2
                          exact absurd hxt (by simp)
                  · obtain rfl : u = rn := by omega
                    go_wp2
                    go_roundw
                    case rel => exact ⟨t + 1, by omega, by go_num, hW12⟩
                    case measure => simp [intOf]; omega
              · have hxf : x = true := by rw [HXV.out.1, hb1, hb2]; rfl
                subst hxf
                obtain ⟨y, hy⟩ : ∃ y, ((j : Int) == t) = y := ⟨_, rfl⟩
                have hy2 : (j == t) = y := by rw [← hy, Bool.eq_iff_iff, beq_iff_eq, beq_iff_eq]; omega
                cases y
                all_goals
                  refine region_pick (Below w8.heap.size w8) [(0, false, none), (1, false, none), (2, false, none), (3, true, none), (4, false, none), (5, false, none), (6, false, none), (7, false, none), (8, true, none), (9, false, none), (10, false, none), (11, false, none), (12, false, none), (13, false, none), (14, false, none), (15, false, none), (16, false, none), (17, false, none), (18, false, none), (19, false, none)] 20 (by kernel_rfl) (by kernel_rfl) (fun w w' h hb => h.trans (hb.mono h.size)) (hdr) ?_
                  simp only [pickOps, List.getElem?_cons_zero, List.getElem?_cons_succ]
                  repeat (first | (refine t_skip rfl ?_; (simp only [Act.put, List.setIfInBounds_toArray, List.set_cons_zero, List.set_cons_succ])) | (refine t_run ?_ rfl (fun w1 hw1 => ?_) ?_; rotate_left; (have r0 := rP w1 hw1; have r1 := rQ w1 hw1; have r2 := rL w1 hw1; go_simp; try (with_reducible rfl)); (simp only [Act.put, List.setIfInBounds_toArray, List.set_cons_zero, List.set_cons_succ])))
                  refine t_fresh ?_ ?_ (fun v w' => OwnB 0 e.n (wb e.bs e.k false) v w') (by rfl) (fun w1 hw1 => ?_) (fun v w w' h hb => h.keep hb) (fun w1 hw1 => ?_) ?_
                  rotate_left 2
                  (go_simp; refine ⟨?_, ?_⟩ <;> with_reducible rfl)
                  (go_at_call 22; (with_reducible refine (firstOf_c e.a e.n e.c e.bs e.k w1 (hL8.keep hw1) hisl hLk).mono ?_); rintro e w2 ⟨v, rfl, ⟨g9, c9, rfl, hown9⟩, hb9⟩; exact ⟨_, rfl, ⟨g9, c9, rfl, own_mono hown9 (Nat.zero_le _)⟩, hb9⟩)
                  rintro v8 ⟨-, -, g9, c9, rfl, -⟩
                  (simp only [Act.put, List.setIfInBounds_toArray, List.set_cons_zero, List.set_cons_succ])
                  repeat (first | (refine t_skip rfl ?_; (simp only [Act.put, List.setIfInBounds_toArray, List.set_cons_zero, List.set_cons_succ])) | (refine t_run ?_ rfl (fun w1 hw1 => ?_) ?_; rotate_left; (have r0 := rP w1 hw1.1; have r1 := rQ w1 hw1.1; have r2 := rL w1 hw1.1; go_simp; try (with_reducible rfl)); (simp only [Act.put, List.setIfInBounds_toArray, List.set_cons_zero, List.set_cons_succ])) | (refine t_call ?_ ?_ ?_ rfl (fun w1 hw1 => ?_) (fun w1 hw1 => ?_) ?_; rotate_left 3; (have r0 := rP w1 hw1.1; have r1 := rQ w1 hw1.1; have r2 := rL w1 hw1.1; go_simp; refine ⟨?_, ?_⟩ <;> with_reducible rfl); (first | (go_at_call 21; (with_reducible refine (contains_c e.a (some ⟨g9, 0, none⟩) e.n e.n e.c c9 e.bs (wb e.bs e.k false) e.k z w1 (hz1.keep (hW18.trans (hw1.1.mono hW18.size))) (he8.keep hw1.1) (RB.of_own hw1.2.own) (by simp) (by omega) hev.1 hev.2).mono ?_); rintro e w2 ⟨rfl, hb⟩; refine ⟨?_, hb⟩; with_reducible rfl) | (go_at_call 21; (refine (contains_c e.a (some ⟨g9, 0, none⟩) e.n e.n e.c c9 e.bs (wb e.bs e.k false) e.k z w1 (hz1.keep (hW18.trans (hw1.1.mono hW18.size))) (he8.keep hw1.1) (RB.of_own hw1.2.own) (by simp) (by omega) hev.1 hev.2).mono ?_); rintro e w2 ⟨rfl, hb⟩; refine ⟨?_, hb⟩; with_reducible rfl)); (simp only [Act.put, List.setIfInBounds_toArray, List.set_cons_zero, List.set_cons_succ])))
                  refine t_fresh ?_ ?_ (fun v w' => OwnB 0 e.n (wb e.bs e.k false) v w') (by rfl) (fun w1 hw1 => ?_) (fun v w w' h hb => h.keep hb) (fun w1 hw1 => ?_) ?_
                  rotate_left 2
                  (go_simp; refine ⟨?_, ?_⟩ <;> with_reducible rfl)
                  (go_at_call 22; (with_reducible refine (firstOf_c e.a e.n e.c e.bs e.k w1 (hL8.keep hw1.1) hisl hLk).mono ?_); rintro e w2 ⟨v, rfl, ⟨g9, c9, rfl, hown9⟩, hb9⟩; exact ⟨_, rfl, ⟨g9, c9, rfl, own_mono hown9 (Nat.zero_le _)⟩, hb9⟩)
                  rintro v9 ⟨-, -, g10, c10, rfl, -⟩
                  (simp only [Act.put, List.setIfInBounds_toArray, List.set_cons_zero, List.set_cons_succ])
                  repeat (first | (refine t_skip rfl ?_; (simp only [Act.put, List.setIfInBounds_toArray, List.set_cons_zero, List.set_cons_succ])) | (refine t_run ?_ rfl (fun w1 hw1 => ?_) ?_; rotate_left; (have r0 := rP w1 hw1.1.1; have r1 := rQ w1 hw1.1.1; have r2 := rL w1 hw1.1.1; go_simp; try (with_reducible rfl)); (simp only [Act.put, List.setIfInBounds_toArray, List.set_cons_zero, List.set_cons_succ])) | (refine t_call ?_ ?_ ?_ rfl (fun w1 hw1 => ?_) (fun w1 hw1 => ?_) ?_; rotate_left 3; (have r0 := rP w1 hw1.1.1; have r1 := rQ w1 hw1.1.1; have r2 := rL w1 hw1.1.1; go_simp; refine ⟨?_, ?_⟩ <;> with_reducible rfl); (first | (go_at_call 21; (with_reducible refine (contains_c f.a (some ⟨g10, 0, none⟩) f.n e.n f.c c10 f.bs (wb e.bs e.k false) f.k z w1 (hz1.keep (hW18.trans (hw1.1.1.mono hW18.size))) (hf8.keep hw1.1.1) (RB.of_own hw1.2.own) (by simp) (by omega) hfv.1 hfv.2).mono ?_); rintro e w2 ⟨rfl, hb⟩; refine ⟨?_, hb⟩; with_reducible rfl) | (go_at_call 21; (refine (contains_c f.a (some ⟨g10, 0, none⟩) f.n e.n f.c c10 f.bs (wb e.bs e.k false) f.k z w1 (hz1.keep (hW18.trans (hw1.1.1.mono hW18.size))) (hf8.keep hw1.1.1) (RB.of_own hw1.2.own) (by simp) (by omega) hfv.1 hfv.2).mono ?_); rintro e w2 ⟨rfl, hb⟩; refine ⟨?_, hb⟩; with_reducible rfl)); (simp only [Act.put, List.setIfInBounds_toArray, List.set_cons_zero, List.set_cons_succ])))
                  intro w11 ⟨⟨hw11, _⟩, _⟩
                  simp only [List.drop_succ_cons, List.drop_zero]
                  try rw [hb1]
                  try rw [hb2]
                  clear hb1 hb2
                  have hP11 := bP8.below hw11
                  have hQ11 := bQ8.below hw11
                  have hW11 := hW8.trans (hw11.mono hW8.size)
                  have HPQ := Lib.hid (And.intro hP11 hQ11)
                  clear rP rQ rL hdr hL8 he8 hf8 bP8 bQ8 bL8
                  go_wp2_with fail
                  go_loopw [76] (fun i wr3 => ∃ (u : Nat), u ≤ rn ∧ i = .int .i64 u ∧ Below w11.heap.size w11 wr3) (fun i _ => rn - (intOf i).toNat)
                  case atStart => exact ⟨0, Nat.zero_le _, rfl, Below.refl _ _⟩
                  case round =>
                    obtain ⟨u, hu, rfl, hbu⟩ := hrel
                    have hW12 := hW11.trans (hbu.mono hW11.size)
                    have hW13 := hW6.trans (hW12.mono hW6.size)
                    by_cases huN : u < rn
                    · obtain ⟨gr, or, eb, hRR, hgr, heb, hcr, hbr, hnil, hcap⟩ := (hp1.keep hW13).at huN
                      subst hRR
                      have HNIL := Lib.hid hnil
                      clear heb hnil
                      go_wp2_with fail
                      refine (isAddress_c eb.a eb.n eb.c wr).mono ?_
                      rintro e1 w12 ⟨rfl, hb12⟩
                      cases had : (eb.n == 4 || eb.n == 16)
                      · have hbu2 := hbu.trans (hb12.mono hbu.size)
                        go_wp2
                        go_roundw
                        case rel => exact ⟨u + 1, by omega, by go_num, hbu2⟩
                        case measure => simp [intOf]; omega
                      · have hbu2 := hbu.trans (hb12.mono hbu.size)
                        have hW14 := hW13.trans (hb12.mono hW13.size)
                        have cP := (HPQ.out.1.below hbu2).cell
                        have hbr2 := hbr.keep hb12
                        clear hcr hbr hb12
                        go_wp2_with fail
                        refine (contains_c e.a eb.a e.n eb.n e.c eb.c e.bs eb.bs e.k z w12 (hz1.keep hW14) ((hrp.keep hW14).2.2 e HE.out.1) hbr2 HNIL.out (by omega) hev.1 hev.2).mono ?_
                        rintro e1 w13 ⟨rfl, hb13⟩
                        have hbu3 := hbu2.trans (hb13.mono hbu2.size)
                        have hW15 := hW14.trans (hb13.mono hW14.size)
                        have hbr3 := hbr2.keep hb13
                        clear cP hb13 hbr2
                        cases hi1 : inP e.bs e.k eb.bs
                        · go_wp2
                          go_roundw
                          case rel => exact ⟨u + 1, by omega, by go_num, hbu3⟩
                          case measure => simp [intOf]; omega
                        · have cQ := (HPQ.out.2.below hbu3).cell
                          go_wp2_with fail
                          refine (contains_c f.a eb.a f.n eb.n f.c eb.c f.bs eb.bs f.k z w13 (hz1.keep hW15) ((hrp.keep hW15).2.2 f HF.out.1) hbr3 HNIL.out (by omega) hfv.1 hfv.2).mono ?_
                          rintro e1 w14 ⟨rfl, hb14⟩
                          have hbu4 := hbu3.trans (hb14.mono hbu3.size)
                          clear cQ hb14
                          cases hi2 : inP f.bs f.k eb.bs
                          · go_wp2
                            go_roundw
                            case rel => exact ⟨u + 1, by omega, by go_num, hbu4⟩
                            case measure => simp [intOf]; omega
                          · have hxt := HXV.out.2 eb.bs hi1 hi2
                            clear hxt
                            go_wp2
                            go_roundw
                            case rel => exact ⟨u + 1, by omega, by go_num, hbu4⟩
                            case measure => simp [intOf]; omega
                    · obtain rfl : u = rn := by omega
                      go_wp2
                      go_roundw
                      case rel => exact ⟨t + 1, by omega, by go_num, hW12⟩
                      case measure => simp [intOf]; omega

        · obtain rfl : t = N := by omega
          go_wp2
          go_roundw
          case rel => exact ⟨j + 1, by omega, by go_num, hWt⟩
          case measure => simp [intOf]; omega
    · obtain rfl : j = N := by omega
      have hbw := hb1.trans (hbb.mono hb1.size)
      go_wp2
      go_returns
      exact ⟨rfl, hbw⟩
end Go.Proofs.YtckfgdohpmllmaaDoor
