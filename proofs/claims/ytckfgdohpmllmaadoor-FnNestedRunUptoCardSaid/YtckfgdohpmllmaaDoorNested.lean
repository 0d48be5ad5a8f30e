/-
  The walk of laws.FnNestedRun.
-/
import Derived.Test.YtckfgdohpmllmaaDoorSort
import Derived.Test.YtckfgdohpmllmaaDoorOrd
namespace Go.Proofs.YtckfgdohpmllmaaDoor
open Go Go.RowKit
set_option maxRecDepth 100000 in
set_option maxHeartbeats 16000000 in
theorem nested_walk (A : Option Addr) (n c : Nat) (es0 : List En) (B : Option Addr) (m d : Nat) (xs : List UInt8) (z : ZP) (w : World) (hz : Zs w z) (hl : RS w A n es0) (hn : n ≤ 1048576) (hx : RB w B m xs) (hm : m ≤ 140737488355328) :
    Calls Tryd.prog 11 #[.slice A n c, .slice B m d] w (TrueW w) := by
  have hval := madeZ_valid ((es0.map (·.bs)).zip xs)
  have hmlen : (madeZ ((es0.map (·.bs)).zip xs)).length ≤ n := Nat.le_trans (madeZ_len _) (by rw [List.length_zip, List.length_map, hl.1]; omega)
  go_enter Tryd.func11, Tryd.ntmps11
  go_wp2_with fail
  refine (made_c A n c es0 B m d xs w hl (by omega) hx (by omega)).mono ?_
  rintro e0 w1 ⟨v1, rfl, ⟨A1, c1, es, rfl, hown, hmap, hin⟩, hb1⟩
  rw [← hmap] at hval hmlen
  rw [List.length_map] at hmlen
  have hrp := RP.of_own hown rfl hin
  have hz1 := hz.keep hb1
  have hv : ∀ e ∈ es, Vp e.is := fun e he => hval e.is (List.mem_map_of_mem he)
  clear hown hmap hin hval
  go_wp2_with fail
  refine (sorted_c A1 es.length c1 es z w1 hz1 hrp hv (by omega)).mono ?_
  rintro e0 w2 ⟨A2, c2, fs, rfl, hown2, hsort, hb2⟩
  have hrp2 := hsort.rp hrp hb2 hown2
  have hv2 := hsort.all hv
  have hz2 := hz1.keep hb2
  have hbw := hb1.trans (hb2.mono hb1.size)
  obtain ⟨N, hN⟩ : ∃ N, N = es.length := ⟨_, rfl⟩
  rw [← hN] at hrp2 hmlen ⊢
  have HS := Lib.hid (And.intro hsort.2 hv2)
  clear hown2 hsort hv hrp hN hb1 hb2 hz1 hv2
  clear es
  go_wp2_with fail
  go_loopw [16] (fun i wr => ∃ (j : Nat), j ≤ N ∧ i = .int .i64 j ∧ Below w2.heap.size w2 wr) (fun i _ => N - (intOf i).toNat)
  case atStart => exact ⟨0, Nat.zero_le _, rfl, Below.refl _ _⟩
  case round =>
    obtain ⟨j, hj, rfl, hbb⟩ := hrel
    by_cases hlt : j < N
    · obtain ⟨g, o, e, hA, hg, hek, hc0, hc1, hc2, hbe⟩ := (hrp2.keep hbb).at hlt
      subst hA
      have hve := HS.out.2 e (List.mem_of_getElem? hek)
      have hxa : Below wr.heap.size wr (wr.alloc (.cells #[.slice e.a e.n e.c, .string ⟨#[]⟩, .int .i64 e.k] 29)) := (Below.refl _ _).alloc (Nat.le_refl _) _
      have hbox : Blk (wr.alloc (.cells #[.slice e.a e.n e.c, .string ⟨#[]⟩, .int .i64 e.k] 29)) wr.heap.size 29 #[.slice e.a e.n e.c, .string ⟨#[]⟩, .int .i64 e.k] := heap_alloc_new _ _
      obtain ⟨gP, hgP⟩ : ∃ gP, gP = wr.heap.size := ⟨_, rfl⟩
      have HX := Lib.hid (And.intro hgP (And.intro hbox (And.intro (hbb.trans (hxa.mono hbb.size)) (hbe.keep hxa))))
      have HE := Lib.hid hek
      clear hgP hbox hek hxa hbe
      go_wp2_with fail
      obtain ⟨hgP, hbox, hb5, hbe5⟩ := HX.out
      rw [← hgP] at hbox ⊢
      clear HX hc0 hc1 hc2 hgP hbb
      generalize wr.alloc (.cells #[.slice e.a e.n e.c, .string ⟨#[]⟩, .int .i64 e.k] 29) = w5 at *
      refine (ovEach_c e.a e.n e.c e.bs e.k _ N _ fs z w5 (hz2.keep hb5) hbe5 hve.1 hve.2 (hrp2.keep hb5) HS.out.2 (by omega)).mono ?_
      rintro e1 w6 ⟨A6, c6, rfl, hown6, hb6⟩
      obtain ⟨g6, hA6, hg6, hc6⟩ := own_some hown6 (by omega)
      subst hA6
      have hfj := hc6 j _ (boolCells_at _ j _ (ovs_at _ _ fs j e HE.out))
      rw [ov_self] at hfj
      have HC6 := Lib.hid hc6
      have hb26 := hb5.trans (hb6.mono hb5.size)
      have hP6 := hbox.below hb6
      have HP6 := Lib.hid hP6
      clear hown6 hc6 hbox hbe5 hb6 hb5 hP6 hg
      obtain ⟨wo, hwo⟩ : ∃ wo, wo = wr := ⟨_, rfl⟩
      subst hwo
      go_wp2_with fail
      go_loopw [38] (fun i wr2 => ∃ (t : Nat), t ≤ N ∧ i = .int .i64 t ∧ Below w6.heap.size w6 wr2) (fun i _ => N - (intOf i).toNat)
      case atStart => exact ⟨0, Nat.zero_le _, rfl, Below.refl _ _⟩
      case round =>
        clear hfj
        obtain ⟨t, ht', rfl, hbt⟩ := hrel
        by_cases htl : t < N
        · have hW := hb26.trans (hbt.mono hb26.size)
          obtain ⟨g', o', f, hA', hgf, hft, hd0, hd1, hd2, hbf⟩ := (hrp2.keep hW).at htl
          injection hA' with hA'
          injection hA' with hA1 hA2
          subst hA1 hA2
          have hvf := HS.out.2 f (List.mem_of_getElem? hft)
          have hx1 := (hbt.cell (p := ⟨g6, t, none⟩) hg6).trans (HC6.out t _ (boolCells_at _ t _ (ovs_at _ _ fs t f hft)))
          have bP := HP6.out.below hbt
          have lP := bP.lt
          have hg6' := Nat.lt_of_lt_of_le hg6 hbt.size
          have rP : ∀ w', Below wr.heap.size wr w' → ∀ i, w'.cell? ⟨gP, i, none⟩ = #[Value.slice e.a e.n e.c, .string ⟨#[]⟩, .int .i64 e.k][i]? := fun w' h i => (h.cell (p := ⟨gP, i, none⟩) lP).trans (bP.cell i)
          have rX : ∀ w', Below wr.heap.size wr w' → w'.cell? ⟨g6, t, none⟩ = some (.bool (ovP e.bs e.k f.bs f.k)) := fun w' h => (h.cell (p := ⟨g6, t, none⟩) hg6').trans hx1
          have rF : ∀ w', Below wr.heap.size wr w' → w'.cell? ⟨g, o + t * 3 + 2, none⟩ = some (.int .i64 f.k) := fun w' h => (h.cell (p := ⟨g, o + t * 3 + 2, none⟩) hgf).trans hd2
          have hdr : Below wr.heap.size wr wr.drew := ⟨rfl, rfl, rfl, Nat.le_refl _, fun _ _ => rfl⟩
          have q1 : (0 : Int) ≤ t ∧ (t : Int) < N := by omega
          have HQ1 := Lib.hid q1
          have hbits : ovP e.bs e.k f.bs f.k = true → (t < j → f.k ≤ e.k) ∧ (j < t → e.k ≤ f.k ∧ ∃ h, fs[t - 1]? = some h ∧ ovP e.bs e.k h.bs h.k = true) := fun ho => by
            refine ⟨fun h => ?_, fun h => ⟨ord_bits hve hvf (sort_get HS.out.1 HE.out hft (by omega)) ho, ?_⟩⟩
            · rw [ov_sym] at ho
              exact ord_bits hvf hve (sort_get HS.out.1 hft HE.out (by omega)) ho
            · obtain ⟨y, hy⟩ : ∃ y, fs[t - 1]? = some y := ⟨fs[t - 1]'(by rw [hrp2.1]; omega), List.getElem?_eq_getElem _⟩
              exact ⟨y, hy, ord_mid hve (HS.out.2 y (List.mem_of_getElem? hy)) hvf (sort_get HS.out.1 HE.out hy (by omega)) (sort_get HS.out.1 hy hft (by omega)) ho⟩
          have HB := Lib.hid hbits
          clear hbits hx1 hd0 hd1 hd2 hbf bP lP hft q1
          generalize ovP e.bs e.k f.bs f.k = x at *
          cases x
          · go_wp2_with fail
            refine region_pick (Below wr.heap.size wr) [(0, false, none), (1, false, none), (2, false, none), (3, false, none), (4, false, none), (5, false, none), (6, false, none), (7, false, none), (8, false, none), (9, false, none), (10, false, none), (11, false, none), (12, false, none), (13, false, none), (14, false, none), (15, false, none), (16, false, none), (17, false, none), (18, false, none), (19, false, none), (20, false, none), (21, false, none), (22, false, none), (23, false, none), (24, false, none), (25, false, none), (26, false, none), (27, false, none), (28, false, none), (29, false, none), (30, false, none), (31, false, none), (32, false, none), (33, false, none), (34, false, none), (35, false, none), (36, false, none), (37, false, none), (38, false, none), (39, false, none), (40, false, none), (41, false, none)] 42 (by kernel_rfl) (by kernel_rfl) (fun w w' h hb => h.trans (hb.mono h.size)) (hdr) ?_
            simp only [pickOps, List.getElem?_cons_zero, List.getElem?_cons_succ]
            repeat (first | (refine t_skip rfl ?_; (simp only [Act.put, List.setIfInBounds_toArray, List.set_cons_zero, List.set_cons_succ])) | (refine t_run ?_ rfl (fun w1 hw1 => ?_) ?_; rotate_left; (have r0 := rX w1 hw1; have r1 := HQ1.out; go_simp; try (with_reducible rfl)); (simp only [Act.put, List.setIfInBounds_toArray, List.set_cons_zero, List.set_cons_succ])))
            intro w9 hw9
            simp only [List.drop_succ_cons, List.drop_zero]
            have hb9 := hbt.trans (hw9.mono hbt.size)
            clear rP rX rF hdr
            go_wp2
            go_roundw
            case rel => exact ⟨t + 1, by omega, by go_num, hb9⟩
            case measure => simp [intOf]; omega
          · obtain ⟨B1, B2⟩ := HB.out rfl
            clear HB
            rcases Nat.lt_trichotomy j t with hjt | hjt | hjt
            · obtain ⟨hle, y, hy, hoy⟩ := B2 hjt
              have hx2 := (hbt.cell (p := ⟨g6, t - 1, none⟩) hg6).trans (HC6.out (t - 1) _ (boolCells_at _ (t - 1) _ (ovs_at _ _ fs (t - 1) y hy)))
              rw [hoy] at hx2
              obtain ⟨t', rfl⟩ : ∃ t', t = t' + 1 := ⟨t - 1, by omega⟩
              rw [Nat.add_sub_cancel] at hx2
              have rY : ∀ w', Below wr.heap.size wr w' → w'.cell? ⟨g6, t', none⟩ = some (.bool true) := fun w' h => (h.cell (p := ⟨g6, t', none⟩) hg6').trans hx2
              have q1 : (0 : Int) ≤ (t' : Int) + 1 ∧ (t' : Int) + 1 < N := by omega
              have q2 : (0 : Int) ≤ (t' : Int) ∧ (t' : Int) < N := by omega
              have q3 : ((t' : Int) + 1).toNat = t' + 1 := by omega
              have q4 : IntKind.i64.wrap (t' : Int) = t' := by rw [IntKind.wrap_i64]; omega
              have q5 : (j : Int) < (t' : Int) + 1 := by omega
              have q6 : decide (t' + 1 < j) = false ∧ decide ((t' : Int) + 1 < (j : Int)) = false := by simp; omega
              have q7 : decide (f.k < e.k) = false := by simp; omega
              have HQ := Lib.hid (And.intro q1 (And.intro q2 (And.intro q3 (And.intro q4 (And.intro q5 (And.intro q6 q7))))))
              clear B1 B2 hx2 hy hoy q1 q2 q3 q4 q5 q6 q7 HQ1
              go_wp2_with fail
              refine region_pick (Below wr.heap.size wr) [(0, false, none), (1, false, none), (2, false, none), (3, false, none), (4, false, none), (5, false, none), (6, false, none), (7, false, none), (8, false, none), (9, false, none), (10, false, none), (11, false, none), (12, false, none), (13, false, none), (14, false, none), (15, false, none), (16, false, none), (17, false, none), (18, false, none), (19, false, none), (20, false, none), (21, false, none), (22, false, none), (23, false, none), (24, false, none), (25, false, none), (26, false, none), (27, false, none), (28, false, none), (29, false, none), (30, false, none), (31, false, none), (32, false, none), (33, false, none), (34, false, none), (35, false, none), (36, false, none), (37, false, none), (38, false, none), (39, false, none), (40, false, none), (41, false, none)] 42 (by kernel_rfl) (by kernel_rfl) (fun w w' h hb => h.trans (hb.mono h.size)) (hdr) ?_
              simp only [pickOps, List.getElem?_cons_zero, List.getElem?_cons_succ]
              repeat (first | (refine t_skip rfl ?_; (simp only [Act.put, List.setIfInBounds_toArray, List.set_cons_zero, List.set_cons_succ])) | (refine t_run ?_ rfl (fun w1 hw1 => ?_) ?_; rotate_left; (have r0 := rX w1 hw1; have r1 := rY w1 hw1; have r2 := rF w1 hw1; have r3 := rP w1 hw1; have r4 := HQ.out.1; have r5 := HQ.out.2.1; have r6 := HQ.out.2.2.1; have r7 := HQ.out.2.2.2.1; have r8 := HQ.out.2.2.2.2.1; have r9 := HQ.out.2.2.2.2.2.1.1; have r10 := HQ.out.2.2.2.2.2.1.2; have r11 := HQ.out.2.2.2.2.2.2; go_simp; try (with_reducible rfl)); (simp only [Act.put, List.setIfInBounds_toArray, List.set_cons_zero, List.set_cons_succ])))
              intro w9 hw9
              simp only [List.drop_succ_cons, List.drop_zero]
              have hb9 := hbt.trans (hw9.mono hbt.size)
              clear rP rX rF rY hdr
              go_wp2
              go_roundw
              case rel => exact ⟨t' + 1 + 1, by omega, by go_num, hb9⟩
              case measure => simp [intOf]; omega
            · subst hjt
              have q5 : ¬ (j : Int) < (j : Int) := by omega
              clear B1 B2
              go_wp2_with fail
              refine region_pick (Below wr.heap.size wr) [(0, false, none), (1, false, none), (2, false, none), (3, false, none), (4, false, none), (5, false, none), (6, false, none), (7, false, none), (8, false, none), (9, false, none), (10, false, none), (11, false, none), (12, false, none), (13, false, none), (14, false, none), (15, false, none), (16, false, none), (17, false, none), (18, false, none), (19, false, none), (20, false, none), (21, false, none), (22, false, none), (23, false, none), (24, false, none), (25, false, none), (26, false, none), (27, false, none), (28, false, none), (29, false, none), (30, false, none), (31, false, none), (32, false, none), (33, false, none), (34, false, none), (35, false, none), (36, false, none), (37, false, none), (38, false, none), (39, false, none), (40, false, none), (41, false, none)] 42 (by kernel_rfl) (by kernel_rfl) (fun w w' h hb => h.trans (hb.mono h.size)) (hdr) ?_
              simp only [pickOps, List.getElem?_cons_zero, List.getElem?_cons_succ]
              repeat (first | (refine t_skip rfl ?_; (simp only [Act.put, List.setIfInBounds_toArray, List.set_cons_zero, List.set_cons_succ])) | (refine t_run ?_ rfl (fun w1 hw1 => ?_) ?_; rotate_left; (have r0 := rX w1 hw1; have r1 := HQ1.out; go_simp; try (with_reducible rfl)); (simp only [Act.put, List.setIfInBounds_toArray, List.set_cons_zero, List.set_cons_succ])))
              intro w9 hw9
              simp only [List.drop_succ_cons, List.drop_zero]
              have hb9 := hbt.trans (hw9.mono hbt.size)
              clear rP rX rF hdr q5
              go_wp2
              go_roundw
              case rel => exact ⟨j + 1, by omega, by go_num, hb9⟩
              case measure => simp [intOf]; omega
            · have q5 : decide (j < t) = false := by simp; omega
              have q6 : t < j := by omega
              have q7 : decide (e.k < f.k) = false := by have := B1 hjt; simp; omega
              have HQ := Lib.hid (And.intro q5 (And.intro q6 q7))
              clear B1 B2 q5 q6 q7
              go_wp2_with fail
              refine region_pick (Below wr.heap.size wr) [(0, false, none), (1, false, none), (2, false, none), (3, false, none), (4, false, none), (5, false, none), (6, false, none), (7, false, none), (8, false, none), (9, false, none), (10, false, none), (11, false, none), (12, false, none), (13, false, none), (14, false, none), (15, false, none), (16, false, none), (17, false, none), (18, false, none), (19, false, none), (20, false, none), (21, false, none), (22, false, none), (23, false, none), (24, false, none), (25, false, none), (26, false, none), (27, false, none), (28, false, none), (29, false, none), (30, false, none), (31, false, none), (32, false, none), (33, false, none), (34, false, none), (35, false, none), (36, false, none), (37, false, none), (38, false, none), (39, false, none), (40, false, none), (41, false, none)] 42 (by kernel_rfl) (by kernel_rfl) (fun w w' h hb => h.trans (hb.mono h.size)) (hdr) ?_
              simp only [pickOps, List.getElem?_cons_zero, List.getElem?_cons_succ]
              repeat (first | (refine t_skip rfl ?_; (simp only [Act.put, List.setIfInBounds_toArray, List.set_cons_zero, List.set_cons_succ])) | (refine t_run ?_ rfl (fun w1 hw1 => ?_) ?_; rotate_left; (have r0 := rX w1 hw1; have r1 := rF w1 hw1; have r2 := rP w1 hw1; have r3 := HQ1.out; have r4 := HQ.out.1; have r5 := HQ.out.2.1; have r6 := HQ.out.2.2; go_simp; try (with_reducible rfl)); (simp only [Act.put, List.setIfInBounds_toArray, List.set_cons_zero, List.set_cons_succ])))
              intro w9 hw9
              simp only [List.drop_succ_cons, List.drop_zero]
              have hb9 := hbt.trans (hw9.mono hbt.size)
              clear rP rX rF hdr
              go_wp2
              go_roundw
              case rel => exact ⟨t + 1, by omega, by go_num, hb9⟩
              case measure => simp [intOf]; omega
        · obtain rfl : t = N := by omega
          have hW := hb26.trans (hbt.mono hb26.size)
          go_wp2
          go_roundw
          case rel => exact ⟨j + 1, by omega, by go_num, hW⟩
          case measure => simp [intOf]; omega
    · obtain rfl : j = N := by omega
      have hbw2 := hbw.trans (hbb.mono hbw.size)
      go_wp2
      go_returns
      exact ⟨rfl, hbw2⟩
end Go.Proofs.YtckfgdohpmllmaaDoor
