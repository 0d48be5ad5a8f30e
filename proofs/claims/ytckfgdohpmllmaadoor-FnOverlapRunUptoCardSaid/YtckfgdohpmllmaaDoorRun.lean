/-
  The walk of laws.FnOverlapRun.
-/
import Derived.Test.YtckfgdohpmllmaaDoorRunL
namespace Go.Proofs.YtckfgdohpmllmaaDoor
open Go Go.RowKit
set_option maxRecDepth 100000 in
set_option maxHeartbeats 16000000 in
theorem run_walk (A : Option Addr) (n c : Nat) (es0 : List En) (B : Option Addr) (m d : Nat) (xs : List UInt8) (R : Option Addr) (rn rc : Nat) (rs : List UInt8) (y : UInt8) (z : ZP) (w : World) (hz : Zs w z) (hl : RS w A n es0) (hn : n ≤ 1048576) (hx : RB w B m xs) (hm : m ≤ 140737488355328)
    (hr : RB w R rn rs) (hR : R = none → rn = 0 ∧ rc = 0) (hrn : rn ≤ 140737488355328) :
    Calls Tryd.prog 12 #[.slice A n c, .slice B m d, .slice R rn rc, .int .u8 y.toNat] w (TrueW w) := by
  obtain ⟨i0, hi, hz0, hz1, hz2⟩ := info_parts infoPf
  have hval := madeZ_valid ((es0.map (·.bs)).zip xs)
  have hmlen : (madeZ ((es0.map (·.bs)).zip xs)).length ≤ n := Nat.le_trans (madeZ_len _) (by rw [List.length_zip, List.length_map, hl.1]; omega)
  go_enter Tryd.func12, Tryd.ntmps12
  go_wp2_with fail
  refine (made_c A n c es0 B m d xs w hl (by omega) hx (by omega)).mono ?_
  rintro e0 w1 ⟨v1, rfl, ⟨A1, c1, es, rfl, hown, hmap, hin⟩, hb1⟩
  rw [← hmap] at hval hmlen
  rw [List.length_map] at hmlen
  have hrp := RP.of_own hown rfl hin
  have hzA := hz.keep hb1
  have hv : ∀ e ∈ es, Vp e.is := fun e he => hval e.is (List.mem_map_of_mem he)
  clear hown hmap hin hval
  go_wp2_with fail
  refine (sorted_c A1 es.length c1 es z w1 hzA hrp hv (by omega)).mono ?_
  rintro e0 w2 ⟨A2, c2, fs, rfl, hown2, hsort, hb2⟩
  have hrp2 := hsort.rp hrp hb2 hown2
  have hv2 := hsort.all hv
  have hzB := hzA.keep hb2
  have hbw := hb1.trans (hb2.mono hb1.size)
  have hr2 := hr.keep hbw
  obtain ⟨N, hN⟩ : ∃ N, N = es.length := ⟨_, rfl⟩
  rw [← hN] at hrp2 hmlen ⊢
  have HS := Lib.hid (And.intro hsort.2 hv2)
  clear hown2 hsort hv hrp hN hb1 hb2 hzA hv2
  clear es
  go_wp2_with fail
  go_loopw [9, 23] (fun v i wr => ∃ (j : Nat) (es' : List Pf), j ≤ N ∧ i = .int .i64 j ∧ wr.ownsRow w2.heap.size 29 3 v es'.length (pfCells es') ∧ Filt fs j es' ∧ Below w2.heap.size w2 wr) (fun _ i _ => N - (intOf i).toNat)
  case atStart => exact ⟨0, [], Nat.zero_le _, rfl, World.ownsRow_nil _ _ _ _, Filt.start _, Below.refl _ _⟩
  case round =>
    obtain ⟨j, es', hj, rfl, hown, hF, hbb⟩ := hrel
    have HF := Lib.hid hF
    have HO := Lib.hid hown
    have hfl := hF.len
    obtain ⟨L, hL⟩ : ∃ L, L = es'.length := ⟨_, rfl⟩
    obtain ⟨A3, c3, rfl⟩ := own_slice hown
    rw [← hL] at hfl hown ⊢
    by_cases hlt : j < N
    · obtain ⟨g, o, e, hA, hg, hek, hc0, hc1, hc2, hbe⟩ := (hrp2.keep hbb).at hlt
      subst hA
      have hve := HS.out.2 e (List.mem_of_getElem? hek)
      have hxa : Below wr.heap.size wr (wr.alloc (.cells #[.slice e.a e.n e.c, .string ⟨#[]⟩, .int .i64 e.k] 29)) := (Below.refl _ _).alloc (Nat.le_refl _) _
      have hbox : Blk (wr.alloc (.cells #[.slice e.a e.n e.c, .string ⟨#[]⟩, .int .i64 e.k] 29)) wr.heap.size 29 #[.slice e.a e.n e.c, .string ⟨#[]⟩, .int .i64 e.k] := heap_alloc_new _ _
      obtain ⟨gP, hgP⟩ : ∃ gP, gP = wr.heap.size := ⟨_, rfl⟩
      have HX := Lib.hid (And.intro hgP (And.intro hbox (And.intro (hbb.trans (hxa.mono hbb.size)) (And.intro (hbe.keep hxa) (own_below hown hxa)))))
      have HE := Lib.hid (And.intro hek hL)
      clear hgP hbox hek hxa hbe hown hF HO hL
      go_upto_region 5 with fail
      obtain ⟨hgP, hbox, hb5, hbe5, hO5⟩ := HX.out
      rw [← hgP] at hbox ⊢
      clear HX hc0 hc1 hc2 hgP hbb
      generalize wr.alloc (.cells #[.slice e.a e.n e.c, .string ⟨#[]⟩, .int .i64 e.k] 29) = w5 at *
      have hdr : Below w5.heap.size w5 w5.drew := ⟨rfl, rfl, rfl, Nat.le_refl _, fun _ _ => rfl⟩
      have lP := hbox.lt
      have rP : ∀ w', Below w5.heap.size w5 w' → ∀ i, w'.cell? ⟨gP, i, none⟩ = #[Value.slice e.a e.n e.c, .string ⟨#[]⟩, .int .i64 e.k][i]? := fun w' h i => (h.cell (p := ⟨gP, i, none⟩) lP).trans (hbox.cell i)
      cases L with
      | zero =>
        clear hfl
        refine region_pick (Below w5.heap.size w5) [(0, false, none), (1, false, none), (2, false, none), (3, false, none), (4, false, none), (5, false, none), (6, false, none), (7, false, none), (8, false, none), (9, false, none), (10, false, none), (11, false, none), (12, false, none), (13, false, none)] 14 (by kernel_rfl) (by kernel_rfl) (fun w w' h hb => h.trans (hb.mono h.size)) (hdr) ?_
        simp only [pickOps, List.getElem?_cons_zero, List.getElem?_cons_succ]
        repeat (first | (refine t_skip rfl ?_; (simp only [Act.put, List.setIfInBounds_toArray, List.set_cons_zero, List.set_cons_succ])) | (refine t_run ?_ rfl (fun w1 hw1 => ?_) ?_; rotate_left; (go_simp; try (with_reducible rfl)); (simp only [Act.put, List.setIfInBounds_toArray, List.set_cons_zero, List.set_cons_succ])))
        intro w9 hw9
        simp only [List.drop_succ_cons, List.drop_zero]
        have hO9 := own_below hO5 hw9
        have hb9 := hb5.trans (hw9.mono hb5.size)
        have bP := (hbox.below hw9).cell
        have hsz9 := hb9.size
        have HO9 := Lib.hid hO9
        clear hO9 hO5 hbox hdr rP lP
        go_wp2_with ((at_builtin; refine append1 rfl _ _ 23 rfl (w2.heap.size) 29 i0 (.agg #[.slice none 0 0, .string ⟨#[]⟩, .int .i64 0]) 3 48 Tryd.underlying23 hi hz0 hz1 hz2 rfl (by decide) _ _ _ rfl (HO9.out) _ _ [.slice e.a e.n e.c, .string ⟨#[]⟩, .int .i64 e.k] rfl (by simp) rfl rfl (by unfold maxLen; omega) (by omega) (by first | omega | (simp; omega)) ?_))
        intro v8 w8 hown8 hgrow
        have hxb : Below w9.heap.size w9 (w9.alloc (.cells #[.slice e.a e.n e.c, .string ⟨#[]⟩, .int .i64 e.k] 29)) := (Below.refl _ _).alloc (Nat.le_refl _) _
        have hb8 : Below w2.heap.size w2 w8 := (hb9.trans (hxb.mono hb9.size)).grown hgrow (Nat.le_trans hb9.size hxb.size) (own_row_ge HO9.out)
        have hF8 := HF.out.push HE.out.1 (fun l hl => by have := HE.out.2; rw [List.eq_nil_of_length_eq_zero this.symm] at hl; simp at hl)
        have he8 : w8.ownsRow w2.heap.size 29 3 v8 (es' ++ [e]).length (pfCells (es' ++ [e])) := by rw [pfCells_append, List.length_append, ← HE.out.2]; exact hown8
        have G1 := Lib.hid he8
        have G2 := Lib.hid hF8
        clear he8 hF8 hown8 hgrow hxb HO9 bP
        go_wp2
        go_roundw
        case rel => exact ⟨j + 1, es' ++ [e], by omega, by go_num, G1.out, G2.out, hb8⟩
        case measure => simp [intOf]; omega
      | succ l =>
        obtain ⟨q, hq⟩ : ∃ q, es'[l]? = some q := ⟨es'[l]'(by have := HE.out.2; omega), List.getElem?_eq_getElem _⟩
        have hqf := HF.out.mem q (List.mem_of_getElem? hq)
        have hvq := HS.out.2 q hqf
        obtain ⟨g3, hA3, hg3, hc3⟩ := own_some hO5 (by omega)
        subst hA3
        obtain ⟨b0, b1, b2⟩ := pfCells_at _ _ _ hq
        have rC : ∀ w', Below w5.heap.size w5 w' → w'.cell? ⟨g3, l * 3, none⟩ = some (.slice q.a q.n q.c) ∧ w'.cell? ⟨g3, l * 3 + 1, none⟩ = some (.string ⟨#[]⟩) ∧ w'.cell? ⟨g3, l * 3 + 2, none⟩ = some (.int .i64 q.k) := fun w' h =>
          ⟨(h.cell (p := ⟨g3, l * 3, none⟩) hg3).trans (hc3 _ _ b0), (h.cell (p := ⟨g3, l * 3 + 1, none⟩) hg3).trans (hc3 _ _ b1), (h.cell (p := ⟨g3, l * 3 + 2, none⟩) hg3).trans (hc3 _ _ b2)⟩
        have hrq := (hrp2.keep hb5).2.2 q hqf
        have k1 := fun w' (h : Below w5.heap.size w5 w') => overlaps_c q.a e.a q.n e.n q.c e.c q.bs e.bs q.k e.k z w' ((hzB.keep hb5).keep h) (hrq.keep h) (hbe5.keep h) hvq.1 hvq.2 hve.1 hve.2
        have q1 : IntKind.i64.wrap (l : Int) = l := by rw [IntKind.wrap_i64]; omega
        have q2 : (0 : Int) ≤ (l : Int) ∧ (l : Int) < (l : Int) + 1 := by omega
        have q3 : ((l : Int) + 1 == 0) = false := by simp; omega
        have HQ := Lib.hid (And.intro q1 (And.intro q2 q3))
        have HLQ := Lib.hid hq
        clear b0 b1 b2 hc3 q1 q2 q3 hq
        obtain ⟨x, hx'⟩ : ∃ x, x = ovP q.bs q.k e.bs e.k := ⟨_, rfl⟩
        simp only [← hx'] at k1
        have HXV := Lib.hid hx'
        clear hx'
        cases x
        · skip
          refine region_pick (Below w5.heap.size w5) [(0, false, none), (1, false, none), (2, false, none), (3, false, none), (4, false, none), (5, false, none), (6, false, none), (7, false, none), (8, false, none), (9, false, none), (10, false, none), (11, false, none), (12, false, none), (13, false, none)] 14 (by kernel_rfl) (by kernel_rfl) (fun w w' h hb => h.trans (hb.mono h.size)) (hdr) ?_
          simp only [pickOps, List.getElem?_cons_zero, List.getElem?_cons_succ]
          repeat (first | (refine t_skip rfl ?_; (simp only [Act.put, List.setIfInBounds_toArray, List.set_cons_zero, List.set_cons_succ])) | (refine t_run ?_ rfl (fun w1 hw1 => ?_) ?_; rotate_left; (have r0 := rP w1 hw1; have r1 := (rC w1 hw1).1; have r2 := (rC w1 hw1).2.1; have r3 := (rC w1 hw1).2.2; have r4 := HQ.out.1; have r5 := HQ.out.2.1; have r6 := HQ.out.2.2; go_simp; try (with_reducible rfl)); (simp only [Act.put, List.setIfInBounds_toArray, List.set_cons_zero, List.set_cons_succ])) | (refine t_call ?_ ?_ ?_ rfl (fun w1 hw1 => ?_) (fun w1 hw1 => ?_) ?_; rotate_left 3; (have r0 := rP w1 hw1; have r1 := (rC w1 hw1).1; have r2 := (rC w1 hw1).2.1; have r3 := (rC w1 hw1).2.2; have r4 := HQ.out.1; have r5 := HQ.out.2.1; have r6 := HQ.out.2.2; go_simp; refine ⟨?_, ?_⟩ <;> with_reducible rfl); (first | (go_at_call 29; (with_reducible refine (k1 w1 hw1).mono ?_); rintro e w2 ⟨rfl, hb⟩; refine ⟨?_, hb⟩; with_reducible rfl) | (go_at_call 29; (refine (k1 w1 hw1).mono ?_); rintro e w2 ⟨rfl, hb⟩; refine ⟨?_, hb⟩; with_reducible rfl)); (simp only [Act.put, List.setIfInBounds_toArray, List.set_cons_zero, List.set_cons_succ])))
          intro w9 hw9
          simp only [List.drop_succ_cons, List.drop_zero]
          clear k1 rC
          have hO9 := own_below hO5 hw9
          have hb9 := hb5.trans (hw9.mono hb5.size)
          have bP := (hbox.below hw9).cell
          have hsz9 := hb9.size
          have HO9 := Lib.hid hO9
          clear hO9 hO5 hbox hdr rP lP
          go_wp2_with ((at_builtin; refine append1 rfl _ _ 23 rfl (w2.heap.size) 29 i0 (.agg #[.slice none 0 0, .string ⟨#[]⟩, .int .i64 0]) 3 48 Tryd.underlying23 hi hz0 hz1 hz2 rfl (by decide) _ _ _ rfl (HO9.out) _ _ [.slice e.a e.n e.c, .string ⟨#[]⟩, .int .i64 e.k] rfl (by simp) rfl rfl (by unfold maxLen; omega) (by omega) (by first | omega | (simp; omega)) ?_))
          intro v8 w8 hown8 hgrow
          have hxb : Below w9.heap.size w9 (w9.alloc (.cells #[.slice e.a e.n e.c, .string ⟨#[]⟩, .int .i64 e.k] 29)) := (Below.refl _ _).alloc (Nat.le_refl _) _
          have hb8 : Below w2.heap.size w2 w8 := (hb9.trans (hxb.mono hb9.size)).grown hgrow (Nat.le_trans hb9.size hxb.size) (own_row_ge HO9.out)
          have hF8 := HF.out.push HE.out.1 (fun l' hl => by have := HE.out.2; rw [← this, Nat.add_sub_cancel, HLQ.out] at hl; injection hl with hl; subst hl; exact HXV.out.symm)
          have he8 : w8.ownsRow w2.heap.size 29 3 v8 (es' ++ [e]).length (pfCells (es' ++ [e])) := by rw [pfCells_append, List.length_append, ← HE.out.2]; exact hown8
          have G1 := Lib.hid he8
          have G2 := Lib.hid hF8
          clear he8 hF8 hown8 hgrow hxb HO9 bP
          go_wp2
          go_roundw
          case rel => exact ⟨j + 1, es' ++ [e], by omega, by go_num, G1.out, G2.out, hb8⟩
          case measure => simp [intOf]; omega
        · skip
          refine region_pick (Below w5.heap.size w5) [(0, false, none), (1, false, none), (2, false, none), (3, false, none), (4, false, none), (5, false, none), (6, false, none), (7, false, none), (8, false, none), (9, false, none), (10, false, none), (11, false, none), (12, false, none), (13, false, none)] 14 (by kernel_rfl) (by kernel_rfl) (fun w w' h hb => h.trans (hb.mono h.size)) (hdr) ?_
          simp only [pickOps, List.getElem?_cons_zero, List.getElem?_cons_succ]
          repeat (first | (refine t_skip rfl ?_; (simp only [Act.put, List.setIfInBounds_toArray, List.set_cons_zero, List.set_cons_succ])) | (refine t_run ?_ rfl (fun w1 hw1 => ?_) ?_; rotate_left; (have r0 := rP w1 hw1; have r1 := (rC w1 hw1).1; have r2 := (rC w1 hw1).2.1; have r3 := (rC w1 hw1).2.2; have r4 := HQ.out.1; have r5 := HQ.out.2.1; have r6 := HQ.out.2.2; go_simp; try (with_reducible rfl)); (simp only [Act.put, List.setIfInBounds_toArray, List.set_cons_zero, List.set_cons_succ])) | (refine t_call ?_ ?_ ?_ rfl (fun w1 hw1 => ?_) (fun w1 hw1 => ?_) ?_; rotate_left 3; (have r0 := rP w1 hw1; have r1 := (rC w1 hw1).1; have r2 := (rC w1 hw1).2.1; have r3 := (rC w1 hw1).2.2; have r4 := HQ.out.1; have r5 := HQ.out.2.1; have r6 := HQ.out.2.2; go_simp; refine ⟨?_, ?_⟩ <;> with_reducible rfl); (first | (go_at_call 29; (with_reducible refine (k1 w1 hw1).mono ?_); rintro e w2 ⟨rfl, hb⟩; refine ⟨?_, hb⟩; with_reducible rfl) | (go_at_call 29; (refine (k1 w1 hw1).mono ?_); rintro e w2 ⟨rfl, hb⟩; refine ⟨?_, hb⟩; with_reducible rfl)); (simp only [Act.put, List.setIfInBounds_toArray, List.set_cons_zero, List.set_cons_succ])))
          intro w9 hw9
          simp only [List.drop_succ_cons, List.drop_zero]
          clear k1 rC
          have hO9 := own_below hO5 hw9
          have hb9 := hb5.trans (hw9.mono hb5.size)
          have G1 := Lib.hid hO9
          have G2 := Lib.hid HF.out.skip
          clear hO9 hO5 hbox hdr rP lP
          go_wp2
          go_roundw
          case rel => exact ⟨j + 1, es', by omega, by go_num, by rw [← HE.out.2]; exact G1.out, G2.out, hb9⟩
          case measure => simp [intOf]; omega
    · obtain rfl : j = N := by omega
      have hrl : RP wr A3 L es' := ⟨hL.symm, RC.of_own hown, fun q hq => (hrp2.keep hbb).2.2 q (hF.mem q hq)⟩
      have hvl : ∀ q ∈ es', Vp q.is := fun q hq => HS.out.2 q (hF.mem q hq)
      have hbwr := hbw.trans (hbb.mono hbw.size)
      have hzr := hzB.keep hbb
      obtain ⟨m1, m2, m3⟩ := one_made R rn rc rs y (hr2.keep hbb) hR hrn
      have HVL := Lib.hid (And.intro hvl hL)
      clear hown hF HO hvl hL
      go_wp2_with fail
      refine (made_c _ 1 _ _ _ 1 _ [y] _ m1 (by omega) m2 (by omega)).mono ?_
      rintro e0 w3 ⟨v3, rfl, ⟨A4, c4, ps, rfl, hown4, hmap4, hin4⟩, hb3'⟩
      have hb3 := m3.trans (hb3'.mono m3.size)
      have hval4 := madeZ_valid ((([⟨R, rn, rc, rs⟩] : List En).map (·.bs)).zip [y])
      have hml4 := madeZ_len ((([⟨R, rn, rc, rs⟩] : List En).map (·.bs)).zip [y])
      rw [← hmap4] at hval4 hml4
      rw [List.length_map] at hml4
      have hvp : ∀ q ∈ ps, Vp q.is := fun q hq => hval4 q.is (List.mem_map_of_mem hq)
      have hrp4 := RP.of_own hown4 rfl hin4
      have hrl3 := hrl.keep hb3
      have hz3 := hzr.keep hb3
      have hbw3 := hbwr.trans (hb3.mono hbwr.size)
      have hM1 : ps.length ≤ 1 := by simpa using hml4
      obtain ⟨M, hM⟩ : ∃ M, M = ps.length := ⟨_, rfl⟩
      rw [← hM] at hrp4 hM1 ⊢
      have HVP := Lib.hid hvp
      clear hown4 hmap4 hin4 hb3' hb3 hval4 hml4 hvp hrl hzr hbwr m1 m2 m3 hM
      clear hbb hbw hz
      obtain ⟨wo, hwo⟩ : ∃ wo, wo = wr := ⟨_, rfl⟩
      subst hwo
      go_wp2_with fail
      go_loopw [52] (fun i wr => ∃ (t : Nat), t ≤ M ∧ i = .int .i64 t ∧ Below w3.heap.size w3 wr) (fun i _ => M - (intOf i).toNat)
      case atStart => exact ⟨0, Nat.zero_le _, rfl, Below.refl _ _⟩
      case round =>
        obtain ⟨t, ht, rfl, hbt⟩ := hrel
        by_cases htM : t < M
        · obtain ⟨g4, o4, p, hA4, hg4, hpk, hc0, hc1, hc2, hbp⟩ := (hrp4.keep hbt).at htM
          subst hA4
          have hvp := HVP.out p (List.mem_of_getElem? hpk)
          have hxa : Below wr.heap.size wr (wr.alloc (.cells #[.slice p.a p.n p.c, .string ⟨#[]⟩, .int .i64 p.k] 29)) := (Below.refl _ _).alloc (Nat.le_refl _) _
          have hb5 := hbt.trans (hxa.mono hbt.size)
          have HX := Lib.hid (And.intro hb5 (hbp.keep hxa))
          clear hpk hxa hbp hb5
          go_wp2_with fail
          obtain ⟨hb5, hbp5⟩ := HX.out
          clear HX hc0 hc1 hc2 hg4
          generalize wr.alloc (.cells #[.slice p.a p.n p.c, .string ⟨#[]⟩, .int .i64 p.k] 29) = w5 at *
          refine (ovEach_c p.a p.n p.c p.bs p.k _ L _ es' z w5 (hz3.keep hb5) hbp5 hvp.1 hvp.2 (hrl3.keep hb5) HVL.out.1 (by omega)).mono ?_
          rintro e1 w6 ⟨A6, c6, rfl, hown6, hb6⟩
          have hb36 := hb5.trans (hb6.mono hb5.size)
          have HO6 := Lib.hid hown6
          clear hown6 hb6 hb5 hbp5
          obtain ⟨wo2, hwo⟩ : ∃ wo2, wo2 = wr := ⟨_, rfl⟩
          subst hwo
          go_wp2_with fail
          go_loopw [15, 66] (fun b i wr => ∃ (u : Nat) (bb : Bool), u ≤ L ∧ i = .int .i64 u ∧ b = .bool bb ∧ (bb = true → ∃ i a c, i + 1 < u ∧ es'[i]? = some a ∧ es'[i + 1]? = some c ∧ ovP p.bs p.k a.bs a.k = true ∧ ovP p.bs p.k c.bs c.k = false) ∧ Below w6.heap.size w6 wr) (fun _ i _ => L - (intOf i).toNat)
          case atStart => exact ⟨0, false, Nat.zero_le _, rfl, rfl, (fun h => by cases h), Below.refl _ _⟩
          case round =>
            obtain ⟨u, bb, hu, rfl, rfl, hend, hbu⟩ := hrel
            have HEND := Lib.hid hend
            clear hend
            by_cases huL : u < L
            · obtain ⟨f, hfu⟩ : ∃ f, es'[u]? = some f := ⟨es'[u]'(by rw [← HVL.out.2]; exact huL), List.getElem?_eq_getElem _⟩
              obtain ⟨g6, hA6, hg6, hc6⟩ := own_some HO6.out (by omega)
              subst hA6
              have hx1 := (hbu.cell (p := ⟨g6, u, none⟩) hg6).trans (hc6 u _ (boolCells_at _ u _ (ovs_at _ _ es' u f hfu)))
              have hg6' := Nat.lt_of_lt_of_le hg6 hbu.size
              obtain ⟨x, hxv⟩ : ∃ x, x = ovP p.bs p.k f.bs f.k := ⟨_, rfl⟩
              rw [← hxv] at hx1
              have HXV := Lib.hid (And.intro hxv hfu)
              have HC6 := Lib.hid hc6
              clear hxv hfu hc6
              cases bb
              · cases u with
                | zero =>
                  cases x <;> (
                    go_wp2
                    go_roundw
                    case rel => exact ⟨1, false, by omega, by go_num, rfl, fun h => (by cases h), hbu⟩
                    case measure => simp [intOf]; omega)
                | succ u =>
                  obtain ⟨f', hfu'⟩ : ∃ f, es'[u]? = some f := ⟨es'[u]'(by rw [← HVL.out.2]; omega), List.getElem?_eq_getElem _⟩
                  have hx2 := (hbu.cell (p := ⟨g6, u, none⟩) hg6).trans (HC6.out u _ (boolCells_at _ u _ (ovs_at _ _ es' u f' hfu')))
                  obtain ⟨x', hxv'⟩ : ∃ x, x = ovP p.bs p.k f'.bs f'.k := ⟨_, rfl⟩
                  rw [← hxv'] at hx2
                  have HXV' := Lib.hid (And.intro hxv' hfu')
                  clear hxv' hfu'
                  cases x
                  · cases x'
                    · go_wp2
                      go_roundw
                      case rel => exact ⟨u + 1 + 1, false, by omega, by go_num, rfl, fun h => (by cases h), hbu⟩
                      case measure => simp [intOf]; omega
                    · go_wp2
                      go_roundw
                      case rel => exact ⟨u + 1 + 1, true, by omega, by go_num, rfl, fun _ => ⟨u, f', f, by omega, HXV'.out.2, HXV.out.2, HXV'.out.1.symm, HXV.out.1.symm⟩, hbu⟩
                      case measure => simp [intOf]; omega
                  · cases x' <;> (
                      go_wp2
                      go_roundw
                      case rel => exact ⟨u + 1 + 1, false, by omega, by go_num, rfl, fun h => (by cases h), hbu⟩
                      case measure => simp [intOf]; omega)
              · obtain ⟨i, a, c', hi1, ha, hc', oa, oc⟩ := HEND.out rfl
                have hxf : x = false := by
                  cases hxx : x
                  · rfl
                  · rw [HXV.out.1] at hxx
                    have := HF.out.run HS.out.1 HS.out.2 p.is ha hc' HXV.out.2 (by omega) hi1 oa hxx
                    rw [show ovP p.bs p.k c'.bs c'.k = true from this] at oc
                    cases oc
                subst hxf
                have G1 := Lib.hid (And.intro ha (And.intro hc' (And.intro oa oc)))
                clear ha hc' oa oc
                go_wp2
                go_roundw
                case rel => exact ⟨u + 1, true, by omega, by go_num, rfl, fun _ => ⟨i, a, c', by omega, G1.out.1, G1.out.2.1, G1.out.2.2.1, G1.out.2.2.2⟩, hbu⟩
                case measure => simp [intOf]; omega
            · obtain rfl : u = L := by omega
              have hb37 := hb36.trans (hbu.mono hb36.size)
              go_wp2
              go_roundw
              case rel => exact ⟨t + 1, by omega, by go_num, hb37⟩
              case measure => simp [intOf]; omega
        · obtain rfl : t = M := by omega
          have hbw2 := hbw3.trans (hbt.mono hbw3.size)
          go_wp2
          go_returns
          exact ⟨rfl, hbw2⟩
end Go.Proofs.YtckfgdohpmllmaaDoor
