/-
  The walk of laws.FnLongestMatch.
-/
import Derived.Test.YtckfgdohpmllmaaDoorMaskO
namespace Go.Proofs.YtckfgdohpmllmaaDoor
open Go Go.RowKit
theorem nested_in {a b : Pf} {x : List UInt8} (ha : Vp a.is) (hb : Vp b.is) (h : pkey a.is ≤ pkey b.is) (h1 : inP a.bs a.k x = true) (h2 : inP b.bs b.k x = true) : a.k ≤ b.k ∧ inP a.bs a.k (wb b.bs b.k false) = true ∧ inP a.bs a.k (wb b.bs b.k true) = true := by
  have ho : ovP a.bs a.k b.bs b.k = true := ov_of h1 h2
  have hk := ord_bits ha hb h ho
  exact ⟨hk, ov_in ho hk (inP_first _ _), ov_in ho hk (inP_last _ _)⟩
theorem own_mask {p : Pf} {x : List UInt8} (h : inP p.bs p.k x = true) : (wb x p.k false, p.k) = maskIs p.is := by
  rw [inP_iff] at h
  unfold maskIs
  show (wb x p.k false, p.k) = (wb p.bs p.k false, p.k)
  rw [(wb_top h.1 p.k).2 (by rw [h.1]; exact h.2)]
theorem numCells (es : List Pf) (e : Pf) : ((es ++ [e]).map Pf.k).map (fun (x : Nat) => Value.int .i64 (x : Int)) = (es.map Pf.k).map (fun (x : Nat) => Value.int .i64 (x : Int)) ++ [.int .i64 e.k] := by simp
theorem filter_take (fs : List Pf) (p : Pf → Bool) (j : Nat) (e : Pf) (h : fs[j]? = some e) : (fs.take (j + 1)).filter p = (fs.take j).filter p ++ if p e then [e] else [] := by
  rw [List.take_add_one, h, Option.toList_some, List.filter_append]
  congr 1
  cases hp : p e <;> simp [hp]
theorem ctCells_at (es : List Pf) (i : Nat) (e : Pf) (h : es[i]? = some e) : (ctCells es)[i * 4]? = some (.slice e.a e.n e.c) ∧ (ctCells es)[i * 4 + 1]? = some (.string ⟨#[]⟩) ∧ (ctCells es)[i * 4 + 2]? = some (.int .i64 e.k) ∧ (ctCells es)[i * 4 + 3]? = some (.bool true) := by
  obtain ⟨hi, rfl⟩ := List.getElem?_eq_some_iff.1 h
  exact ctCells_get es i hi
set_option maxRecDepth 100000 in
set_option maxHeartbeats 32000000 in
theorem long_walk (A : Option Addr) (n c : Nat) (es0 : List En) (B : Option Addr) (m d : Nat) (xs : List UInt8) (R : Option Addr) (rn rc : Nat) (rs : List UInt8) (z : ZP) (w : World) (hz : Zs w z) (hl : RS w A n es0) (hn : n ≤ 1048576) (hx : RB w B m xs) (hm : m ≤ 140737488355328)
    (hr : RB w R rn rs) (hR : R = none → rn = 0 ∧ rc = 0) (hrn : rn ≤ 140737488355328) :
    Calls Tryd.prog 15 #[.slice A n c, .slice B m d, .slice R rn rc] w (TrueW w) := by
  obtain ⟨i0, hi, hz0, hz1, hz2⟩ := info_parts infoPf
  obtain ⟨k0, hki, hkz0, hkz1, hkz2⟩ := info_parts infoI64
  have hval := madeZ_valid ((es0.map (·.bs)).zip xs)
  have hmlen : (madeZ ((es0.map (·.bs)).zip xs)).length ≤ n := Nat.le_trans (madeZ_len _) (by rw [List.length_zip, List.length_map, hl.1]; omega)
  go_enter Tryd.func15, Tryd.ntmps15
  go_wp2_with fail
  refine (isAddress_c R rn rc w).mono ?_
  rintro e0 wa ⟨rfl, hba⟩
  by_cases hla : (rn == 4 || rn == 16) = true
  · rw [hla]
    have hrl : isLen rs.length := by rw [hr.1]; simpa [isLen] using hla
    go_wp2_with fail
    refine (made_c A n c es0 B m d xs wa (hl.keep hba) (by omega) (hx.keep hba) (by omega)).mono ?_
    rintro e0 w1 ⟨v1, rfl, ⟨A1, c1, es, rfl, hown, hmap, hin⟩, hb1'⟩
    rw [← hmap] at hval hmlen
    rw [List.length_map] at hmlen
    have hb1 := hba.trans (hb1'.mono hba.size)
    have hrp := RP.of_own hown rfl hin
    have hzA := hz.keep hb1
    have hv : ∀ e ∈ es, Vp e.is := fun e he => hval e.is (List.mem_map_of_mem he)
    clear hown hmap hin hval
    go_wp2_with fail
    refine (sorted_c A1 es.length c1 es z w1 hzA hrp hv (by omega)).mono ?_
    rintro e0 w2 ⟨A2, c2, fs, rfl, hown2, hsort, hb2⟩
    have hrp2 := hsort.rp hrp hb2 hown2
    have hv2 := hsort.all hv
    have hzB := hzA.keep hb2
    have hbw := hb1.trans (hb2.mono hb1.size)
    have hr2 := hr.keep hbw
    obtain ⟨N, hN⟩ : ∃ N, N = es.length := ⟨_, rfl⟩
    rw [← hN] at hrp2 hmlen ⊢
    have HS := Lib.hid (And.intro hsort.2 hv2)
    clear hown2 hsort hv hrp hN hb1 hb1' hb2 hzA hv2 hba hz hl hx hr
    clear es
    go_wp2_with fail
    go_loopw [8, 9, 27] (fun v u i wr => ∃ (j : Nat) (es' : List Pf), j ≤ N ∧ i = .int .i64 j ∧ wr.ownsRow w2.heap.size 29 3 v es'.length (pfCells es') ∧ wr.ownsRow w2.heap.size 3 1 u es'.length ((es'.map Pf.k).map (fun (x : Nat) => Value.int .i64 (x : Int))) ∧ es' = (fs.take j).filter (fun e => inP e.bs e.k rs) ∧ Below w2.heap.size w2 wr) (fun _ _ i _ => N - (intOf i).toNat)
    case atStart => exact ⟨0, [], Nat.zero_le _, rfl, World.ownsRow_nil _ _ _ _, World.ownsRow_nil _ _ _ _, rfl, Below.refl _ _⟩
    case round =>
      obtain ⟨j, es', hj, rfl, hown, hnum, hfil, hbb⟩ := hrel
      have HF := Lib.hid hfil
      have hlen' : es'.length ≤ j := by rw [hfil]; refine Nat.le_trans (List.length_filter_le _ _) ?_; rw [List.length_take]; omega
      obtain ⟨L, hL⟩ : ∃ L, L = es'.length := ⟨_, rfl⟩
      rw [← hL] at hlen' hown hnum
      have HL := Lib.hid hL
      clear hfil hL
      obtain ⟨A3, c3, rfl⟩ := own_slice hown
      obtain ⟨A4, c4, rfl⟩ := own_slice hnum
      by_cases hlt : j < N
      · obtain ⟨g, o, e, hA, hg, hek, hc0, hc1, hc2, hbe⟩ := (hrp2.keep hbb).at hlt
        subst hA
        have hve := HS.out.2 e (List.mem_of_getElem? hek)
        have hn16 : e.n ≤ 16 ∧ isLen e.n := by rw [← hbe.1]; have h5 := hve.1; unfold isLen at *; simp only [Pf.is] at h5; omega
        have hke : e.k ≤ 8 * e.n := by rw [← hbe.1]; exact hve.2
        have hxa : Below wr.heap.size wr (wr.alloc (.cells #[.slice e.a e.n e.c, .string ⟨#[]⟩, .int .i64 e.k] 29)) := (Below.refl _ _).alloc (Nat.le_refl _) _
        have hbox : Blk (wr.alloc (.cells #[.slice e.a e.n e.c, .string ⟨#[]⟩, .int .i64 e.k] 29)) wr.heap.size 29 #[.slice e.a e.n e.c, .string ⟨#[]⟩, .int .i64 e.k] := heap_alloc_new _ _
        obtain ⟨gP, hgP⟩ : ∃ gP, gP = wr.heap.size := ⟨_, rfl⟩
        have hneP : some gP ≠ (Value.slice A3 L c3).ownBlock := fun h => by have := (hown.lt gP h.symm).2; omega
        have HNP := Lib.hid hneP
        clear hneP
        have HX := Lib.hid (And.intro hgP (And.intro hbox (And.intro (hbb.trans (hxa.mono hbb.size)) (And.intro (hbe.keep hxa) (And.intro (own_below hown hxa) (own_below hnum hxa))))))
        have HE := Lib.hid hek
        clear hgP hbox hek hxa hbe hown hnum
        go_upto_region 9 with fail
        obtain ⟨hgP, hbox, hb5, hbe5, hO5, hU5⟩ := HX.out
        rw [← hgP] at hbox ⊢
        clear HX hc0 hc1 hc2 hgP hbb
        generalize wr.alloc (.cells #[.slice e.a e.n e.c, .string ⟨#[]⟩, .int .i64 e.k] 29) = w5 at *
        have hdr : Below w5.heap.size w5 w5.drew := ⟨rfl, rfl, rfl, Nat.le_refl _, fun _ _ => rfl⟩
        have lP := hbox.lt
        have rP : ∀ w', Below w5.heap.size w5 w' → ∀ i, w'.cell? ⟨gP, i, none⟩ = #[Value.slice e.a e.n e.c, .string ⟨#[]⟩, .int .i64 e.k][i]? := fun w' h i => (h.cell (p := ⟨gP, i, none⟩) lP).trans (hbox.cell i)
        have k2 : ∀ w' g c, Below w5.heap.size w5 w' → RB w' (some ⟨g, 0, none⟩) e.n (wb e.bs e.k false) → Calls Tryd.prog 21 #[.agg #[.slice e.a e.n e.c, .string ⟨#[]⟩, .int .i64 e.k], .slice (some ⟨g, 0, none⟩) e.n c] w' fun e w'' => e = .returned (.bool true) ∧ Below w'.heap.size w' w'' := fun w' g c h hr => by
          have := contains_c e.a (some ⟨g, 0, none⟩) e.n e.n e.c c e.bs (wb e.bs e.k false) e.k z w' ((hzB.keep hb5).keep h) (hbe5.keep h) hr (by simp) (by omega) hve.1 hve.2
          rw [show inP e.bs e.k (wb e.bs e.k false) = true from inP_first _ _] at this
          exact this
        refine region_pick (Below w5.heap.size w5) [(0, false, none), (1, false, none), (2, true, none), (3, false, none), (4, false, none)] 5 (by kernel_rfl) (by kernel_rfl) (fun w w' h hb => h.trans (hb.mono h.size)) (hdr) ?_
        simp only [pickOps, List.getElem?_cons_zero, List.getElem?_cons_succ]
        repeat (first | (refine t_skip rfl ?_; (simp only [Act.put, List.setIfInBounds_toArray, List.set_cons_zero, List.set_cons_succ])) | (refine t_run ?_ rfl (fun w1 hw1 => ?_) ?_; rotate_left; (have r0 := rP w1 hw1; go_simp; try (with_reducible rfl)); (simp only [Act.put, List.setIfInBounds_toArray, List.set_cons_zero, List.set_cons_succ])))
        refine t_fresh ?_ ?_ (fun v w' => OwnB 0 e.n (wb e.bs e.k false) v w') (by rfl) (fun w1 hw1 => ?_) (fun v w w' h hb => h.keep hb) (fun w1 hw1 => ?_) ?_
        rotate_left 2
        (go_simp; refine ⟨?_, ?_⟩ <;> with_reducible rfl)
        (go_at_call 22; (with_reducible refine (firstOf_c e.a e.n e.c e.bs e.k w1 (hbe5.keep hw1) hn16.2 hke).mono ?_); rintro e w2 ⟨v, rfl, ⟨g9, c9, rfl, hown9⟩, hb9⟩; exact ⟨_, rfl, ⟨g9, c9, rfl, own_mono hown9 (Nat.zero_le _)⟩, hb9⟩)
        rintro v8 ⟨-, -, g9, c9, rfl, -⟩
        (simp only [Act.put, List.setIfInBounds_toArray, List.set_cons_zero, List.set_cons_succ])
        repeat (first | (refine t_skip rfl ?_; (simp only [Act.put, List.setIfInBounds_toArray, List.set_cons_zero, List.set_cons_succ])) | (refine t_run ?_ rfl (fun w1 hw1 => ?_) ?_; rotate_left; (have r0 := rP w1 hw1.1; go_simp; try (with_reducible rfl)); (simp only [Act.put, List.setIfInBounds_toArray, List.set_cons_zero, List.set_cons_succ])) | (refine t_call ?_ ?_ ?_ rfl (fun w1 hw1 => ?_) (fun w1 hw1 => ?_) ?_; rotate_left 3; (have r0 := rP w1 hw1.1; go_simp; refine ⟨?_, ?_⟩ <;> with_reducible rfl); (first | (go_at_call 21; (with_reducible refine (k2 w1 g9 c9 hw1.1 (RB.of_own hw1.2.own)).mono ?_); rintro e w2 ⟨rfl, hb⟩; refine ⟨?_, hb⟩; with_reducible rfl) | (go_at_call 21; (refine (k2 w1 g9 c9 hw1.1 (RB.of_own hw1.2.own)).mono ?_); rintro e w2 ⟨rfl, hb⟩; refine ⟨?_, hb⟩; with_reducible rfl)); (simp only [Act.put, List.setIfInBounds_toArray, List.set_cons_zero, List.set_cons_succ])))
        intro w6 ⟨hw6, _⟩
        simp only [List.drop_succ_cons, List.drop_zero]
        have hb6 := hb5.trans (hw6.mono hb5.size)
        have bP := (hbox.below hw6).cell
        have hz6 := hzB.keep hb6
        have hbe6 := hbe5.keep hw6
        have hr6 := hr2.keep hb6
        clear rP k2 hdr lP
        go_wp2_with fail
        refine (contains_c e.a R e.n rn e.c rc e.bs rs e.k z w6 hz6 hbe6 hr6 hR hrn hve.1 hve.2).mono ?_
        rintro e1 w7 ⟨rfl, hb7⟩
        have hb57 := hw6.trans (hb7.mono hw6.size)
        have hb27 := hb6.trans (hb7.mono hb6.size)
        have hO7 := own_below hO5 hb57
        have hU7 := own_below hU5 hb57
        have bP7 := hbox.below hb57
        have hfl : (fs.take (j + 1)).filter (fun e => inP e.bs e.k rs) = es' ++ if inP e.bs e.k rs then [e] else [] := by
          rw [filter_take fs _ j e HE.out, ← HF.out]
        obtain ⟨x, hx⟩ : ∃ x, x = inP e.bs e.k rs := ⟨_, rfl⟩
        rw [← hx] at hfl ⊢
        clear hx bP hz6 hbe6 hr6 hb6 hb7 hw6 hO5 hU5 hbox hb5 hbe5
        cases x
        · have G1 := Lib.hid hO7
          have G2 := Lib.hid hU7
          have G3 := Lib.hid hfl
          clear hO7 hU7 hfl bP7
          go_wp2
          go_roundw
          case rel => exact ⟨j + 1, es', by omega, by go_num, by rw [← HL.out]; exact G1.out, by rw [← HL.out]; exact G2.out, by rw [G3.out]; simp, hb27⟩
          case measure => simp [intOf]; omega
        · have hsz7 := hb27.size
          have c7 := bP7.cell
          have HO7 := Lib.hid hO7
          have HU7 := Lib.hid hU7
          have HFL := Lib.hid hfl
          have HB7 := Lib.hid bP7
          clear hO7 hU7 hfl bP7
          go_wp2_with ((at_builtin; refine append1 rfl _ _ 23 rfl (w2.heap.size) 29 i0 (.agg #[.slice none 0 0, .string ⟨#[]⟩, .int .i64 0]) 3 48 Tryd.underlying23 hi hz0 hz1 hz2 rfl (by decide) _ _ _ rfl (HO7.out) _ _ [.slice e.a e.n e.c, .string ⟨#[]⟩, .int .i64 e.k] rfl (by simp) rfl rfl (by unfold maxLen; omega) (by omega) (by first | omega | (simp; omega)) ?_))
          intro v8 w8 hown8 hgrow
          have hxb : Below w7.heap.size w7 (w7.alloc (.cells #[.slice e.a e.n e.c, .string ⟨#[]⟩, .int .i64 e.k] 29)) := (Below.refl _ _).alloc (Nat.le_refl _) _
          have hb8 : Below w2.heap.size w2 w8 := (hb27.trans (hxb.mono hb27.size)).grown hgrow (Nat.le_trans hb27.size hxb.size) (own_row_ge HO7.out)
          have hU8 := (own_below HU7.out hxb).kept hgrow (own_ne (own_below HU7.out hxb) (own_below HO7.out hxb) (by decide))
          have hP8 := (HB7.out.below hxb).grown hgrow HNP.out
          have c8' := hP8.cell
          have hsz8 := hb8.size
          have HO8 := Lib.hid hown8
          have HU8 := Lib.hid hU8
          clear hown8 hgrow hxb hU8 hP8 c7 HB7 HO7 HU7
          go_wp2_with ((at_builtin; refine append1 rfl _ _ 40 rfl (w2.heap.size) 3 k0 (.int .i64 0) 1 8 Tryd.underlying40 hki hkz0 hkz1 hkz2 rfl (by decide) _ _ _ rfl (HU8.out) _ _ [.int .i64 e.k] rfl (by simp) rfl rfl (by unfold maxLen; omega) (by omega) (by first | omega | (simp; omega)) ?_))
          intro v9 w9 hown9 hgrow
          have hxb : Below w8.heap.size w8 (w8.alloc (.cells #[.int .i64 e.k] 3)) := (Below.refl _ _).alloc (Nat.le_refl _) _
          have hb9 : Below w2.heap.size w2 w9 := (hb8.trans (hxb.mono hb8.size)).grown hgrow (Nat.le_trans hb8.size hxb.size) (own_row_ge HU8.out)
          have hO9 := (own_below HO8.out hxb).kept hgrow (own_ne (own_below HO8.out hxb) (own_below HU8.out hxb) (by decide))
          have he9 : w9.ownsRow w2.heap.size 29 3 v8 (es' ++ [e]).length (pfCells (es' ++ [e])) := by rw [pfCells_append, List.length_append, ← HL.out]; exact hO9
          have hu9 : w9.ownsRow w2.heap.size 3 1 v9 (es' ++ [e]).length (((es' ++ [e]).map Pf.k).map (fun (x : Nat) => Value.int .i64 (x : Int))) := by rw [numCells, List.length_append, ← HL.out, List.map_map]; exact hown9
          have hf9 : es' ++ [e] = (fs.take (j + 1)).filter (fun e => inP e.bs e.k rs) := by rw [HFL.out]; simp
          have G1 := Lib.hid he9
          have G2 := Lib.hid hu9
          have G3 := Lib.hid hf9
          clear he9 hu9 hf9 hO9 hown9 hgrow hxb HO8 HU8 c8'
          go_wp2
          go_roundw
          case rel => exact ⟨j + 1, es' ++ [e], by omega, by go_num, G1.out, G2.out, G3.out, hb9⟩
          case measure => simp [intOf]; omega
      · obtain rfl : j = N := by omega
        have hsub : es'.Sublist fs := by rw [HF.out]; exact (List.filter_sublist).trans (List.take_sublist _ _)
        have hse : es'.Pairwise lePf := HS.out.1.sublist hsub
        have hve : ∀ q ∈ es', Vp q.is := fun q hq => HS.out.2 q (hsub.subset hq)
        have hie : ∀ q ∈ es', inP q.bs q.k rs = true := fun q hq => by rw [HF.out] at hq; exact (List.mem_filter.1 hq).2
        have hrl' : RP wr A3 L es' := ⟨HL.out.symm, RC.of_own hown, fun q hq => (hrp2.keep hbb).2.2 q (hsub.subset hq)⟩
        have hru : RN wr A4 L (es'.map Pf.k) := ⟨by rw [List.length_map]; exact HL.out.symm, RC.of_own hnum⟩
        have hcap : 0 < L → L ≤ c3 := fun h => by
          obtain ⟨g3, hA3, -, -⟩ := own_some hown h
          subst hA3
          obtain ⟨cur, -, h1, -, -, -⟩ := own_rowBlk hown
          exact h1
        have hkb : ∀ x ∈ es'.map Pf.k, x ≤ 8 * rs.length := fun x hx => by
          obtain ⟨q, hq, rfl⟩ := List.mem_map.1 hx
          have h1 := (hve q hq).2
          have h2 := ((inP_iff _ _ _).1 (hie q hq)).1
          rw [h2]; exact h1
        have HP := Lib.hid (And.intro hse (And.intro hve (And.intro hie (And.intro hkb hcap))))
        have hbw3 := hbw.trans (hbb.mono hbw.size)
        have hr3 := hr2.keep hbb
        have hz3 := hzB.keep hbb
        clear hown hnum hsub hse hve hie hkb hcap hbw hbb hr2 hzB hrp2
        go_wp2_with fail
        refine (plain_c R rn rc rs wr hr3 hR hrn).mono ?_
        rintro e1 w5 ⟨A5, c5, rfl, hown5, hb5⟩
        have hr5 := RB.of_own hown5
        have hru5 := hru.keep hb5
        have hrl5 := hrl'.keep hb5
        have hz5 := hz3.keep hb5
        have hbw5 := hbw3.trans (hb5.mono hbw3.size)
        clear hown5 hru hrl' hz3 hbw3 hr3 hb5
        go_wp2_with fail
        refine (prefixesOf_c A5 rn c5 rs A4 L _ (es'.map Pf.k) z w5 hz5 hr5 hrl hru5 HP.out.2.2.2.1 (by omega)).mono ?_
        rintro e1 w6 ⟨A6, c6, cs, rfl, hown6, hmap6, hin6, hb6⟩
        have hcl : cs.length = L := by have := congrArg List.length hmap6; unfold cutsOf at this; simp only [List.length_map] at this; rw [this]; exact HL.out.symm
        rw [hcl] at hown6 ⊢
        have hrl6 := hrl5.keep hb6
        have hz6 := hz5.keep hb6
        have hbw6 := hbw5.trans (hb6.mono hbw5.size)
        have hme := masked_each A3 L c3 es' z w6 hz6 hrl6 HP.out.2.1 (by omega)
        unfold MaskPost at hme
        rw [← HL.out] at hme
        have HC := Lib.hid (And.intro hmap6 (And.intro hin6 (And.intro hown6 hcl)))
        clear hmap6 hin6 hown6 hcl hr5 hru5 hrl5 hz5 hbw5 hb6
        go_wp2_with fail
        refine hme.mono ?_
        rintro e1 w7 ⟨A7, c7, gs, rfl, hown7, hmap7, hin7, hb7⟩
        have hgl : gs.length = L := by have := congrArg List.length hmap7; simp only [List.length_map] at this; rw [this]; exact HL.out.symm
        have hrpG := mask_rp hown7 hgl hin7
        have hO7 := own_below HC.out.2.2.1 hb7
        have hI7 := HC.out.2.1.below hb7
        have hrl7 := hrl6.keep hb7
        have hz7 := hz6.keep hb7
        have hbw7 := hbw6.trans (hb7.mono hbw6.size)
        have HC7 := Lib.hid (And.intro hO7 (And.intro hI7 hmap7))
        clear hme hown7 hin7 hmap7 hgl hO7 hI7 hrl6 hz6 hbw6 hb7
        obtain ⟨wo, hwo⟩ : ∃ wo, wo = wr := ⟨_, rfl⟩
        subst hwo
        go_wp2_with fail
        go_loopw [69] (fun i wr => ∃ (t : Nat), t ≤ L ∧ i = .int .i64 t ∧ Below w7.heap.size w7 wr) (fun i _ => L - (intOf i).toNat)
        case atStart => exact ⟨0, Nat.zero_le _, rfl, Below.refl _ _⟩
        case round =>
          obtain ⟨t, ht, rfl, hbt⟩ := hrel
          by_cases htL : t < L
          · obtain ⟨g, o, e, hA, hg, hek, hc0, hc1, hc2, hbe⟩ := (hrl7.keep hbt).at htL
            subst hA
            obtain ⟨h, q, f, hB, hh, hfk, hd0, hd1, hd2, hbf⟩ := (hrpG.keep hbt).at htL
            subst hB
            obtain ⟨a, hak⟩ : ∃ a, cs[t]? = some a := ⟨cs[t]'(by rw [HC.out.2.2.2]; exact htL), List.getElem?_eq_getElem _⟩
            obtain ⟨g6, hA6, hg6, hc6⟩ := own_some HC7.out.1 (by omega)
            subst hA6
            have hg6r := Nat.lt_of_lt_of_le hg6 hbt.size
            obtain ⟨a0, a1, a2, a3⟩ := ctCells_at _ _ _ hak
            replace a0 := (hbt.cell (p := ⟨g6, t * 4, none⟩) hg6).trans (hc6 _ _ a0)
            replace a1 := (hbt.cell (p := ⟨g6, t * 4 + 1, none⟩) hg6).trans (hc6 _ _ a1)
            replace a2 := (hbt.cell (p := ⟨g6, t * 4 + 2, none⟩) hg6).trans (hc6 _ _ a2)
            replace a3 := (hbt.cell (p := ⟨g6, t * 4 + 3, none⟩) hg6).trans (hc6 _ _ a3)
            obtain ⟨ta, -, hoa⟩ := HC7.out.2.1 a (List.mem_of_getElem? hak)
            have hra := (RB.of_own hoa).keep hbt
            have hem := List.mem_of_getElem? hek
            have hve := HP.out.2.1 e hem
            have isa : a.is = (wb rs e.k false, e.k) := by
              have h3 : (cs.map Pf.is)[t]? = some a.is := by rw [List.getElem?_map, hak]; rfl
              rw [HC.out.1] at h3
              unfold cutsOf at h3
              rw [List.getElem?_map, List.getElem?_map, hek] at h3
              injection h3 with h3
              exact h3.symm
            have isf : f.is = maskIs e.is := by
              have h3 : (gs.map Pf.is)[t]? = some f.is := by rw [List.getElem?_map, hfk]; rfl
              rw [HC7.out.2.2, List.getElem?_map, List.getElem?_map, hek] at h3
              injection h3 with h3
              exact h3.symm
            have haf : decide ((a.bs, a.k) = (f.bs, f.k)) = true := by
              rw [decide_eq_true_eq]
              exact isa.trans ((own_mask (HP.out.2.2.1 e hem)).trans isf.symm)
            have han : a.n ≤ 9223372036854775807 := by
              rw [← hra.1, show a.bs = wb rs e.k false from congrArg Prod.fst isa, wb_len]
              have := hrl; unfold isLen at this; omega
            have hn16 : e.n ≤ 16 ∧ isLen e.n := by rw [← hbe.1]; have h5 := hve.1; unfold isLen at *; simp only [Pf.is] at h5; omega
            have hke : e.k ≤ 8 * e.n := by rw [← hbe.1]; exact hve.2
            have hxa : Below wr.heap.size wr (wr.alloc (.cells #[.slice e.a e.n e.c, .string ⟨#[]⟩, .int .i64 e.k] 29)) := (Below.refl _ _).alloc (Nat.le_refl _) _
            have hbox : Blk (wr.alloc (.cells #[.slice e.a e.n e.c, .string ⟨#[]⟩, .int .i64 e.k] 29)) wr.heap.size 29 #[.slice e.a e.n e.c, .string ⟨#[]⟩, .int .i64 e.k] := heap_alloc_new _ _
            obtain ⟨gP, hgP⟩ : ∃ gP, gP = wr.heap.size := ⟨_, rfl⟩
            have rA : ∀ w', Below wr.heap.size wr w' → w'.cell? ⟨g6, t * 4, none⟩ = some (.slice a.a a.n a.c) ∧ w'.cell? ⟨g6, t * 4 + 1, none⟩ = some (.string ⟨#[]⟩) ∧ w'.cell? ⟨g6, t * 4 + 2, none⟩ = some (.int .i64 a.k) ∧ w'.cell? ⟨g6, t * 4 + 3, none⟩ = some (.bool true) := fun w' hb =>
              ⟨(hb.cell (p := ⟨g6, t * 4, none⟩) hg6r).trans a0, (hb.cell (p := ⟨g6, t * 4 + 1, none⟩) hg6r).trans a1, (hb.cell (p := ⟨g6, t * 4 + 2, none⟩) hg6r).trans a2, (hb.cell (p := ⟨g6, t * 4 + 3, none⟩) hg6r).trans a3⟩
            have rF : ∀ w', Below wr.heap.size wr w' → w'.cell? ⟨h, q + t * 3, none⟩ = some (.slice f.a f.n f.c) ∧ w'.cell? ⟨h, q + t * 3 + 1, none⟩ = some (.string ⟨#[]⟩) ∧ w'.cell? ⟨h, q + t * 3 + 2, none⟩ = some (.int .i64 f.k) := fun w' hb =>
              ⟨(hb.cell (p := ⟨h, q + t * 3, none⟩) hh).trans hd0, (hb.cell (p := ⟨h, q + t * 3 + 1, none⟩) hh).trans hd1, (hb.cell (p := ⟨h, q + t * 3 + 2, none⟩) hh).trans hd2⟩
            have k1 : ∀ w', Below wr.heap.size wr w' → Calls Tryd.prog 34 #[.agg #[.slice a.a a.n a.c, .string ⟨#[]⟩, .int .i64 a.k], .agg #[.slice f.a f.n f.c, .string ⟨#[]⟩, .int .i64 f.k]] w' fun e w'' => e = .returned (.bool true) ∧ Below w'.heap.size w' w'' := fun w' hb => by
              have := samePf_c a.a f.a a.n f.n a.c f.c a.bs f.bs a.k f.k w' (hra.keep hb) (hbf.keep hb) han
              rw [haf] at this
              exact this
            have hLc := HP.out.2.2.2.2 (by omega)
            have HX := Lib.hid (And.intro hgP (And.intro hbox (And.intro (hbe.keep hxa) (And.intro hxa (And.intro rA (And.intro rF k1))))))
            have HE := Lib.hid (And.intro hek hem)
            clear hgP hbox hek hem hxa hbe rA rF k1 a0 a1 a2 a3 hd0 hd1 hd2 hak hfk isa isf haf hc6 hoa hra hbf
            go_upto_region 22 with fail
            obtain ⟨hgP, hbox, hbe8, hxa, rA, rF, k1⟩ := HX.out
            have hb78 := hbt.trans (hxa.mono hbt.size)
            rw [← hgP] at hbox ⊢
            clear HX hc0 hc1 hc2 hgP
            generalize wr.alloc (.cells #[.slice e.a e.n e.c, .string ⟨#[]⟩, .int .i64 e.k] 29) = w8 at *
            have hdr : Below w8.heap.size w8 w8.drew := ⟨rfl, rfl, rfl, Nat.le_refl _, fun _ _ => rfl⟩
            have rA8 := fun w' (h : Below w8.heap.size w8 w') => rA w' (hxa.trans (h.mono hxa.size))
            have rF8 := fun w' (h : Below w8.heap.size w8 w') => rF w' (hxa.trans (h.mono hxa.size))
            have k18 := fun w' (h : Below w8.heap.size w8 w') => k1 w' (hxa.trans (h.mono hxa.size))
            have q1 : (0 : Int) ≤ t ∧ (t : Int) < L := by omega
            have HQ := Lib.hid q1
            clear q1 rA rF k1
            refine region_pick (Below w8.heap.size w8) [(0, false, none), (1, false, none), (2, false, none), (3, false, none), (4, false, none), (5, false, none), (6, false, none), (7, false, none), (8, false, none), (9, false, none), (10, false, none), (11, false, none), (12, false, none), (13, false, none), (14, false, none), (15, false, none), (16, false, none), (17, false, none), (18, false, none)] 19 (by kernel_rfl) (by kernel_rfl) (fun w w' h hb => h.trans (hb.mono h.size)) (hdr) ?_
            simp only [pickOps, List.getElem?_cons_zero, List.getElem?_cons_succ]
            repeat (first | (refine t_skip rfl ?_; (simp only [Act.put, List.setIfInBounds_toArray, List.set_cons_zero, List.set_cons_succ])) | (refine t_run ?_ rfl (fun w1 hw1 => ?_) ?_; rotate_left; (have r0 := (rA8 w1 hw1).1; have r1 := (rA8 w1 hw1).2.1; have r2 := (rA8 w1 hw1).2.2.1; have r3 := (rA8 w1 hw1).2.2.2; have r4 := (rF8 w1 hw1).1; have r5 := (rF8 w1 hw1).2.1; have r6 := (rF8 w1 hw1).2.2; have r7 := HQ.out; go_simp; try (with_reducible rfl)); (simp only [Act.put, List.setIfInBounds_toArray, List.set_cons_zero, List.set_cons_succ])) | (refine t_call ?_ ?_ ?_ rfl (fun w1 hw1 => ?_) (fun w1 hw1 => ?_) ?_; rotate_left 3; (have r0 := (rA8 w1 hw1).1; have r1 := (rA8 w1 hw1).2.1; have r2 := (rA8 w1 hw1).2.2.1; have r3 := (rA8 w1 hw1).2.2.2; have r4 := (rF8 w1 hw1).1; have r5 := (rF8 w1 hw1).2.1; have r6 := (rF8 w1 hw1).2.2; have r7 := HQ.out; go_simp; refine ⟨?_, ?_⟩ <;> with_reducible rfl); (first | (go_at_call 34; (with_reducible refine (k18 w1 hw1).mono ?_); rintro e w2 ⟨rfl, hb⟩; refine ⟨?_, hb⟩; with_reducible rfl) | (go_at_call 34; (refine (k18 w1 hw1).mono ?_); rintro e w2 ⟨rfl, hb⟩; refine ⟨?_, hb⟩; with_reducible rfl)); (simp only [Act.put, List.setIfInBounds_toArray, List.set_cons_zero, List.set_cons_succ])))
            intro w9 hw9
            simp only [List.drop_succ_cons, List.drop_zero]
            have hb79 := hb78.trans (hw9.mono hb78.size)
            have hbox9 := hbox.below hw9
            have hbe9 := hbe8.keep hw9
            have hrl9 := hrl7.keep hb79
            have hz9 := hz7.keep hb79
            have HB9 := Lib.hid hbox9
            clear rA8 rF8 k18 hdr hbox hbe8 hw9 hb78 hbox9 hxa hbt
            obtain ⟨wo2, hwo⟩ : ∃ wo2, wo2 = wr := ⟨_, rfl⟩
            subst hwo
            go_wp2_with fail
            go_loopw [97] (fun i wr => ∃ (u : Nat), u ≤ t ∧ i = .int .i64 u ∧ Below w9.heap.size w9 wr) (fun i _ => t - (intOf i).toNat)
            case atStart => exact ⟨0, Nat.zero_le _, rfl, Below.refl _ _⟩
            case round =>
              obtain ⟨u, hu, rfl, hbu⟩ := hrel
              by_cases hut : u < t
              · obtain ⟨g', o', p, hA', hg', hpk, hp0, hp1, hp2, hbp⟩ := (hrl9.keep hbu).at (i := u) (by omega)
                injection hA' with hA'
                injection hA' with hA1 hA2
                subst hA1 hA2
                have hpm := List.mem_of_getElem? hpk
                have hvp := HP.out.2.1 p hpm
                obtain ⟨n1, n2, n3⟩ := nested_in hvp hve (sort_get HP.out.1 hpk HE.out.1 (by omega)) (HP.out.2.2.1 p hpm) (HP.out.2.2.1 e HE.out.2)
                have hxb : Below wr.heap.size wr (wr.alloc (.cells #[.slice p.a p.n p.c, .string ⟨#[]⟩, .int .i64 p.k] 29)) := (Below.refl _ _).alloc (Nat.le_refl _) _
                have hboxq : Blk (wr.alloc (.cells #[.slice p.a p.n p.c, .string ⟨#[]⟩, .int .i64 p.k] 29)) wr.heap.size 29 #[.slice p.a p.n p.c, .string ⟨#[]⟩, .int .i64 p.k] := heap_alloc_new _ _
                obtain ⟨gQ, hgQ⟩ : ∃ gQ, gQ = wr.heap.size := ⟨_, rfl⟩
                have hb10 := hbu.trans (hxb.mono hbu.size)
                have HX := Lib.hid (And.intro hgQ (And.intro hboxq (And.intro hb10 (And.intro (hbp.keep hxb) (And.intro n2 n3)))))
                have p1 : decide (e.k < p.k) = false ∧ decide ((e.k : Int) < (p.k : Int)) = false := by simp; omega
                have HPK := Lib.hid p1
                clear hgQ hboxq hxb hb10 hpk hpm n1 n2 n3 p1 hbp
                go_upto_region 27 with fail
                obtain ⟨hgQ, hboxq, hb10, hbp10, n2, n3⟩ := HX.out
                rw [← hgQ] at hboxq ⊢
                clear HX hp0 hp1 hp2 hgQ
                generalize wr.alloc (.cells #[.slice p.a p.n p.c, .string ⟨#[]⟩, .int .i64 p.k] 29) = w10 at *
                have bP := HB9.out.below hb10
                have hbe10 := hbe9.keep hb10
                have hz10 := hz9.keep hb10
                have lP := bP.lt
                have lQ := hboxq.lt
                have rP : ∀ w', Below w10.heap.size w10 w' → ∀ i, w'.cell? ⟨gP, i, none⟩ = #[Value.slice e.a e.n e.c, .string ⟨#[]⟩, .int .i64 e.k][i]? := fun w' h i => (h.cell (p := ⟨gP, i, none⟩) lP).trans (bP.cell i)
                have rQ : ∀ w', Below w10.heap.size w10 w' → ∀ i, w'.cell? ⟨gQ, i, none⟩ = #[Value.slice p.a p.n p.c, .string ⟨#[]⟩, .int .i64 p.k][i]? := fun w' h i => (h.cell (p := ⟨gQ, i, none⟩) lQ).trans (hboxq.cell i)
                have hdr : Below w10.heap.size w10 w10.drew := ⟨rfl, rfl, rfl, Nat.le_refl _, fun _ _ => rfl⟩
                have k2 : ∀ w' g c, Below w10.heap.size w10 w' → RB w' (some ⟨g, 0, none⟩) e.n (wb e.bs e.k false) → Calls Tryd.prog 21 #[.agg #[.slice p.a p.n p.c, .string ⟨#[]⟩, .int .i64 p.k], .slice (some ⟨g, 0, none⟩) e.n c] w' fun e w'' => e = .returned (.bool true) ∧ Below w'.heap.size w' w'' := fun w' g c h hr => by
                  have := contains_c p.a (some ⟨g, 0, none⟩) p.n e.n p.c c p.bs (wb e.bs e.k false) p.k z w' (hz10.keep h) (hbp10.keep h) hr (by simp) (by omega) hvp.1 hvp.2
                  rw [n2] at this
                  exact this
                have k3 : ∀ w' g c, Below w10.heap.size w10 w' → RB w' (some ⟨g, 0, none⟩) e.n (wb e.bs e.k true) → Calls Tryd.prog 21 #[.agg #[.slice p.a p.n p.c, .string ⟨#[]⟩, .int .i64 p.k], .slice (some ⟨g, 0, none⟩) e.n c] w' fun e w'' => e = .returned (.bool true) ∧ Below w'.heap.size w' w'' := fun w' g c h hr => by
                  have := contains_c p.a (some ⟨g, 0, none⟩) p.n e.n p.c c p.bs (wb e.bs e.k true) p.k z w' (hz10.keep h) (hbp10.keep h) hr (by simp) (by omega) hvp.1 hvp.2
                  rw [n3] at this
                  exact this
                clear lP lQ n2 n3
                refine region_pick (Below w10.heap.size w10) [(0, false, none), (1, false, none), (2, false, none), (3, false, none), (4, false, none), (5, false, none), (6, false, none), (7, false, none), (8, true, none), (9, false, none), (10, false, none), (11, false, none), (12, false, none), (13, false, none), (14, false, none), (15, true, none), (16, false, none), (17, false, none), (18, false, none)] 19 (by kernel_rfl) (by kernel_rfl) (fun w w' h hb => h.trans (hb.mono h.size)) (hdr) ?_
                simp only [pickOps, List.getElem?_cons_zero, List.getElem?_cons_succ]
                repeat (first | (refine t_skip rfl ?_; (simp only [Act.put, List.setIfInBounds_toArray, List.set_cons_zero, List.set_cons_succ])) | (refine t_run ?_ rfl (fun w1 hw1 => ?_) ?_; rotate_left; (have r0 := rP w1 hw1; have r1 := rQ w1 hw1; have r2 := HPK.out.1; have r3 := HPK.out.2; go_simp; try (with_reducible rfl)); (simp only [Act.put, List.setIfInBounds_toArray, List.set_cons_zero, List.set_cons_succ])))
                refine t_fresh ?_ ?_ (fun v w' => OwnB 0 e.n (wb e.bs e.k false) v w') (by rfl) (fun w1 hw1 => ?_) (fun v w w' h hb => h.keep hb) (fun w1 hw1 => ?_) ?_
                rotate_left 2
                (go_simp; refine ⟨?_, ?_⟩ <;> with_reducible rfl)
                (go_at_call 22; (with_reducible refine (firstOf_c e.a e.n e.c e.bs e.k w1 (hbe10.keep hw1) hn16.2 hke).mono ?_); rintro e w2 ⟨v, rfl, ⟨g9, c9, rfl, hown9⟩, hb9⟩; exact ⟨_, rfl, ⟨g9, c9, rfl, own_mono hown9 (Nat.zero_le _)⟩, hb9⟩)
                rintro v8 ⟨-, -, g9, c9, rfl, -⟩
                (simp only [Act.put, List.setIfInBounds_toArray, List.set_cons_zero, List.set_cons_succ])
                repeat (first | (refine t_skip rfl ?_; (simp only [Act.put, List.setIfInBounds_toArray, List.set_cons_zero, List.set_cons_succ])) | (refine t_run ?_ rfl (fun w1 hw1 => ?_) ?_; rotate_left; (have r0 := rP w1 hw1.1; have r1 := rQ w1 hw1.1; go_simp; try (with_reducible rfl)); (simp only [Act.put, List.setIfInBounds_toArray, List.set_cons_zero, List.set_cons_succ])) | (refine t_call ?_ ?_ ?_ rfl (fun w1 hw1 => ?_) (fun w1 hw1 => ?_) ?_; rotate_left 3; (have r0 := rP w1 hw1.1; have r1 := rQ w1 hw1.1; go_simp; refine ⟨?_, ?_⟩ <;> with_reducible rfl); (first | (go_at_call 21; (with_reducible refine (k2 w1 g9 c9 hw1.1 (RB.of_own hw1.2.own)).mono ?_); rintro e w2 ⟨rfl, hb⟩; refine ⟨?_, hb⟩; with_reducible rfl) | (go_at_call 21; (refine (k2 w1 g9 c9 hw1.1 (RB.of_own hw1.2.own)).mono ?_); rintro e w2 ⟨rfl, hb⟩; refine ⟨?_, hb⟩; with_reducible rfl)); (simp only [Act.put, List.setIfInBounds_toArray, List.set_cons_zero, List.set_cons_succ])))
                refine t_fresh ?_ ?_ (fun v w' => OwnB 0 e.n (wb e.bs e.k true) v w') (by rfl) (fun w1 hw1 => ?_) (fun v w w' h hb => h.keep hb) (fun w1 hw1 => ?_) ?_
                rotate_left 2
                (go_simp; refine ⟨?_, ?_⟩ <;> with_reducible rfl)
                (go_at_call 30; (with_reducible refine (lastOf_c e.a e.n e.c e.bs e.k w1 (hbe10.keep hw1.1) hn16.2 hke).mono ?_); rintro e w2 ⟨v, rfl, ⟨g9, c9, rfl, hown9⟩, hb9⟩; exact ⟨_, rfl, ⟨g9, c9, rfl, own_mono hown9 (Nat.zero_le _)⟩, hb9⟩)
                rintro v9 ⟨-, -, g10, c10, rfl, -⟩
                (simp only [Act.put, List.setIfInBounds_toArray, List.set_cons_zero, List.set_cons_succ])
                repeat (first | (refine t_skip rfl ?_; (simp only [Act.put, List.setIfInBounds_toArray, List.set_cons_zero, List.set_cons_succ])) | (refine t_run ?_ rfl (fun w1 hw1 => ?_) ?_; rotate_left; (have r0 := rP w1 hw1.1.1; have r1 := rQ w1 hw1.1.1; go_simp; try (with_reducible rfl)); (simp only [Act.put, List.setIfInBounds_toArray, List.set_cons_zero, List.set_cons_succ])) | (refine t_call ?_ ?_ ?_ rfl (fun w1 hw1 => ?_) (fun w1 hw1 => ?_) ?_; rotate_left 3; (have r0 := rP w1 hw1.1.1; have r1 := rQ w1 hw1.1.1; go_simp; refine ⟨?_, ?_⟩ <;> with_reducible rfl); (first | (go_at_call 21; (with_reducible refine (k3 w1 g10 c10 hw1.1.1 (RB.of_own hw1.2.own)).mono ?_); rintro e w2 ⟨rfl, hb⟩; refine ⟨?_, hb⟩; with_reducible rfl) | (go_at_call 21; (refine (k3 w1 g10 c10 hw1.1.1 (RB.of_own hw1.2.own)).mono ?_); rintro e w2 ⟨rfl, hb⟩; refine ⟨?_, hb⟩; with_reducible rfl)); (simp only [Act.put, List.setIfInBounds_toArray, List.set_cons_zero, List.set_cons_succ])))
                intro w11 ⟨⟨hw11, _⟩, _⟩
                simp only [List.drop_succ_cons, List.drop_zero]
                have hb11 := hb10.trans (hw11.mono hb10.size)
                clear rP rQ k2 k3 hdr
                go_wp2
                go_roundw
                case rel => exact ⟨u + 1, by omega, by go_num, hb11⟩
                case measure => simp [intOf]; omega
              · obtain rfl : u = t := by omega
                have hb7u := hb79.trans (hbu.mono hb79.size)
                go_wp2
                go_roundw
                case rel => exact ⟨u + 1, by omega, by go_num, hb7u⟩
                case measure => simp [intOf]; omega
          · obtain rfl : t = L := by omega
            have hbw9 := hbw7.trans (hbt.mono hbw7.size)
            go_wp2
            go_returns
            exact ⟨rfl, hbw9⟩
  · rw [show (rn == 4 || rn == 16) = false by simpa using hla]
    go_wp2_with fail
    go_returns
    exact ⟨rfl, hba⟩
end Go.Proofs.YtckfgdohpmllmaaDoor
