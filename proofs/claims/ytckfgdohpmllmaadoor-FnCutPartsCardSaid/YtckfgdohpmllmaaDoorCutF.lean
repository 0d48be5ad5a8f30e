/-
  The walk of laws.FnCutParts.
-/
import Derived.Test.YtckfgdohpmllmaaDoorCutP
import Derived.Test.YtckfgdohpmllmaaDoorOvL
import Derived.Test.YtckfgdohpmllmaaDoorHowMany
namespace Go.Proofs.YtckfgdohpmllmaaDoor
open Go Go.RowKit
theorem boolCells_at (l : List Bool) (t : Nat) (b : Bool) (h : l[t]? = some b) : (boolCells l)[t]? = some (.bool b) := by unfold boolCells; rw [List.getElem?_map, h]; rfl
theorem ovs_at (p : List UInt8) (k : Nat) (es : List Pf) (t : Nat) (f : Pf) (h : es[t]? = some f) : (ovs p k (es.map Pf.is))[t]? = some (ovP p k f.bs f.k) := by
  unfold ovs; rw [List.getElem?_map, List.getElem?_map, h]; rfl
set_option maxRecDepth 100000 in
set_option maxHeartbeats 16000000 in
theorem cutF_walk (A : Option Addr) (n c : Nat) (bs : List UInt8) (x : UInt8) (T : Option Addr) (tn tc : Nat) (ts : List UInt8) (R : Option Addr) (rn rc : Nat) (rs : List UInt8) (z : ZP) (w : World) (hz : Zs w z)
    (hr : RB w A n bs) (hA : A = none → n = 0 ∧ c = 0) (hn : n ≤ 140737488355328) (ht : RB w T tn ts) (htn : tn ≤ 140737488355328) (hp : RB w R rn rs) (hR : R = none → rn = 0 ∧ rc = 0) (hrn : rn ≤ 140737488355328) :
    Calls Tryd.prog 7 #[.slice A n c, .int .u8 x.toNat, .slice T tn tc, .slice R rn rc] w (TrueW w) := by
  go_enter Tryd.func7, Tryd.ntmps7
  go_wp2_with fail
  refine (cutParts_c A n c bs x T tn tc ts w hr hA hn ht htn).mono ?_
  rintro e0 w1 ⟨A1, c1, es, rfl, hown, hin, hci, hno, hb1⟩
  obtain ⟨m1, m2, m3⟩ := one_made A n c bs x (hr.keep hb1) hA hn
  have hmz := madeZ_one A n c bs x
  go_wp2_with fail
  refine (made_c _ 1 _ _ _ 1 _ [x] _ m1 (by omega) m2 (by omega)).mono ?_
  rintro e0 w2 ⟨v2, rfl, ⟨A2, c2, fs, rfl, hown2, hmap, hin2⟩, hb2'⟩
  have hb12 := m3.trans (hb2'.mono m3.size)
  have hb2 := hb1.trans (hb12.mono hb1.size)
  rw [hmz] at hmap
  clear hb2' hmz m1 m2
  by_cases hl : isLen bs.length
  · rw [if_pos hl] at hmap
    obtain ⟨e, rfl⟩ : ∃ e, fs = [e] := List.length_eq_one_iff.1 (by have := congrArg List.length hmap; simpa using this)
    simp only [List.map_cons, List.map_nil, List.cons.injEq, and_true] at hmap
    have hC := hci hl
    have hrp := (RP.of_own hown rfl hin).keep hb12
    have hO := own_below hown2 (Below.refl _ _)
    have hE := hin2 e (List.mem_singleton.2 rfl)
    obtain ⟨pa, pn, pc, pb, k0⟩ := e
    obtain rfl : pb = bs := congrArg Prod.fst hmap
    have hk0 : k0 = x.toNat % (8 * pb.length + 1) := congrArg Prod.snd hmap
    rw [← hk0] at hC
    have hkl : k0 ≤ 8 * pb.length := by have := Nat.mod_lt x.toNat (show 0 < 8 * pb.length + 1 by omega); omega
    simp only at hE
    have hrE := RB.of_own hE
    obtain rfl : pn = pb.length := hrE.1.symm
    obtain ⟨g2, hA2, hg2, hc2⟩ := own_some hO (by simp)
    subst hA2
    have q0 := hc2 0 _ rfl
    have q1 := hc2 1 _ rfl
    have q2 := hc2 2 _ rfl
    simp only at q0 q2
    have hv : ∀ y ∈ es, Vp y.is := fun y hy => by
      obtain ⟨l1, -, -, l4⟩ := hC.ln y hy
      exact ⟨by show isLen y.bs.length; rw [l1]; exact hl, by show y.k ≤ 8 * y.bs.length; rw [l1]; exact l4⟩
    have hpos := hC.some
    have hsm := hC.small hl
    have hz2 := hz.keep hb2
    have hp2 := hp.keep hb2
    obtain ⟨L, hL⟩ : ∃ L, L = es.length := ⟨_, rfl⟩
    rw [← hL] at hrp hpos hsm ⊢
    have HC := Lib.hid (And.intro hC (And.intro hv hL))
    obtain ⟨g1, o1, hA1, -⟩ := hrp.2.1 (by rw [pfCells_len, hrp.1]; omega)
    subst hA1
    clear hown hin hci hno hmap hown2 hin2 hO hE hc2 hC hv hL hk0 hb12
    have hxa : Below w2.heap.size w2 (w2.alloc (.cells #[.slice pa pb.length pc, .string ⟨#[]⟩, .int .i64 k0] 29)) := (Below.refl _ _).alloc (Nat.le_refl _) _
    have hbox : Blk (w2.alloc (.cells #[.slice pa pb.length pc, .string ⟨#[]⟩, .int .i64 k0] 29)) w2.heap.size 29 #[.slice pa pb.length pc, .string ⟨#[]⟩, .int .i64 k0] := heap_alloc_new _ _
    obtain ⟨gP, hgP⟩ : ∃ gP, gP = w2.heap.size := ⟨_, rfl⟩
    have HX := Lib.hid (And.intro hgP (And.intro hbox (And.intro (hrp.keep hxa) (And.intro (hrE.keep hxa) (And.intro (hz2.keep hxa) (And.intro (hp2.keep hxa) (hb2.trans (hxa.mono hb2.size))))))))
    clear hgP hbox hxa hrp hrE hz2 hp2 hb2
    go_wp2_with fail
    obtain ⟨hgP, hbox, hrp, hrE, hz3, hp3, hb3⟩ := HX.out
    rw [← hgP] at hbox ⊢
    clear HX q0 q1 q2 hgP
    generalize w2.alloc (.cells #[.slice pa pb.length pc, .string ⟨#[]⟩, .int .i64 k0] 29) = w3 at *
    have hL0 : ((L : Int) == 0) = false := by simp; omega
    rw [hL0]
    clear hL0
    go_loopw [42] (fun i wr => ∃ (j : Nat), j ≤ L ∧ i = .int .i64 j ∧ Below w3.heap.size w3 wr) (fun i _ => L - (intOf i).toNat)
    case atStart => exact ⟨0, Nat.zero_le _, rfl, Below.refl _ _⟩
    case round =>
      obtain ⟨j, hj, rfl, hbb⟩ := hrel
      by_cases hlt : j < L
      · obtain ⟨g', o', e, hA', hg, hek, hc0, hc1, hc2, hbe⟩ := (hrp.keep hbb).at hlt
        injection hA' with hA'
        injection hA' with hA1 hA2
        subst hA1 hA2
        have hem := List.mem_of_getElem? hek
        have hve := HC.out.2.1 e hem
        have hn16 : e.n ≤ 16 ∧ isLen e.n := by rw [← hbe.1]; have := hve.1; unfold isLen at *; simp only [Pf.is] at this; omega
        have hke : e.k ≤ 8 * e.n := by rw [← hbe.1]; exact hve.2
        have i1 := HC.out.1.whole hek (inP_first _ _)
        have i2 := HC.out.1.whole hek (inP_last _ _)
        have i3 := HC.out.1.over hek
        have hxa : Below wr.heap.size wr (wr.alloc (.cells #[.slice e.a e.n e.c, .string ⟨#[]⟩, .int .i64 e.k] 29)) := (Below.refl _ _).alloc (Nat.le_refl _) _
        have hboxq : Blk (wr.alloc (.cells #[.slice e.a e.n e.c, .string ⟨#[]⟩, .int .i64 e.k] 29)) wr.heap.size 29 #[.slice e.a e.n e.c, .string ⟨#[]⟩, .int .i64 e.k] := heap_alloc_new _ _
        obtain ⟨gQ, hgQ⟩ : ∃ gQ, gQ = wr.heap.size := ⟨_, rfl⟩
        have hb5 := hbb.trans (hxa.mono hbb.size)
        have HX := Lib.hid (And.intro hgQ (And.intro hboxq (And.intro hb5 (hbe.keep hxa))))
        have HE := Lib.hid (And.intro hek (And.intro i1 (And.intro i2 i3)))
        clear hgQ hboxq hb5 hek hem hxa i1 i2 i3
        go_wp2_with fail
        obtain ⟨hgQ, hboxq, hb5, hbe5⟩ := HX.out
        rw [← hgQ] at hboxq ⊢
        clear HX hc0 hc1 hc2 hgQ hbe
        generalize wr.alloc (.cells #[.slice e.a e.n e.c, .string ⟨#[]⟩, .int .i64 e.k] 29) = w5 at *
        refine (ovEach_c e.a e.n e.c e.bs e.k _ L _ es z w5 (hz3.keep hb5) hbe5 hve.1 hve.2 (hrp.keep hb5) HC.out.2.1 (by omega)).mono ?_
        rintro e1 w6 ⟨A6, c6, rfl, hown6, hb6⟩
        obtain ⟨g6, hA6, hg6, hc6⟩ := own_some hown6 (by omega)
        subst hA6
        have HC6 := Lib.hid hc6
        have hb36 := hb5.trans (hb6.mono hb5.size)
        have hq6 := hboxq.below hb6
        have hbe6 := hbe5.keep hb6
        have HQ6 := Lib.hid (And.intro hq6 hbe6)
        clear hown6 hc6 hboxq hbe5 hb6 hb5 hq6 hbe6
        obtain ⟨wo, hwo⟩ : ∃ wo, wo = wr := ⟨_, rfl⟩
        subst hwo
        go_wp2_with fail
        go_loopw [51] (fun i wr2 => ∃ (t : Nat), t ≤ L ∧ i = .int .i64 t ∧ Below w6.heap.size w6 wr2) (fun i _ => L - (intOf i).toNat)
        case atStart => exact ⟨0, Nat.zero_le _, rfl, Below.refl _ _⟩
        case round =>
          obtain ⟨t, ht', rfl, hbt⟩ := hrel
          by_cases htl : t < L
          · obtain ⟨f, hft⟩ : ∃ f, es[t]? = some f := ⟨es[t]'(by rw [← HC.out.2.2]; exact htl), List.getElem?_eq_getElem _⟩
            have hcx := (hbt.cell (p := ⟨g6, t, none⟩) hg6).trans (HC6.out t _ (boolCells_at _ t _ (ovs_at _ _ es t f hft)))
            rw [HC.out.1.apart HE.out.1 hft] at hcx
            clear hft
            by_cases hjt : j = t
            · subst hjt
              rw [show decide (j = j) = true by simp] at hcx
              go_wp2
              go_roundw
              case rel => exact ⟨j + 1, by omega, by go_num, hbt⟩
              case measure => simp [intOf]; omega
            · rw [show decide (j = t) = false by simpa using hjt] at hcx
              have hjt2 : ((j : Int) == t) = false := by simp; omega
              have hjt3 : (j == t) = false := by simpa using hjt
              go_wp2
              go_roundw
              case rel => exact ⟨t + 1, by omega, by go_num, hbt⟩
              case measure => simp [intOf]; omega
          · obtain rfl : t = L := by omega
            have hW := hb36.trans (hbt.mono hb36.size)
            have bP := hbox.below hW
            have bQ := HQ6.out.1.below hbt
            have hrq := HQ6.out.2.keep hbt
            have hrp7 := hrE.keep hW
            have hz7 := hz3.keep hW
            have lP := bP.lt
            have lQ := bQ.lt
            have rP : ∀ w', Below wr.heap.size wr w' → ∀ i, w'.cell? ⟨gP, i, none⟩ = #[Value.slice pa pb.length pc, .string ⟨#[]⟩, .int .i64 k0][i]? := fun w' h i => (h.cell (p := ⟨gP, i, none⟩) lP).trans (bP.cell i)
            have rQ : ∀ w', Below wr.heap.size wr w' → ∀ i, w'.cell? ⟨gQ, i, none⟩ = #[Value.slice e.a e.n e.c, .string ⟨#[]⟩, .int .i64 e.k][i]? := fun w' h i => (h.cell (p := ⟨gQ, i, none⟩) lQ).trans (bQ.cell i)
            have hdr : Below wr.heap.size wr wr.drew := ⟨rfl, rfl, rfl, Nat.le_refl _, fun _ _ => rfl⟩
            have k1 : ∀ w', Below wr.heap.size wr w' → Calls Tryd.prog 29 #[.agg #[.slice pa pb.length pc, .string ⟨#[]⟩, .int .i64 k0], .agg #[.slice e.a e.n e.c, .string ⟨#[]⟩, .int .i64 e.k]] w' fun e w'' => e = .returned (.bool true) ∧ Below w'.heap.size w' w'' := fun w' h => by
              have := overlaps_c pa e.a pb.length e.n pc e.c pb e.bs k0 e.k z w' (hz7.keep h) (hrp7.keep h) (hrq.keep h) hl hkl hve.1 hve.2
              rw [HE.out.2.2.2] at this
              exact this
            have k2 : ∀ w' g c, Below wr.heap.size wr w' → RB w' (some ⟨g, 0, none⟩) e.n (wb e.bs e.k false) → Calls Tryd.prog 21 #[.agg #[.slice pa pb.length pc, .string ⟨#[]⟩, .int .i64 k0], .slice (some ⟨g, 0, none⟩) e.n c] w' fun e w'' => e = .returned (.bool true) ∧ Below w'.heap.size w' w'' := fun w' g c h hr => by
              have := contains_c pa (some ⟨g, 0, none⟩) pb.length e.n pc c pb (wb e.bs e.k false) k0 z w' (hz7.keep h) (hrp7.keep h) hr (by simp) (by omega) hl hkl
              rw [HE.out.2.1] at this
              exact this
            have k3 : ∀ w' g c, Below wr.heap.size wr w' → RB w' (some ⟨g, 0, none⟩) e.n (wb e.bs e.k true) → Calls Tryd.prog 21 #[.agg #[.slice pa pb.length pc, .string ⟨#[]⟩, .int .i64 k0], .slice (some ⟨g, 0, none⟩) e.n c] w' fun e w'' => e = .returned (.bool true) ∧ Below w'.heap.size w' w'' := fun w' g c h hr => by
              have := contains_c pa (some ⟨g, 0, none⟩) pb.length e.n pc c pb (wb e.bs e.k true) k0 z w' (hz7.keep h) (hrp7.keep h) hr (by simp) (by omega) hl hkl
              rw [HE.out.2.2.1] at this
              exact this
            clear lP lQ
            go_wp2_with fail
            refine region_pick (Below wr.heap.size wr) [(0, false, none), (1, false, none), (2, false, none), (3, false, none), (4, false, none), (5, false, none), (6, false, none), (7, true, none), (8, false, none), (9, false, none), (10, false, none), (11, false, none), (12, false, none), (13, false, none), (14, true, none), (15, false, none), (16, false, none), (17, false, none)] 18 (by kernel_rfl) (by kernel_rfl) (fun w w' h hb => h.trans (hb.mono h.size)) (hdr) ?_
            simp only [pickOps, List.getElem?_cons_zero, List.getElem?_cons_succ]
            repeat (first | (refine t_skip rfl ?_; (simp only [Act.put, List.setIfInBounds_toArray, List.set_cons_zero, List.set_cons_succ])) | (refine t_run ?_ rfl (fun w1 hw1 => ?_) ?_; rotate_left; (have r0 := rP w1 hw1; have r1 := rQ w1 hw1; go_simp; try (with_reducible rfl)); (simp only [Act.put, List.setIfInBounds_toArray, List.set_cons_zero, List.set_cons_succ])) | (refine t_call ?_ ?_ ?_ rfl (fun w1 hw1 => ?_) (fun w1 hw1 => ?_) ?_; rotate_left 3; (have r0 := rP w1 hw1; have r1 := rQ w1 hw1; go_simp; refine ⟨?_, ?_⟩ <;> with_reducible rfl); (first | (go_at_call 29; (with_reducible refine (k1 w1 hw1).mono ?_); rintro e w2 ⟨rfl, hb⟩; refine ⟨?_, hb⟩; with_reducible rfl) | (go_at_call 29; (refine (k1 w1 hw1).mono ?_); rintro e w2 ⟨rfl, hb⟩; refine ⟨?_, hb⟩; with_reducible rfl)); (simp only [Act.put, List.setIfInBounds_toArray, List.set_cons_zero, List.set_cons_succ])))
            refine t_fresh ?_ ?_ (fun v w' => OwnB 0 e.n (wb e.bs e.k false) v w') (by rfl) (fun w1 hw1 => ?_) (fun v w w' h hb => h.keep hb) (fun w1 hw1 => ?_) ?_
            rotate_left 2
            (go_simp; refine ⟨?_, ?_⟩ <;> with_reducible rfl)
            (go_at_call 22; (with_reducible refine (firstOf_c e.a e.n e.c e.bs e.k w1 (hrq.keep hw1) hn16.2 hke).mono ?_); rintro e w2 ⟨v, rfl, ⟨g9, c9, rfl, hown9⟩, hb9⟩; exact ⟨_, rfl, ⟨g9, c9, rfl, own_mono hown9 (Nat.zero_le _)⟩, hb9⟩)
            rintro v8 ⟨-, -, g9, c9, rfl, -⟩
            (simp only [Act.put, List.setIfInBounds_toArray, List.set_cons_zero, List.set_cons_succ])
            repeat (first | (refine t_skip rfl ?_; (simp only [Act.put, List.setIfInBounds_toArray, List.set_cons_zero, List.set_cons_succ])) | (refine t_run ?_ rfl (fun w1 hw1 => ?_) ?_; rotate_left; (have r0 := rP w1 hw1.1; have r1 := rQ w1 hw1.1; go_simp; try (with_reducible rfl)); (simp only [Act.put, List.setIfInBounds_toArray, List.set_cons_zero, List.set_cons_succ])) | (refine t_call ?_ ?_ ?_ rfl (fun w1 hw1 => ?_) (fun w1 hw1 => ?_) ?_; rotate_left 3; (have r0 := rP w1 hw1.1; have r1 := rQ w1 hw1.1; go_simp; refine ⟨?_, ?_⟩ <;> with_reducible rfl); (first | (go_at_call 21; (with_reducible refine (k2 w1 g9 c9 hw1.1 (RB.of_own hw1.2.own)).mono ?_); rintro e w2 ⟨rfl, hb⟩; refine ⟨?_, hb⟩; with_reducible rfl) | (go_at_call 21; (refine (k2 w1 g9 c9 hw1.1 (RB.of_own hw1.2.own)).mono ?_); rintro e w2 ⟨rfl, hb⟩; refine ⟨?_, hb⟩; with_reducible rfl)); (simp only [Act.put, List.setIfInBounds_toArray, List.set_cons_zero, List.set_cons_succ])))
            refine t_fresh ?_ ?_ (fun v w' => OwnB 0 e.n (wb e.bs e.k true) v w') (by rfl) (fun w1 hw1 => ?_) (fun v w w' h hb => h.keep hb) (fun w1 hw1 => ?_) ?_
            rotate_left 2
            (go_simp; refine ⟨?_, ?_⟩ <;> with_reducible rfl)
            (go_at_call 30; (with_reducible refine (lastOf_c e.a e.n e.c e.bs e.k w1 (hrq.keep hw1.1) hn16.2 hke).mono ?_); rintro e w2 ⟨v, rfl, ⟨g9, c9, rfl, hown9⟩, hb9⟩; exact ⟨_, rfl, ⟨g9, c9, rfl, own_mono hown9 (Nat.zero_le _)⟩, hb9⟩)
            rintro v9 ⟨-, -, g10, c10, rfl, -⟩
            (simp only [Act.put, List.setIfInBounds_toArray, List.set_cons_zero, List.set_cons_succ])
            repeat (first | (refine t_skip rfl ?_; (simp only [Act.put, List.setIfInBounds_toArray, List.set_cons_zero, List.set_cons_succ])) | (refine t_run ?_ rfl (fun w1 hw1 => ?_) ?_; rotate_left; (have r0 := rP w1 hw1.1.1; have r1 := rQ w1 hw1.1.1; go_simp; try (with_reducible rfl)); (simp only [Act.put, List.setIfInBounds_toArray, List.set_cons_zero, List.set_cons_succ])) | (refine t_call ?_ ?_ ?_ rfl (fun w1 hw1 => ?_) (fun w1 hw1 => ?_) ?_; rotate_left 3; (have r0 := rP w1 hw1.1.1; have r1 := rQ w1 hw1.1.1; go_simp; refine ⟨?_, ?_⟩ <;> with_reducible rfl); (first | (go_at_call 21; (with_reducible refine (k3 w1 g10 c10 hw1.1.1 (RB.of_own hw1.2.own)).mono ?_); rintro e w2 ⟨rfl, hb⟩; refine ⟨?_, hb⟩; with_reducible rfl) | (go_at_call 21; (refine (k3 w1 g10 c10 hw1.1.1 (RB.of_own hw1.2.own)).mono ?_); rintro e w2 ⟨rfl, hb⟩; refine ⟨?_, hb⟩; with_reducible rfl)); (simp only [Act.put, List.setIfInBounds_toArray, List.set_cons_zero, List.set_cons_succ])))
            intro w11 ⟨⟨hw11, _⟩, _⟩
            simp only [List.drop_succ_cons, List.drop_zero]
            have hW11 := hW.trans (hw11.mono hW.size)
            clear rP rQ k1 k2 k3 hdr
            go_wp2
            go_roundw
            case rel => exact ⟨j + 1, by omega, by go_num, hW11⟩
            case measure => simp [intOf]; omega
      · obtain rfl : j = L := by omega
        have bP := (hbox.below hbb).cell
        have hrE7 := hrE.keep hbb
        have hz7 := hz3.keep hbb
        have hp7 := hp3.keep hbb
        have hsum := HC.out.1.sum rs
        have HSUM := Lib.hid hsum
        clear hsum
        go_wp2_with fail
        refine (contains_c pa R pb.length rn pc rc pb rs k0 z wr hz7 hrE7 hp7 hR hrn hl hkl).mono ?_
        rintro e1 w6 ⟨rfl, hb6⟩
        have hb36 := hbb.trans (hb6.mono hbb.size)
        have hrp6 := hrp.keep hb36
        have hz6 := hz3.keep hb36
        have hp6 := hp3.keep hb36
        clear bP hrE7 hz7 hp7 hb6
        have hhm := fun A c => howMany_c A R j rn c rc es rs z w6
        rw [HSUM.out] at hhm
        generalize inP pb k0 rs = b at *
        cases b
        · go_wp2_with fail
          refine (hhm _ _ hz6 hrp6 HC.out.2.1 (by omega) hp6 hR hrn).mono ?_
          rintro e1 w7 ⟨rfl, hb7⟩
          have hb37 := hb36.trans (hb7.mono hb36.size)
          have hbw := hb3.trans (hb37.mono hb3.size)
          clear hhm
          go_wp2
          go_returns
          exact ⟨rfl, hbw⟩
        · go_wp2_with fail
          refine (hhm _ _ hz6 hrp6 HC.out.2.1 (by omega) hp6 hR hrn).mono ?_
          rintro e1 w7 ⟨rfl, hb7⟩
          have hb37 := hb36.trans (hb7.mono hb36.size)
          have hbw := hb3.trans (hb37.mono hb3.size)
          clear hhm
          go_wp2
          go_returns
          exact ⟨rfl, hbw⟩
  · rw [if_neg hl] at hmap
    obtain rfl : fs = [] := List.map_eq_nil_iff.1 hmap
    obtain rfl := hno hl
    clear hown hown2 hin hin2 hci hmap
    go_wp2_with fail
    go_returns
    exact ⟨rfl, hb2⟩
end Go.Proofs.YtckfgdohpmllmaaDoor
