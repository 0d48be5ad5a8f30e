/-
  The walk of laws.FnGateOfNeighbours.
-/
import Derived.Test.YtocckokbdacdfaaDoorBetw
import Derived.Test.YtocckokbdacdfaaDoorRegion4
import Derived.Test.YtocckokbdacdfaaDoorCounted
namespace Go.Proofs.YtocckokbdacdfaaDoor
open Go Go.RowKit
/-- An address of the call's own, as a value. -/
def FreshA (B n : Nat) (bs : List UInt8) (v : Value) (w : World) : Prop := ∃ A c, v = .agg #[.slice A n c, .string ⟨#[]⟩] ∧ w.ownsRow B 5 1 (.slice A n c) n (Lib.byteCells bs)
theorem FreshA.keep {B n : Nat} {bs : List UInt8} {v : Value} {w w' : World} (h : FreshA B n bs v w) (hb : Below w.heap.size w w') : FreshA B n bs v w' := by
  obtain ⟨A, c, h1, h2⟩ := h
  exact ⟨A, c, h1, own_below h2 hb⟩
theorem FreshA.own {B n : Nat} {bs : List UInt8} {A : Option Addr} {c : Nat} {w : World} (h : FreshA B n bs (.agg #[.slice A n c, .string ⟨#[]⟩]) w) : w.ownsRow B 5 1 (.slice A n c) n (Lib.byteCells bs) := by
  obtain ⟨A', c', h1, h2⟩ := h
  injection h1 with h1
  simp only [Array.mk.injEq, List.cons.injEq, Value.slice.injEq, and_true] at h1
  obtain ⟨rfl, -, rfl⟩ := h1
  exact h2
/-- A block of the call's own for an address with a port. -/
def RoomP (B : Nat) (v : Value) (w : World) : Prop := ∃ g cs, v = .pointer (some ⟨g, 0, none⟩) ∧ B ≤ g ∧ cs.size = 3 ∧ Blk w g 39 cs
theorem RoomP.keep {B : Nat} {v : Value} {w w' : World} (h : RoomP B v w) (hb : Below w.heap.size w w') : RoomP B v w' := by
  obtain ⟨g, cs, h1, h2, h3, h4⟩ := h
  exact ⟨g, cs, h1, h2, h3, h4.below hb⟩
theorem RoomP.new (w : World) (B : Nat) (cs : Array Value) (hB : B ≤ w.heap.size) (hs : cs.size = 3) : RoomP B (.pointer (some ⟨w.heap.size, 0, none⟩)) (w.alloc (.cells cs 39)) := ⟨_, _, rfl, hB, hs, heap_alloc_new _ _⟩
theorem RoomP.out {B g : Nat} {w : World} (h : RoomP B (.pointer (some ⟨g, 0, none⟩)) w) : ∃ a b c, B ≤ g ∧ Blk w g 39 #[a, b, c] := by
  obtain ⟨g', cs, h1, h2, h3, h4⟩ := h
  injection h1 with h1
  injection h1 with h1
  injection h1 with h1
  subst h1
  obtain ⟨l⟩ := cs
  match l, h3 with
  | [a, b, c], _ => exact ⟨a, b, c, h2, h4⟩
theorem RoomP.lt {B g : Nat} {w : World} (h : RoomP B (.pointer (some ⟨g, 0, none⟩)) w) : g < w.heap.size := by
  obtain ⟨a, b, c, -, h4⟩ := h.out
  exact h4.lt
theorem Blk.other {w : World} {g : Nat} {t : TypeId} {cs : Array Value} (h : Blk w g t cs) {g' : Nat} (hne : g ≠ g') (i : Nat) (u : Value) : Blk (w.setCell ⟨g', i, none⟩ u) g t cs := by
  unfold Blk
  rw [Below.heap_setCell _ _ _ _ hne]
  exact h
theorem none_between {b q r : List UInt8} {p : Nat} (hb : isLen b.length) (hq : q = onB b 1) (hq0 : q ≠ []) (hp : p < 65536) : ¬ (cmpG b 65535 r p = -1 ∧ cmpG r p q 0 = -1) := by
  rintro ⟨h1, h2⟩
  subst hq
  obtain ⟨-, h4, h5, h6⟩ := on_len b 1 hq0
  have kb := key_len hb
  have kq := key_len (b := onB b 1) (by rw [h5]; exact hb)
  rw [h5, h6] at kq
  rw [(cmpG_cases b r 65535 p).2.1] at h1
  rw [(cmpG_cases r (onB b 1) p 0).2.1] at h2
  omega
theorem next_after {b q : List UInt8} (p x : Int) (hb : isLen b.length) (hq : q = onB b 1) (hq0 : q ≠ []) : cmpG b p q x = -1 := by
  subst hq
  obtain ⟨-, h4, h5, h6⟩ := on_len b 1 hq0
  have kb := key_len hb
  have kq := key_len (b := onB b 1) (by rw [h5]; exact hb)
  rw [h5, h6] at kq
  rw [(cmpG_cases b (onB b 1) p x).2.1]
  omega
set_option maxRecDepth 100000 in
set_option maxHeartbeats 32000000 in
theorem neigh_walk (A : Option Addr) (n c : Nat) (bs : List UInt8) (low high : Int) (F : Option Addr) (fn fc : Nat) (es0 : List En) (X : Option Addr) (xn xc : Nat) (xs : List Int) (z : ZP) (w : World) (hz : Zs w z)
    (hr : RB w A n bs) (hA : A = none → n = 0 ∧ c = 0) (hn : n ≤ 140737488355328) (hf : RS w F fn es0) (hfn : fn ≤ 1048576) (hx : RI w X xn xs) :
    Calls Tryd.prog 10 #[.slice A n c, .int .i64 low, .int .i64 high, .slice F fn fc, .slice X xn xc] w (TrueW w) := by
  go_enter Tryd.func10, Tryd.ntmps10
  go_wp2_with fail
  refine (plain_c A n c bs w hr hA hn).mono ?_
  rintro e0 w0 ⟨A0, c0, rfl, hown0, hb0⟩
  have hr0 := RB.of_own hown0
  go_wp2_with fail
  refine (walkOn_c A0 n c0 bs 1 z w0 (hz.keep hb0) hr0 (by omega)).mono ?_
  rintro e1 w1 ⟨A1, c1, ns, rfl, hown1, hnl, hnm, hnt, hb1⟩
  obtain ⟨q, rfl⟩ : ∃ q, ns = [q] := List.length_eq_one_iff.1 hnl
  have hqb : q.bs = onB bs 1 := by
    have : [q.bs] = walkList nextAd (adOf bs) 1 := hnm
    unfold walkList at this
    simp only [List.range_succ, List.range_zero, List.nil_append, List.map_cons, List.map_nil, List.cons.injEq, and_true] at this
    rw [this]
    exact bytes_on bs 1
  obtain ⟨tq, -, hoq⟩ := hnt q (by simp)
  have hrq := RB.of_own hoq
  obtain ⟨gN, hA1, hgN, hcN⟩ := own_some hown1 (by omega)
  subst hA1
  have n0 := hcN 0 (.slice q.a q.n q.c) rfl
  have n1 := hcN 1 (.string ⟨#[]⟩) rfl
  have hb01 := hb0.trans (hb1.mono hb0.size)
  have HQB := Lib.hid hqb
  clear hown0 hr0 hown1 hnl hnm hnt hoq hcN hb0 hb1 hqb
  go_wp2_with fail
  refine (isAddress_c A n c w1).mono ?_
  rintro e1 w2 ⟨rfl, hb2⟩
  have hb02 := hb01.trans (hb2.mono hb01.size)
  have m0 := (hb2.cell (p := ⟨gN, 0, none⟩) hgN).trans n0
  have m1 := (hb2.cell (p := ⟨gN, 1, none⟩) hgN).trans n1
  have hgN2 := Nat.lt_of_lt_of_le hgN hb2.size
  have hrq2 := hrq.keep hb2
  clear n0 n1 hgN hrq hb01 hb2
  by_cases hla : (n == 4 || n == 16) = true
  · rw [hla]
    have hisl : isLen bs.length := by rw [hr.1]; simpa [isLen] using hla
    clear hla
    by_cases hq0 : q.n = 0
    · have hq1 : ((q.n : Int) == 0) = true := by simp; omega
      go_wp2
      go_returns
      exact ⟨rfl, hb02⟩
    · have hq1 : ((q.n : Int) == 0) = false := by simp; omega
      have hqne : q.bs ≠ [] := fun h => hq0 (by rw [← hrq2.1, h]; rfl)
      have HQN := Lib.hid hqne
      clear hqne
      have hdr : Below w2.heap.size w2 w2.drew := ⟨rfl, rfl, rfl, Nat.le_refl _, fun _ _ => rfl⟩
      have rN : ∀ w', Below w2.heap.size w2 w' → w'.cell? ⟨gN, 0, none⟩ = some (.slice q.a q.n q.c) ∧ w'.cell? ⟨gN, 1, none⟩ = some (.string ⟨#[]⟩) := fun w' hb =>
        ⟨(hb.cell (p := ⟨gN, 0, none⟩) hgN2).trans m0, (hb.cell (p := ⟨gN, 1, none⟩) hgN2).trans m1⟩
      have hp1 := portN_and low
      have hp3 := wrap_u16 _ (portN_lt low)
      have hh1 := portN_and high
      have hh3 := wrap_u16 _ (portN_lt high)
      obtain ⟨P, hP⟩ : ∃ P, P = portN low := ⟨_, rfl⟩
      obtain ⟨Q, hQ⟩ : ∃ Q, Q = portN high := ⟨_, rfl⟩
      rw [← hP] at hp1 hp3
      rw [← hQ] at hh1 hh3
      have HPP := Lib.hid (And.intro hp1 (And.intro hp3 (And.intro hh1 hh3)))
      have hr2 := hr.keep hb02
      have hz2 := hz.keep hb02
      have k1 : ∀ w' A' c', Below w2.heap.size w2 w' → RB w' A' n bs → Calls Tryd.prog 19 #[.agg #[.slice A' n c', .string ⟨#[]⟩, .int .u16 P], .agg #[.slice q.a q.n q.c, .string ⟨#[]⟩, .int .u16 Q]] w' fun e w'' => e = .returned (.int .i64 (-1)) ∧ Below w'.heap.size w' w'' := fun w' A' c' hb hr' => by
        have := gateOrder_c A' q.a n q.n c' q.c bs q.bs P Q z w' (hz2.keep hb) hr' (hrq2.keep hb)
        rw [next_after P Q hisl HQB.out HQN.out] at this
        exact this
      clear hP hQ hp1 hp3 hh1 hh3
      go_wp2_with fail
      refine region_pick (Below w2.heap.size w2) [(0, false, none), (2, false, none), (3, false, none), (4, false, none), (6, false, none), (7, false, none), (8, false, none), (9, false, none), (10, false, none), (11, false, none), (12, false, none), (1, true, none), (5, false, none), (13, false, none), (14, false, none)] 15 (by kernel_rfl) (by kernel_rfl) (fun w w' h hb => h.trans (hb.mono h.size)) (hdr) ?_
      simp only [pickOps, List.getElem?_cons_zero, List.getElem?_cons_succ]
      repeat (first | (refine t_skip rfl ?_; (simp only [Act.put, List.setIfInBounds_toArray, List.set_cons_zero, List.set_cons_succ])) | (refine t_run ?_ rfl (fun w1 hw1 => ?_) ?_; rotate_left; (have r0 := (rN w1 hw1).1; have r1 := (rN w1 hw1).2; have r2 := HPP.out.1; have r3 := HPP.out.2.1; have r4 := HPP.out.2.2.1; have r5 := HPP.out.2.2.2; go_simp; try (with_reducible rfl)); (simp only [Act.put, List.setIfInBounds_toArray, List.set_cons_zero, List.set_cons_succ])))
      refine t_fresh ?_ ?_ (fun v w' => FreshA w2.heap.size n bs v w') (by rfl) (fun w1 hw1 => ?_) (fun v w w' h hb => h.keep hb) (fun w1 hw1 => ?_) ?_
      rotate_left 2
      (go_simp; refine ⟨?_, ?_⟩ <;> with_reducible rfl)
      (go_at_call 15; (with_reducible refine (plain_c A n c bs w1 (hr2.keep hw1) hA hn).mono ?_); rintro e w2 ⟨A9, c9, rfl, hown9, hb9⟩; exact ⟨_, rfl, ⟨A9, c9, rfl, own_mono hown9 hw1.size⟩, hb9⟩)
      rintro v8 ⟨-, -, A9, c9, rfl, -⟩
      (simp only [Act.put, List.setIfInBounds_toArray, List.set_cons_zero, List.set_cons_succ])
      repeat (first | (refine t_skip rfl ?_; (simp only [Act.put, List.setIfInBounds_toArray, List.set_cons_zero, List.set_cons_succ])) | (refine t_run ?_ rfl (fun w1 hw1 => ?_) ?_; rotate_left; (go_simp; try (with_reducible rfl)); (simp only [Act.put, List.setIfInBounds_toArray, List.set_cons_zero, List.set_cons_succ])) | (refine t_call ?_ ?_ ?_ rfl (fun w1 hw1 => ?_) (fun w1 hw1 => ?_) ?_; rotate_left 3; (go_simp; refine ⟨?_, ?_⟩ <;> with_reducible rfl); (first | (go_at_call 19; (with_reducible refine (k1 w1 A9 c9 hw1.1 (RB.of_own hw1.2.own)).mono ?_); rintro e w2 ⟨rfl, hb⟩; refine ⟨?_, hb⟩; with_reducible rfl) | (go_at_call 19; (refine (k1 w1 A9 c9 hw1.1 (RB.of_own hw1.2.own)).mono ?_); rintro e w2 ⟨rfl, hb⟩; refine ⟨?_, hb⟩; with_reducible rfl)); (simp only [Act.put, List.setIfInBounds_toArray, List.set_cons_zero, List.set_cons_succ])))
      intro w4 ⟨hb4, _⟩
      simp only [List.drop_succ_cons, List.drop_zero]
      have hb04 := hb02.trans (hb4.mono hb02.size)
      have m04 := (rN w4 hb4).1
      have m14 := (rN w4 hb4).2
      have hgN4 := Nat.lt_of_lt_of_le hgN2 hb4.size
      have hrq4 := hrq2.keep hb4
      have hr4 := hr.keep hb04
      have hz4 := hz.keep hb04
      have hf4 := hf.keep hb04
      have hx4 := hx.keep hb04
      clear rN k1 hdr hr2 hz2 m0 m1 hgN2 hrq2 hb4 hb02 hr hz hf hx HPP hq1
      have hdr : Below w4.heap.size w4 w4.drew := ⟨rfl, rfl, rfl, Nat.le_refl _, fun _ _ => rfl⟩
      have rN : ∀ w', Below w4.heap.size w4 w' → w'.cell? ⟨gN, 0, none⟩ = some (.slice q.a q.n q.c) ∧ w'.cell? ⟨gN, 1, none⟩ = some (.string ⟨#[]⟩) := fun w' hb =>
        ⟨(hb.cell (p := ⟨gN, 0, none⟩) hgN4).trans m04, (hb.cell (p := ⟨gN, 1, none⟩) hgN4).trans m14⟩
      have HQ := Lib.hid (And.intro (show (0 : Int) < 1 by omega) (show 0 < 1 by omega))
      go_upto_region 8 with fail
      refine region_tree (Below w4.heap.size w4) (.q 0 (.q 3 (.q 4 (.q 5 (.q 6 (.three 1 (.q 2 (.two 7 (.f 8 (.f 9 (.f 10 .nil))) 8 (.f 7 (.f 9 (.f 10 .nil))))) 7 (.two 1 (.q 2 (.f 8 (.f 9 (.f 10 .nil)))) 8 (.f 1 (.q 2 (.f 9 (.f 10 .nil))))) 8 (.two 1 (.q 2 (.f 7 (.f 9 (.f 10 .nil)))) 7 (.f 1 (.q 2 (.f 9 (.f 10 .nil))))))))))) 11 (by kernel_rfl) (by kernel_rfl) (fun w w' h hb => h.trans (hb.mono h.size)) hdr ?_
      apply rest4
      · intro REST
        refine o_run (k := 0) (by simp only [List.getElem?_toArray, List.getElem?_cons_zero]; rfl) ?_ (by rfl) (fun w1 hw1 => ?_) ?_
        rotate_left
        (go_simp; try (with_reducible rfl))
        (simp only [Act.put, List.setIfInBounds_toArray, List.set_cons_zero, List.set_cons_succ])
        refine o_run (k := 3) (by simp only [List.getElem?_toArray, List.getElem?_cons_succ, List.getElem?_cons_zero]; rfl) ?_ (by rfl) (fun w1 hw1 => ?_) ?_
        rotate_left
        (go_simp; try (with_reducible rfl))
        (simp only [Act.put, List.setIfInBounds_toArray, List.set_cons_zero, List.set_cons_succ])
        refine o_run (k := 4) (by simp only [List.getElem?_toArray, List.getElem?_cons_succ, List.getElem?_cons_zero]; rfl) ?_ (by rfl) (fun w1 hw1 => ?_) ?_
        rotate_left
        (have r0 := HQ.out.1; have r1 := HQ.out.2; go_simp; try (with_reducible rfl))
        (simp only [Act.put, List.setIfInBounds_toArray, List.set_cons_zero, List.set_cons_succ])
        refine o_run (k := 5) (by simp only [List.getElem?_toArray, List.getElem?_cons_succ, List.getElem?_cons_zero]; rfl) ?_ (by rfl) (fun w1 hw1 => ?_) ?_
        rotate_left
        (have r0 := (rN w1 hw1).1; have r1 := (rN w1 hw1).2; go_simp; try (with_reducible rfl))
        (simp only [Act.put, List.setIfInBounds_toArray, List.set_cons_zero, List.set_cons_succ])
        refine o_run (k := 6) (by simp only [List.getElem?_toArray, List.getElem?_cons_succ, List.getElem?_cons_zero]; rfl) ?_ (by rfl) (fun w1 hw1 => ?_) ?_
        rotate_left
        (go_simp; try (with_reducible rfl))
        (simp only [Act.put, List.setIfInBounds_toArray, List.set_cons_zero, List.set_cons_succ])
        refine o_three ?_ ?_ ?_
        · skip
          refine o_at (k := 1) (by simp only [List.getElem?_toArray, List.getElem?_cons_succ, List.getElem?_cons_zero]; rfl) (fun v w' => FreshA w4.heap.size n bs v w') (by rfl) (fun v w w' h hb => h.keep hb) (fun w1 hw1 => ?_) ?_
          · refine tAt_call ?_ ?_ ?_ ?_
            rotate_left 2
            (go_simp; refine ⟨?_, ?_⟩ <;> with_reducible rfl)
            (go_at_call 15; (with_reducible refine (plain_c A n c bs w1 (hr4.keep hw1) hA hn).mono ?_); rintro e w2 ⟨A9, c9, rfl, hown9, hb9⟩; exact ⟨_, rfl, ⟨A9, c9, rfl, own_mono hown9 (hw1).size⟩, hb9⟩)
          rintro vp ⟨-, -, A9, c9, rfl, -⟩
          (simp only [Act.put, List.setIfInBounds_toArray, List.set_cons_zero, List.set_cons_succ])
          refine o_run (k := 2) (by simp only [List.getElem?_toArray, List.getElem?_cons_succ, List.getElem?_cons_zero]; rfl) ?_ (by rfl) (fun w1 hw1 => ?_) ?_
          rotate_left
          (go_simp; try (with_reducible rfl))
          (simp only [Act.put, List.setIfInBounds_toArray, List.set_cons_zero, List.set_cons_succ])
          refine o_two ?_ ?_
          · skip
            refine o_at (k := 7) (by simp only [List.getElem?_toArray, List.getElem?_cons_succ, List.getElem?_cons_zero]; rfl) (fun v w' => RoomP w4.heap.size v w') (by rfl) (fun v w w' h hb => h.keep hb) (fun w1 hw1 => ?_) ?_
            · refine tAt_new ?_ ?_ ?_ ?_ ?_
              rotate_left 2
              (go_simp; first | (refine ⟨?_, ?_⟩ <;> with_reducible rfl) | with_reducible rfl)
              exact RoomP.new w1 _ #[.slice none 0 0, .string ⟨#[]⟩, .int .u16 0] (hw1.1).size rfl
              exact (Below.refl _ _).alloc (Nat.le_refl _) _
            rintro v7 ⟨-, -, g7, -, rfl, -⟩
            (simp only [Act.put, List.setIfInBounds_toArray, List.set_cons_zero, List.set_cons_succ])
            refine o_f ?_
            refine o_at (k := 8) (by simp only [List.getElem?_toArray, List.getElem?_cons_succ, List.getElem?_cons_zero]; rfl) (fun v w' => RoomP w4.heap.size v w' ∧ v ≠ Value.pointer (some ⟨g7, 0, none⟩)) (by rfl) (fun v w w' h hb => ⟨h.1.keep hb, h.2⟩) (fun w1 hw1 => ?_) ?_
            · refine tAt_new ?_ ?_ ?_ ?_ ?_
              rotate_left 2
              (go_simp; first | (refine ⟨?_, ?_⟩ <;> with_reducible rfl) | with_reducible rfl)
              exact ⟨RoomP.new w1 _ #[.slice none 0 0, .string ⟨#[]⟩, .int .u16 0] (hw1.1.1).size rfl, fun h => by have h5 := (hw1.2).lt; injection h with h; injection h with h; injection h with h; omega⟩
              exact (Below.refl _ _).alloc (Nat.le_refl _) _
            rintro v8 ⟨-, -, ⟨g8, -, rfl, -, -, -⟩, -⟩
            (simp only [Act.put, List.setIfInBounds_toArray, List.set_cons_zero, List.set_cons_succ])
            refine o_class (D := fun w' => Below w4.heap.size w4 w' ∧ FreshA w4.heap.size n bs (.agg #[.slice A9 n c9, .string ⟨#[]⟩]) w' ∧ RoomP w4.heap.size (.pointer (some ⟨g7, 0, none⟩)) w' ∧ RoomP w4.heap.size (.pointer (some ⟨g8, 0, none⟩)) w' ∧ Value.pointer (some ⟨g8, 0, none⟩) ≠ .pointer (some ⟨g7, 0, none⟩)) (fun w' => ⟨fun h => ⟨h.1.1.1, h.1.1.2, h.1.2, h.2.1, h.2.2⟩, fun h => ⟨⟨⟨h.1, h.2.1⟩, h.2.2.1⟩, ⟨h.2.2.2.1, h.2.2.2.2⟩⟩⟩) ?_
            exact REST A9 c9 g7 g8
          · skip
            refine o_at (k := 8) (by simp only [List.getElem?_toArray, List.getElem?_cons_succ, List.getElem?_cons_zero]; rfl) (fun v w' => RoomP w4.heap.size v w') (by rfl) (fun v w w' h hb => h.keep hb) (fun w1 hw1 => ?_) ?_
            · refine tAt_new ?_ ?_ ?_ ?_ ?_
              rotate_left 2
              (go_simp; first | (refine ⟨?_, ?_⟩ <;> with_reducible rfl) | with_reducible rfl)
              exact RoomP.new w1 _ #[.slice none 0 0, .string ⟨#[]⟩, .int .u16 0] (hw1.1).size rfl
              exact (Below.refl _ _).alloc (Nat.le_refl _) _
            rintro v8 ⟨-, -, g8, -, rfl, -⟩
            (simp only [Act.put, List.setIfInBounds_toArray, List.set_cons_zero, List.set_cons_succ])
            refine o_f ?_
            refine o_at (k := 7) (by simp only [List.getElem?_toArray, List.getElem?_cons_succ, List.getElem?_cons_zero]; rfl) (fun v w' => RoomP w4.heap.size v w' ∧ Value.pointer (some ⟨g8, 0, none⟩) ≠ v) (by rfl) (fun v w w' h hb => ⟨h.1.keep hb, h.2⟩) (fun w1 hw1 => ?_) ?_
            · refine tAt_new ?_ ?_ ?_ ?_ ?_
              rotate_left 2
              (go_simp; first | (refine ⟨?_, ?_⟩ <;> with_reducible rfl) | with_reducible rfl)
              exact ⟨RoomP.new w1 _ #[.slice none 0 0, .string ⟨#[]⟩, .int .u16 0] (hw1.1.1).size rfl, fun h => by have h5 := (hw1.2).lt; injection h with h; injection h with h; injection h with h; omega⟩
              exact (Below.refl _ _).alloc (Nat.le_refl _) _
            rintro v7 ⟨-, -, ⟨g7, -, rfl, -, -, -⟩, -⟩
            (simp only [Act.put, List.setIfInBounds_toArray, List.set_cons_zero, List.set_cons_succ])
            refine o_class (D := fun w' => Below w4.heap.size w4 w' ∧ FreshA w4.heap.size n bs (.agg #[.slice A9 n c9, .string ⟨#[]⟩]) w' ∧ RoomP w4.heap.size (.pointer (some ⟨g7, 0, none⟩)) w' ∧ RoomP w4.heap.size (.pointer (some ⟨g8, 0, none⟩)) w' ∧ Value.pointer (some ⟨g8, 0, none⟩) ≠ .pointer (some ⟨g7, 0, none⟩)) (fun w' => ⟨fun h => ⟨h.1.1.1, h.1.1.2, h.2.1, h.1.2, h.2.2⟩, fun h => ⟨⟨⟨h.1, h.2.1⟩, h.2.2.2.1⟩, ⟨h.2.2.1, h.2.2.2.2⟩⟩⟩) ?_
            exact REST A9 c9 g7 g8
        · skip
          refine o_at (k := 7) (by simp only [List.getElem?_toArray, List.getElem?_cons_succ, List.getElem?_cons_zero]; rfl) (fun v w' => RoomP w4.heap.size v w') (by rfl) (fun v w w' h hb => h.keep hb) (fun w1 hw1 => ?_) ?_
          · refine tAt_new ?_ ?_ ?_ ?_ ?_
            rotate_left 2
            (go_simp; first | (refine ⟨?_, ?_⟩ <;> with_reducible rfl) | with_reducible rfl)
            exact RoomP.new w1 _ #[.slice none 0 0, .string ⟨#[]⟩, .int .u16 0] (hw1).size rfl
            exact (Below.refl _ _).alloc (Nat.le_refl _) _
          rintro v7 ⟨-, -, g7, -, rfl, -⟩
          (simp only [Act.put, List.setIfInBounds_toArray, List.set_cons_zero, List.set_cons_succ])
          refine o_two ?_ ?_
          · skip
            refine o_at (k := 1) (by simp only [List.getElem?_toArray, List.getElem?_cons_succ, List.getElem?_cons_zero]; rfl) (fun v w' => FreshA w4.heap.size n bs v w') (by rfl) (fun v w w' h hb => h.keep hb) (fun w1 hw1 => ?_) ?_
            · refine tAt_call ?_ ?_ ?_ ?_
              rotate_left 2
              (go_simp; refine ⟨?_, ?_⟩ <;> with_reducible rfl)
              (go_at_call 15; (with_reducible refine (plain_c A n c bs w1 (hr4.keep hw1.1) hA hn).mono ?_); rintro e w2 ⟨A9, c9, rfl, hown9, hb9⟩; exact ⟨_, rfl, ⟨A9, c9, rfl, own_mono hown9 (hw1.1).size⟩, hb9⟩)
            rintro vp ⟨-, -, A9, c9, rfl, -⟩
            (simp only [Act.put, List.setIfInBounds_toArray, List.set_cons_zero, List.set_cons_succ])
            refine o_run (k := 2) (by simp only [List.getElem?_toArray, List.getElem?_cons_succ, List.getElem?_cons_zero]; rfl) ?_ (by rfl) (fun w1 hw1 => ?_) ?_
            rotate_left
            (go_simp; try (with_reducible rfl))
            (simp only [Act.put, List.setIfInBounds_toArray, List.set_cons_zero, List.set_cons_succ])
            refine o_f ?_
            refine o_at (k := 8) (by simp only [List.getElem?_toArray, List.getElem?_cons_succ, List.getElem?_cons_zero]; rfl) (fun v w' => RoomP w4.heap.size v w' ∧ v ≠ Value.pointer (some ⟨g7, 0, none⟩)) (by rfl) (fun v w w' h hb => ⟨h.1.keep hb, h.2⟩) (fun w1 hw1 => ?_) ?_
            · refine tAt_new ?_ ?_ ?_ ?_ ?_
              rotate_left 2
              (go_simp; first | (refine ⟨?_, ?_⟩ <;> with_reducible rfl) | with_reducible rfl)
              exact ⟨RoomP.new w1 _ #[.slice none 0 0, .string ⟨#[]⟩, .int .u16 0] (hw1.1.1).size rfl, fun h => by have h5 := (hw1.1.2).lt; injection h with h; injection h with h; injection h with h; omega⟩
              exact (Below.refl _ _).alloc (Nat.le_refl _) _
            rintro v8 ⟨-, -, ⟨g8, -, rfl, -, -, -⟩, -⟩
            (simp only [Act.put, List.setIfInBounds_toArray, List.set_cons_zero, List.set_cons_succ])
            refine o_class (D := fun w' => Below w4.heap.size w4 w' ∧ FreshA w4.heap.size n bs (.agg #[.slice A9 n c9, .string ⟨#[]⟩]) w' ∧ RoomP w4.heap.size (.pointer (some ⟨g7, 0, none⟩)) w' ∧ RoomP w4.heap.size (.pointer (some ⟨g8, 0, none⟩)) w' ∧ Value.pointer (some ⟨g8, 0, none⟩) ≠ .pointer (some ⟨g7, 0, none⟩)) (fun w' => ⟨fun h => ⟨h.1.1.1, h.1.2, h.1.1.2, h.2.1, h.2.2⟩, fun h => ⟨⟨⟨h.1, h.2.2.1⟩, h.2.1⟩, ⟨h.2.2.2.1, h.2.2.2.2⟩⟩⟩) ?_
            exact REST A9 c9 g7 g8
          · skip
            refine o_at (k := 8) (by simp only [List.getElem?_toArray, List.getElem?_cons_succ, List.getElem?_cons_zero]; rfl) (fun v w' => RoomP w4.heap.size v w' ∧ v ≠ Value.pointer (some ⟨g7, 0, none⟩)) (by rfl) (fun v w w' h hb => ⟨h.1.keep hb, h.2⟩) (fun w1 hw1 => ?_) ?_
            · refine tAt_new ?_ ?_ ?_ ?_ ?_
              rotate_left 2
              (go_simp; first | (refine ⟨?_, ?_⟩ <;> with_reducible rfl) | with_reducible rfl)
              exact ⟨RoomP.new w1 _ #[.slice none 0 0, .string ⟨#[]⟩, .int .u16 0] (hw1.1).size rfl, fun h => by have h5 := (hw1.2).lt; injection h with h; injection h with h; injection h with h; omega⟩
              exact (Below.refl _ _).alloc (Nat.le_refl _) _
            rintro v8 ⟨-, -, ⟨g8, -, rfl, -, -, -⟩, -⟩
            (simp only [Act.put, List.setIfInBounds_toArray, List.set_cons_zero, List.set_cons_succ])
            refine o_f ?_
            refine o_at (k := 1) (by simp only [List.getElem?_toArray, List.getElem?_cons_succ, List.getElem?_cons_zero]; rfl) (fun v w' => FreshA w4.heap.size n bs v w') (by rfl) (fun v w w' h hb => h.keep hb) (fun w1 hw1 => ?_) ?_
            · refine tAt_call ?_ ?_ ?_ ?_
              rotate_left 2
              (go_simp; refine ⟨?_, ?_⟩ <;> with_reducible rfl)
              (go_at_call 15; (with_reducible refine (plain_c A n c bs w1 (hr4.keep hw1.1.1) hA hn).mono ?_); rintro e w2 ⟨A9, c9, rfl, hown9, hb9⟩; exact ⟨_, rfl, ⟨A9, c9, rfl, own_mono hown9 (hw1.1.1).size⟩, hb9⟩)
            rintro vp ⟨-, -, A9, c9, rfl, -⟩
            (simp only [Act.put, List.setIfInBounds_toArray, List.set_cons_zero, List.set_cons_succ])
            refine o_run (k := 2) (by simp only [List.getElem?_toArray, List.getElem?_cons_succ, List.getElem?_cons_zero]; rfl) ?_ (by rfl) (fun w1 hw1 => ?_) ?_
            rotate_left
            (go_simp; try (with_reducible rfl))
            (simp only [Act.put, List.setIfInBounds_toArray, List.set_cons_zero, List.set_cons_succ])
            refine o_class (D := fun w' => Below w4.heap.size w4 w' ∧ FreshA w4.heap.size n bs (.agg #[.slice A9 n c9, .string ⟨#[]⟩]) w' ∧ RoomP w4.heap.size (.pointer (some ⟨g7, 0, none⟩)) w' ∧ RoomP w4.heap.size (.pointer (some ⟨g8, 0, none⟩)) w' ∧ Value.pointer (some ⟨g8, 0, none⟩) ≠ .pointer (some ⟨g7, 0, none⟩)) (fun w' => ⟨fun h => ⟨h.1.1.1, h.2, h.1.1.2, h.1.2.1, h.1.2.2⟩, fun h => ⟨⟨⟨h.1, h.2.2.1⟩, ⟨h.2.2.2.1, h.2.2.2.2⟩⟩, h.2.1⟩⟩) ?_
            exact REST A9 c9 g7 g8
        · skip
          refine o_at (k := 8) (by simp only [List.getElem?_toArray, List.getElem?_cons_succ, List.getElem?_cons_zero]; rfl) (fun v w' => RoomP w4.heap.size v w') (by rfl) (fun v w w' h hb => h.keep hb) (fun w1 hw1 => ?_) ?_
          · refine tAt_new ?_ ?_ ?_ ?_ ?_
            rotate_left 2
            (go_simp; first | (refine ⟨?_, ?_⟩ <;> with_reducible rfl) | with_reducible rfl)
            exact RoomP.new w1 _ #[.slice none 0 0, .string ⟨#[]⟩, .int .u16 0] (hw1).size rfl
            exact (Below.refl _ _).alloc (Nat.le_refl _) _
          rintro v8 ⟨-, -, g8, -, rfl, -⟩
          (simp only [Act.put, List.setIfInBounds_toArray, List.set_cons_zero, List.set_cons_succ])
          refine o_two ?_ ?_
          · skip
            refine o_at (k := 1) (by simp only [List.getElem?_toArray, List.getElem?_cons_succ, List.getElem?_cons_zero]; rfl) (fun v w' => FreshA w4.heap.size n bs v w') (by rfl) (fun v w w' h hb => h.keep hb) (fun w1 hw1 => ?_) ?_
            · refine tAt_call ?_ ?_ ?_ ?_
              rotate_left 2
              (go_simp; refine ⟨?_, ?_⟩ <;> with_reducible rfl)
              (go_at_call 15; (with_reducible refine (plain_c A n c bs w1 (hr4.keep hw1.1) hA hn).mono ?_); rintro e w2 ⟨A9, c9, rfl, hown9, hb9⟩; exact ⟨_, rfl, ⟨A9, c9, rfl, own_mono hown9 (hw1.1).size⟩, hb9⟩)
            rintro vp ⟨-, -, A9, c9, rfl, -⟩
            (simp only [Act.put, List.setIfInBounds_toArray, List.set_cons_zero, List.set_cons_succ])
            refine o_run (k := 2) (by simp only [List.getElem?_toArray, List.getElem?_cons_succ, List.getElem?_cons_zero]; rfl) ?_ (by rfl) (fun w1 hw1 => ?_) ?_
            rotate_left
            (go_simp; try (with_reducible rfl))
            (simp only [Act.put, List.setIfInBounds_toArray, List.set_cons_zero, List.set_cons_succ])
            refine o_f ?_
            refine o_at (k := 7) (by simp only [List.getElem?_toArray, List.getElem?_cons_succ, List.getElem?_cons_zero]; rfl) (fun v w' => RoomP w4.heap.size v w' ∧ Value.pointer (some ⟨g8, 0, none⟩) ≠ v) (by rfl) (fun v w w' h hb => ⟨h.1.keep hb, h.2⟩) (fun w1 hw1 => ?_) ?_
            · refine tAt_new ?_ ?_ ?_ ?_ ?_
              rotate_left 2
              (go_simp; first | (refine ⟨?_, ?_⟩ <;> with_reducible rfl) | with_reducible rfl)
              exact ⟨RoomP.new w1 _ #[.slice none 0 0, .string ⟨#[]⟩, .int .u16 0] (hw1.1.1).size rfl, fun h => by have h5 := (hw1.1.2).lt; injection h with h; injection h with h; injection h with h; omega⟩
              exact (Below.refl _ _).alloc (Nat.le_refl _) _
            rintro v7 ⟨-, -, ⟨g7, -, rfl, -, -, -⟩, -⟩
            (simp only [Act.put, List.setIfInBounds_toArray, List.set_cons_zero, List.set_cons_succ])
            refine o_class (D := fun w' => Below w4.heap.size w4 w' ∧ FreshA w4.heap.size n bs (.agg #[.slice A9 n c9, .string ⟨#[]⟩]) w' ∧ RoomP w4.heap.size (.pointer (some ⟨g7, 0, none⟩)) w' ∧ RoomP w4.heap.size (.pointer (some ⟨g8, 0, none⟩)) w' ∧ Value.pointer (some ⟨g8, 0, none⟩) ≠ .pointer (some ⟨g7, 0, none⟩)) (fun w' => ⟨fun h => ⟨h.1.1.1, h.1.2, h.2.1, h.1.1.2, h.2.2⟩, fun h => ⟨⟨⟨h.1, h.2.2.2.1⟩, h.2.1⟩, ⟨h.2.2.1, h.2.2.2.2⟩⟩⟩) ?_
            exact REST A9 c9 g7 g8
          · skip
            refine o_at (k := 7) (by simp only [List.getElem?_toArray, List.getElem?_cons_succ, List.getElem?_cons_zero]; rfl) (fun v w' => RoomP w4.heap.size v w' ∧ Value.pointer (some ⟨g8, 0, none⟩) ≠ v) (by rfl) (fun v w w' h hb => ⟨h.1.keep hb, h.2⟩) (fun w1 hw1 => ?_) ?_
            · refine tAt_new ?_ ?_ ?_ ?_ ?_
              rotate_left 2
              (go_simp; first | (refine ⟨?_, ?_⟩ <;> with_reducible rfl) | with_reducible rfl)
              exact ⟨RoomP.new w1 _ #[.slice none 0 0, .string ⟨#[]⟩, .int .u16 0] (hw1.1).size rfl, fun h => by have h5 := (hw1.2).lt; injection h with h; injection h with h; injection h with h; omega⟩
              exact (Below.refl _ _).alloc (Nat.le_refl _) _
            rintro v7 ⟨-, -, ⟨g7, -, rfl, -, -, -⟩, -⟩
            (simp only [Act.put, List.setIfInBounds_toArray, List.set_cons_zero, List.set_cons_succ])
            refine o_f ?_
            refine o_at (k := 1) (by simp only [List.getElem?_toArray, List.getElem?_cons_succ, List.getElem?_cons_zero]; rfl) (fun v w' => FreshA w4.heap.size n bs v w') (by rfl) (fun v w w' h hb => h.keep hb) (fun w1 hw1 => ?_) ?_
            · refine tAt_call ?_ ?_ ?_ ?_
              rotate_left 2
              (go_simp; refine ⟨?_, ?_⟩ <;> with_reducible rfl)
              (go_at_call 15; (with_reducible refine (plain_c A n c bs w1 (hr4.keep hw1.1.1) hA hn).mono ?_); rintro e w2 ⟨A9, c9, rfl, hown9, hb9⟩; exact ⟨_, rfl, ⟨A9, c9, rfl, own_mono hown9 (hw1.1.1).size⟩, hb9⟩)
            rintro vp ⟨-, -, A9, c9, rfl, -⟩
            (simp only [Act.put, List.setIfInBounds_toArray, List.set_cons_zero, List.set_cons_succ])
            refine o_run (k := 2) (by simp only [List.getElem?_toArray, List.getElem?_cons_succ, List.getElem?_cons_zero]; rfl) ?_ (by rfl) (fun w1 hw1 => ?_) ?_
            rotate_left
            (go_simp; try (with_reducible rfl))
            (simp only [Act.put, List.setIfInBounds_toArray, List.set_cons_zero, List.set_cons_succ])
            refine o_class (D := fun w' => Below w4.heap.size w4 w' ∧ FreshA w4.heap.size n bs (.agg #[.slice A9 n c9, .string ⟨#[]⟩]) w' ∧ RoomP w4.heap.size (.pointer (some ⟨g7, 0, none⟩)) w' ∧ RoomP w4.heap.size (.pointer (some ⟨g8, 0, none⟩)) w' ∧ Value.pointer (some ⟨g8, 0, none⟩) ≠ .pointer (some ⟨g7, 0, none⟩)) (fun w' => ⟨fun h => ⟨h.1.1.1, h.2, h.1.2.1, h.1.1.2, h.1.2.2⟩, fun h => ⟨⟨⟨h.1, h.2.2.2.1⟩, ⟨h.2.2.1, h.2.2.2.2⟩⟩, h.2.1⟩⟩) ?_
            exact REST A9 c9 g7 g8
      intro A9 c9 g7 g8
      refine o_f (o_store (k := 9) (by simp only [List.getElem?_toArray, List.getElem?_cons_succ, List.getElem?_cons_zero]; rfl) (fun w' => Blk w' g7 39 #[.slice A9 n c9, .string ⟨#[]⟩, .int .u16 65535]) (by rfl) (fun w w' h hb => h.below hb) (fun w1 hw1 => ?_) ?_)
      · obtain ⟨hB, hF, h7, h8, hne⟩ := hw1
        obtain ⟨x0, x1, x2, hB7, hblk⟩ := h7.out
        obtain ⟨y0, y1, y2, hB8, hblk8⟩ := h8.out
        have hgne : g8 ≠ g7 := fun h => hne (by rw [h])
        have r0 := hblk.cell
        have f0 := hblk.free
        have l0 := hblk.lt
        have s1 := hblk.set 0 (.slice A9 n c9)
        have s2 := s1.set 1 (.string ⟨#[]⟩)
        have hset := s2.set 2 (.int .u16 65535)
        simp only [List.setIfInBounds_toArray, List.set_cons_zero, List.set_cons_succ] at hset s1 s2
        have hb' := ((hB.setCell (p := ⟨g7, 0, none⟩) hB7 (.slice A9 n c9)).setCell (p := ⟨g7, 1, none⟩) hB7 (.string ⟨#[]⟩)).setCell (p := ⟨g7, 2, none⟩) hB7 (.int .u16 65535)
        have ho' := own_set (own_set (own_set hF.own hblk (by decide) 0 (.slice A9 n c9)) s1 (by decide) 1 (.string ⟨#[]⟩)) s2 (by decide) 2 (.int .u16 65535)
        have h8' := ((hblk8.other hgne 0 (.slice A9 n c9)).other hgne 1 (.string ⟨#[]⟩)).other hgne 2 (.int .u16 65535)
        have HS := Lib.hid (And.intro hset (And.intro hb' (And.intro ho' h8')))
        clear hset hb' ho' h8' hblk hblk8 hB hF h7 h8 s1 s2
        refine ⟨_, ?_, HS.out.1, HS.out.2.1, ⟨A9, c9, rfl, HS.out.2.2.1⟩, ⟨g7, _, rfl, hB7, rfl, HS.out.1⟩, ⟨g8, _, rfl, hB8, rfl, HS.out.2.2.2⟩, hne⟩
        go_simp
      (simp only [Act.put])
      refine o_f (o_store (k := 10) (by simp only [List.getElem?_toArray, List.getElem?_cons_succ, List.getElem?_cons_zero]; rfl) (fun w' => Blk w' g8 39 #[.slice q.a q.n q.c, .string ⟨#[]⟩, .int .u16 0]) (by rfl) (fun w w' h hb => h.below hb) (fun w1 hw1 => ?_) ?_)
      · obtain ⟨⟨hB, hF, h7, h8, hne⟩, hblk7⟩ := hw1
        obtain ⟨x0, x1, x2, hB7, -⟩ := h7.out
        obtain ⟨y0, y1, y2, hB8, hblk8⟩ := h8.out
        have hgne : g7 ≠ g8 := fun h => hne (by rw [h])
        have r0 := hblk8.cell
        have f0 := hblk8.free
        have l0 := hblk8.lt
        have s1 := hblk8.set 0 (.slice q.a q.n q.c)
        have s2 := s1.set 1 (.string ⟨#[]⟩)
        have hset := s2.set 2 (.int .u16 0)
        simp only [List.setIfInBounds_toArray, List.set_cons_zero, List.set_cons_succ] at hset s1 s2
        have hb' := ((hB.setCell (p := ⟨g8, 0, none⟩) hB8 (.slice q.a q.n q.c)).setCell (p := ⟨g8, 1, none⟩) hB8 (.string ⟨#[]⟩)).setCell (p := ⟨g8, 2, none⟩) hB8 (.int .u16 0)
        have ho' := own_set (own_set (own_set hF.own hblk8 (by decide) 0 (.slice q.a q.n q.c)) s1 (by decide) 1 (.string ⟨#[]⟩)) s2 (by decide) 2 (.int .u16 0)
        have h7' := ((hblk7.other hgne 0 (.slice q.a q.n q.c)).other hgne 1 (.string ⟨#[]⟩)).other hgne 2 (.int .u16 0)
        have HS := Lib.hid (And.intro hset (And.intro hb' (And.intro ho' h7')))
        clear hset hb' ho' h7' hblk7 hblk8 hB hF h7 h8 s1 s2
        refine ⟨_, ?_, HS.out.1, ⟨HS.out.2.1, ⟨A9, c9, rfl, HS.out.2.2.1⟩, ⟨g7, _, rfl, hB7, rfl, HS.out.2.2.2⟩, ⟨g8, _, rfl, hB8, rfl, HS.out.1⟩, hne⟩, HS.out.2.2.2⟩
        go_simp
      (simp only [Act.put])
      refine o_nil ?_
      intro w5 hw5
      simp only [List.drop_succ_cons, List.drop_zero]
      obtain ⟨⟨⟨hB, hF, -, -, -⟩, hblk7⟩, hblk8⟩ := hw5
      have hrL5 := RB.of_own hF.own
      have hrq5 := hrq4.keep hB
      have hb05 := hb04.trans (hB.mono hb04.size)
      have hz5 := hz4.keep hB
      have hf5 := hf4.keep hB
      have hx5 := hx4.keep hB
      clear rN hdr HQ hB hF hr4 hz4 hf4 hx4 m04 m14 hgN4 hrq4 hb04
      go_wp2_with fail
      refine (gates_c F fn fc es0 X xn xc xs w5 hf5 (by omega) hx5).mono ?_
      rintro e1 w6 ⟨v6, rfl, ⟨A6, L, c6, es, rfl, hown6, hL6, hLn, hall, hin6⟩, hb6⟩
      have hRG := RG.of_own hown6 hL6 hin6
      have hbL6 := hblk7.below hb6
      have hbF6 := hblk8.below hb6
      have hrL6 := hrL5.keep hb6
      have hrq6 := hrq5.keep hb6
      have hz6 := hz5.keep hb6
      have hb06 := hb05.trans (hb6.mono hb05.size)
      have HALL := Lib.hid hall
      clear hown6 hL6 hall hin6 hblk7 hblk8 hrL5 hrq5 hz5 hb05 hb6 hf5 hx5
      go_wp2_with fail
      go_loopw [59] (fun i wr => ∃ (j : Nat), j ≤ L ∧ i = .int .i64 j ∧ Below w6.heap.size w6 wr) (fun i _ => L - (intOf i).toNat)
      case atStart => exact ⟨0, Nat.zero_le _, rfl, Below.refl _ _⟩
      case round =>
        obtain ⟨j, hj, rfl, hbb⟩ := hrel
        by_cases hlt : j < L
        · obtain ⟨g, o, e, hA9, hg, hek, hc0, hc1, hc2, hbe⟩ := (hRG.keep hbb).at hlt
          subst hA9
          obtain ⟨hel, hep⟩ := HALL.out e (List.mem_of_getElem? hek)
          have hxa : Below wr.heap.size wr (wr.alloc (.cells #[.slice e.a e.n e.c, .string ⟨#[]⟩, .int .u16 e.p] 39)) := (Below.refl _ _).alloc (Nat.le_refl _) _
          have hbox := boxPort wr (.slice e.a e.n e.c) (.string ⟨#[]⟩) (.int .u16 e.p)
          obtain ⟨gR, hgR⟩ : ∃ gR, gR = wr.heap.size := ⟨_, rfl⟩
          rw [← hgR] at hbox
          have hb7 := hbb.trans (hxa.mono hbb.size)
          have HX := Lib.hid (And.intro hgR (And.intro hbox (And.intro hb7 (And.intro (hbe.keep hxa) (And.intro (hbL6.below hb7) (hbF6.below hb7))))))
          clear hgR hbox hxa hbe hek hb7
          go_upto_region 12 with fail
          obtain ⟨hgR, hboxR, hb7, hbe, hbL7, hbF7⟩ := HX.out
          rw [← hgR]
          clear HX hgR hc0 hc1 hc2
          generalize wr.alloc (.cells #[.slice e.a e.n e.c, .string ⟨#[]⟩, .int .u16 e.p] 39) = w7 at *
          have cL := hbL7.cell
          have cR := hboxR.cell
          have hz7 := hz6.keep hb7
          have hrL7 := hrL6.keep hb7
          obtain ⟨x, hx⟩ : ∃ x, x = cmpG bs 65535 e.bs e.p := ⟨_, rfl⟩
          obtain ⟨y, hy⟩ : ∃ y, y = cmpG e.bs e.p q.bs 0 := ⟨_, rfl⟩
          have hno : ¬ (x = -1 ∧ y = -1) := by rw [hx, hy]; exact none_between hisl HQB.out HQN.out hep
          have k1 := gateOrder_c A9 e.a n e.n c9 e.c bs e.bs 65535 e.p z w7 hz7 hrL7 hbe
          rw [← hx] at k1
          have HN := Lib.hid (And.intro hno hy)
          clear hx hy hno
          go_wp2_with fail
          refine k1.mono ?_
          rintro e1 w8 ⟨rfl, hb8⟩
          have hb78 := hb7.trans (hb8.mono hb7.size)
          have cR8 := (hboxR.below hb8).cell
          have cF8 := (hbF7.below hb8).cell
          have hbe8 := hbe.keep hb8
          have hrq8 := hrq6.keep hb78
          have hz8 := hz6.keep hb78
          clear k1 cL cR hboxR hbL7 hbF7 hbe hz7 hrL7 hb7 hb8
          by_cases hx1 : x = -1
          · have d1 : (x == -1) = true := by simpa using hx1
            have hy1 : ¬ y = -1 := fun h => HN.out.1 ⟨hx1, h⟩
            have d2 : (y == -1) = false := by simpa using hy1
            clear hx1
            have k2 := gateOrder_c e.a q.a e.n q.n e.c q.c e.bs q.bs e.p 0 z w8 hz8 hbe8 hrq8
            rw [← HN.out.2] at k2
            clear HN hy1
            go_wp2_with fail
            refine k2.mono ?_
            rintro e1 w9 ⟨rfl, hb9⟩
            have hb79 := hb78.trans (hb9.mono hb78.size)
            clear k2 cR8 cF8
            go_wp2
            go_roundw
            case rel => exact ⟨j + 1, by omega, by go_num, hb79⟩
            case measure => simp [intOf]; omega
          · have d1 : (x == -1) = false := by simpa using hx1
            clear hx1 HN
            go_wp2
            go_roundw
            case rel => exact ⟨j + 1, by omega, by go_num, hb78⟩
            case measure => simp [intOf]; omega
        · have hbw := hb06.trans (hbb.mono hb06.size)
          go_wp2
          go_returns
          exact ⟨rfl, hbw⟩
  · rw [show (n == 4 || n == 16) = false by simpa using hla]
    go_wp2_with fail
    go_returns
    exact ⟨rfl, hb02⟩
end Go.Proofs.YtocckokbdacdfaaDoor
