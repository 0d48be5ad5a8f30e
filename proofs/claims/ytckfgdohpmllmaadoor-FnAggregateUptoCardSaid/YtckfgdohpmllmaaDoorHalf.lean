/-
  Contracts of laws.firstOf, lastOf, half.
-/
import Derived.Test.YtckfgdohpmllmaaDoorWith
namespace Go.Proofs.YtckfgdohpmllmaaDoor
open Go Go.RowKit
theorem OwnB.keep {B n : Nat} {bs : List UInt8} {v : Value} {w w' : World} (h : OwnB B n bs v w) (hb : Below w.heap.size w w') : OwnB B n bs v w' := by
  obtain ⟨g, c, h1, h2⟩ := h
  exact ⟨g, c, h1, own_below h2 hb⟩
theorem OwnB.own {B n : Nat} {bs : List UInt8} {g c : Nat} {w : World} (h : OwnB B n bs (.slice (some ⟨g, 0, none⟩) n c) w) : w.ownsRow B 5 1 (.slice (some ⟨g, 0, none⟩) n c) n (Lib.byteCells bs) := by
  obtain ⟨g', c', h1, h2⟩ := h
  rw [← h1] at h2
  exact h2
set_option maxRecDepth 100000 in
theorem firstOf_c (A : Option Addr) (n c : Nat) (bs : List UInt8) (k : Nat) (w : World) (hr : RB w A n bs) (hl : isLen n) (hk : k ≤ 8 * n) :
    Calls Tryd.prog 22 #[.agg #[.slice A n c, .string ⟨#[]⟩, .int .i64 k]] w fun e w' => ∃ v, e = .returned v ∧ OwnB w.heap.size n (wb bs k false) v w' ∧ Below w.heap.size w w' := by
  have hbx : Below w.heap.size w (w.alloc (.cells #[.slice A n c, .string ⟨#[]⟩, .int .i64 k] 29)) := (Below.refl _ _).alloc (Nat.le_refl _) _
  go_enter Tryd.func22, Tryd.ntmps22
  go_wp2_with fail
  refine (withBits_c A n c bs k false _ (hr.keep hbx) hl hk).mono ?_
  rintro e w1 ⟨v, rfl, ⟨g, c1, rfl, hown⟩, hb⟩
  have hbb := hbx.trans (hb.mono hbx.size)
  have HO := Lib.hid (own_mono hown hbx.size)
  clear hown
  go_wp2
  go_returns
  exact ⟨_, rfl, ⟨g, c1, rfl, HO.out⟩, hbb⟩
set_option maxRecDepth 100000 in
theorem lastOf_c (A : Option Addr) (n c : Nat) (bs : List UInt8) (k : Nat) (w : World) (hr : RB w A n bs) (hl : isLen n) (hk : k ≤ 8 * n) :
    Calls Tryd.prog 30 #[.agg #[.slice A n c, .string ⟨#[]⟩, .int .i64 k]] w fun e w' => ∃ v, e = .returned v ∧ OwnB w.heap.size n (wb bs k true) v w' ∧ Below w.heap.size w w' := by
  have hbx : Below w.heap.size w (w.alloc (.cells #[.slice A n c, .string ⟨#[]⟩, .int .i64 k] 29)) := (Below.refl _ _).alloc (Nat.le_refl _) _
  go_enter Tryd.func30, Tryd.ntmps30
  go_wp2_with fail
  refine (withBits_c A n c bs k true _ (hr.keep hbx) hl hk).mono ?_
  rintro e w1 ⟨v, rfl, ⟨g, c1, rfl, hown⟩, hb⟩
  have hbb := hbx.trans (hb.mono hbx.size)
  have HO := Lib.hid (own_mono hown hbx.size)
  clear hown
  go_wp2
  go_returns
  exact ⟨_, rfl, ⟨g, c1, rfl, HO.out⟩, hbb⟩
/-- The half of a prefix. -/
def hN (W k : Nat) (u : Bool) (v : Nat) : Nat := v / 2 ^ (W - k) * 2 ^ (W - k) + if u then 2 ^ (W - 1 - k) else 0
def halfB (bs : List UInt8) (k : Nat) (u : Bool) : List UInt8 := Lib.beBytes bs.length (hN (8 * bs.length) k u (Lib.beNat bs))
theorem hN_bit (W k : Nat) (u : Bool) (v p : Nat) (hk : k < W) : (hN W k u v).testBit p = if p < W - k then decide (p = W - 1 - k) && u else v.testBit p := by
  unfold hN
  have hp := Nat.pow_lt_pow_right (a := 2) (m := W - 1 - k) (n := W - k) (by omega) (by omega)
  have hlt : (if u then 2 ^ (W - 1 - k) else 0) < 2 ^ (W - k) := by
    have := Nat.pow_pos (n := W - k) (show 0 < 2 by omega)
    cases u <;> simp <;> omega
  rw [Nat.mul_comm, Nat.testBit_two_pow_mul_add _ hlt, Nat.testBit_div_two_pow]
  by_cases h : p < W - k
  · rw [if_pos h, if_pos h]
    cases u
    · simp
    · simp only [if_true, Nat.testBit_two_pow, Bool.and_true]
      congr 1
      exact propext eq_comm
  · rw [if_neg h, if_neg h, show p - (W - k) + (W - k) = p by omega]
theorem hN_lt (bs : List UInt8) (k : Nat) (u : Bool) (hk : k < 8 * bs.length) : hN (8 * bs.length) k u (Lib.beNat bs) < 256 ^ bs.length := by
  rw [pow256]
  apply Nat.lt_pow_two_of_testBit
  intro i hi
  rw [hN_bit _ _ _ _ _ hk, if_neg (by omega), beNat_no_bit bs i hi]
theorem halfB_len (bs : List UInt8) (k : Nat) (u : Bool) : (halfB bs k u).length = bs.length := Lib.beBytes_length _ _
theorem halfB_beNat (bs : List UInt8) (k : Nat) (u : Bool) (hk : k < 8 * bs.length) : Lib.beNat (halfB bs k u) = hN (8 * bs.length) k u (Lib.beNat bs) := beNat_beBytes _ _ (hN_lt bs k u hk)
theorem halfB_false (bs : List UInt8) (k : Nat) : wb bs k false = halfB bs k false := by unfold wb halfB wbN hN; simp
theorem halfB_true (bs : List UInt8) (k : Nat) (hk : k < 8 * bs.length) (x : Nat) (hx : x = ((wb bs k false).getD (k / 8) 0).toNat) (hlt : x ||| 2 ^ (7 - k % 8) < 256) : putB (wb bs k false) k (x ||| 2 ^ (7 - k % 8)) = halfB bs k true := by
  apply beNat_inj bs.length _ _ (by rw [putB_len, wb_len]) (halfB_len _ _ _)
  rw [halfB_beNat _ _ _ hk]
  apply Nat.eq_of_testBit_eq
  intro p
  rw [hN_bit _ _ _ _ _ hk]
  by_cases hp : p < 8 * bs.length
  · rw [putB_bit _ _ _ (by rw [wb_len]; exact hk) hlt p (by rw [wb_len]; exact hp), wb_len]
    have hwb : (Lib.beNat (wb bs k false)).testBit p = if p < 8 * bs.length - k then false else (Lib.beNat bs).testBit p := by rw [wb_beNat, wbN_bit]
    by_cases hbk : (8 * bs.length - 1 - p) / 8 = k / 8
    · rw [if_pos hbk, Nat.testBit_or, Nat.testBit_two_pow, hx]
      have hpb := beNat_bit (wb bs k false) p (by rw [wb_len]; exact hp)
      rw [wb_len, show bs.length - 1 - p / 8 = k / 8 by omega] at hpb
      rw [← hpb, hwb]
      by_cases h1 : p = 8 * bs.length - 1 - k
      · subst h1
        rw [if_pos (by omega), if_pos (by omega), show decide (7 - k % 8 = (8 * bs.length - 1 - k) % 8) = true by simp; omega]
        simp
      · rw [show decide (7 - k % 8 = p % 8) = false by simp; omega, Bool.or_false, show decide (p = 8 * bs.length - 1 - k) = false by simp; omega]
        simp
    · rw [if_neg hbk, hwb, show decide (p = 8 * bs.length - 1 - k) = false by simp; intro h; apply hbk; omega]
      simp
  · rw [if_neg (by omega), beNat_no_bit _ p (by rw [putB_len, wb_len]; omega), beNat_no_bit bs p (by omega)]
/-- A new prefix. -/
def FreshPf (B n : Nat) (bs : List UInt8) (k : Nat) (v : Value) (w : World) : Prop := ∃ A c, v = .agg #[.slice A n c, .string ⟨#[]⟩, .int .i64 k] ∧ w.ownsRow B 5 1 (.slice A n c) n (Lib.byteCells bs)
theorem FreshPf.keep {B n : Nat} {bs : List UInt8} {k : Nat} {v : Value} {w w' : World} (h : FreshPf B n bs k v w) (hb : Below w.heap.size w w') : FreshPf B n bs k v w' := by
  obtain ⟨A, c, h1, h2⟩ := h
  exact ⟨A, c, h1, own_below h2 hb⟩
/-- A new address without a zone, of the call's own. -/
def FreshOw (B n : Nat) (bs : List UInt8) (v : Value) (w : World) : Prop := ∃ A c, v = .agg #[.slice A n c, .string ⟨#[]⟩] ∧ w.ownsRow B 5 1 (.slice A n c) n (Lib.byteCells bs)
theorem FreshOw.keep {B n : Nat} {bs : List UInt8} {v : Value} {w w' : World} (h : FreshOw B n bs v w) (hb : Below w.heap.size w w') : FreshOw B n bs v w' := by
  obtain ⟨A, c, h1, h2⟩ := h
  exact ⟨A, c, h1, own_below h2 hb⟩
theorem FreshOw.own {B n : Nat} {bs : List UInt8} {A : Option Addr} {c : Nat} {w : World} (h : FreshOw B n bs (.agg #[.slice A n c, .string ⟨#[]⟩]) w) : w.ownsRow B 5 1 (.slice A n c) n (Lib.byteCells bs) := by
  obtain ⟨A', c', h1, h2⟩ := h
  injection h1 with h1
  simp only [Array.mk.injEq, List.cons.injEq, Value.slice.injEq, and_true] at h1
  obtain ⟨rfl, -, rfl⟩ := h1
  exact h2
theorem Boxes.setOther {w w1 : World} {xs : List (Array Value)} (h : Boxes w xs w1) {g : Nat} (hg : w.heap.size + xs.length ≤ g) (i : Nat) (u : Value) : Boxes w xs (w1.setCell ⟨g, i, none⟩ u) := by
  refine ⟨h.below.setCell (p := ⟨g, i, none⟩) (by show _ ≤ g; omega) u, by simp; exact h.size, fun j x hj i' => ?_, fun j x hj i' => ?_⟩
  · have hl := (List.getElem?_eq_some_iff.1 hj).1
    rw [World.cell?_of_block (Below.heap_setCell _ _ _ _ (by show w.heap.size + j ≠ g; omega))]
    exact h.cell j x hj i'
  · have hl := (List.getElem?_eq_some_iff.1 hj).1
    rw [World.frozen?_of_block (Below.heap_setCell _ _ _ _ (by show w.heap.size + j ≠ g; omega))]
    exact h.free j x hj i'
set_option maxRecDepth 100000 in
set_option maxHeartbeats 8000000 in
theorem half_c (A : Option Addr) (n c : Nat) (bs : List UInt8) (k : Nat) (u : Bool) (w : World) (hr : RB w A n bs) (hl : isLen n) (hk : k < 8 * n) :
    Calls Tryd.prog 19 #[.agg #[.slice A n c, .string ⟨#[]⟩, .int .i64 k], .bool u] w fun e w' => ∃ v, e = .returned v ∧ FreshPf w.heap.size n (halfB bs k u) (k + 1) v w' ∧ Below w.heap.size w w' := by
  have hn16 : 0 < n ∧ n ≤ 16 := by unfold isLen at hl; omega
  have hlen := hr.1
  have hbx := boxes2 (x0 := #[.slice A n c, .string ⟨#[]⟩, .int .i64 k]) (x1 := #[.slice none 0 0, .string ⟨#[]⟩, .int .i64 0]) w 29 29
  go_enter Tryd.func19, Tryd.ntmps19
  go_wp2_with fail
  refine (firstOf_c A n c bs k _ (hr.keep hbx.below) hl (by omega)).mono ?_
  rintro e w1 ⟨v, rfl, ⟨g, c1, rfl, hown⟩, hb⟩
  have hX := hbx.keep hb
  have hO1 := own_mono hown hbx.below.size
  have hgs : w.heap.size + 2 ≤ g := by have := own_row_ge hown g rfl; have := hbx.size; simp at *; omega
  clear hown hb hbx
  have j1 : IntKind.i64.wrap ((k : Int) + 1) = (k : Int) + 1 := by rw [IntKind.wrap_i64]; omega
  cases u with
  | false =>
    rw [halfB_false] at hO1
    have hr1 := RB.of_own hO1
    have hr1' : RB w1.drew (some ⟨g, 0, none⟩) n (halfB bs k false) := hr1
    go_wp2_with fail
    refine region_pick (fun w' => Boxes w [#[.slice A n c, .string ⟨#[]⟩, .int .i64 k], #[.slice none 0 0, .string ⟨#[]⟩, .int .i64 0]] w' ∧ RB w' (some ⟨g, 0, none⟩) n (halfB bs k false)) [(0, false, none), (2, false, none), (3, false, none), (4, false, none), (1, true, none), (5, false, none)] 6 (by kernel_rfl) (by kernel_rfl) (fun w1 w2 h hb => ⟨h.1.keep hb, h.2.keep hb⟩) (⟨hX.drew, hr1'⟩) ?_
    simp only [pickOps, List.getElem?_cons_zero, List.getElem?_cons_succ]
    repeat (first | (refine t_skip rfl ?_; (simp only [Act.put, List.setIfInBounds_toArray, List.set_cons_zero, List.set_cons_succ])) | (refine t_run ?_ rfl (fun w1 hw1 => ?_) ?_; rotate_left; (have r0 := hw1.1.b0; have r1 := j1; go_simp; try (with_reducible rfl)); (simp only [Act.put, List.setIfInBounds_toArray, List.set_cons_zero, List.set_cons_succ])))
    refine t_fresh ?_ ?_ (fun v w' => FreshOw (w.heap.size + 2) n (halfB bs k false) v w') (by rfl) (fun w1 hw1 => ?_) (fun v w w' h hb => h.keep hb) (fun w1 hw1 => ?_) ?_
    rotate_left 2
    (go_simp; refine ⟨?_, ?_⟩ <;> with_reducible rfl)
    (go_at_call 24; (with_reducible refine (plain_c _ n _ _ w1 hw1.2 (by simp) (by omega)).mono ?_); rintro e w2 ⟨A8, c8, rfl, hown8, hb8⟩; exact ⟨_, rfl, ⟨A8, c8, rfl, own_mono hown8 hw1.1.size⟩, hb8⟩)
    rintro v8 ⟨-, -, A8, c8, rfl, -⟩
    (simp only [Act.put, List.setIfInBounds_toArray, List.set_cons_zero, List.set_cons_succ])
    repeat (first | (refine t_skip rfl ?_; (simp only [Act.put, List.setIfInBounds_toArray, List.set_cons_zero, List.set_cons_succ])) | (refine t_run ?_ rfl (fun w1 hw1 => ?_) ?_; rotate_left; (have r0 := j1; go_simp; try (with_reducible rfl)); (simp only [Act.put, List.setIfInBounds_toArray, List.set_cons_zero, List.set_cons_succ])))
    intro w7 ⟨hw7, hf7⟩
    simp only [List.drop_succ_cons, List.drop_zero]
    have hO7 := hf7.own
    have hx7 := hw7.1
    have bb := hx7.below
    have r1 := hx7.b1
    have f1 := hx7.f1
    have HO7 := Lib.hid hO7
    clear hf7 hO7 hw7
    go_wp2
    refine bodyPost_ret (v := .agg #[.slice A8 n c8, .string ⟨#[]⟩, .int .i64 ((k : Int) + 1)]) (by simp [results, Tryd.results19, go_sem, r1]) rfl ?_
    refine ⟨_, rfl, ⟨A8, c8, by push_cast; rfl, own_mono (ownsRow_setCell_below (ownsRow_setCell_below (ownsRow_setCell_below HO7.out (by simp) _) (by simp) _) (by simp) _) (by omega)⟩, ?_⟩
    exact ((bb.setCell (p := ⟨w.heap.size + 1, 0, none⟩) (by simp) _).setCell (p := ⟨w.heap.size + 1, 1, none⟩) (by simp) _).setCell (p := ⟨w.heap.size + 1, 2, none⟩) (by simp) _
  | true =>
    obtain ⟨cur, hblk, -, -, -, -⟩ := own_rowBlk hO1
    have hltg := hblk.lt
    obtain ⟨g', hg', -, hcell⟩ := own_some hO1 (by omega)
    injection hg' with hg'
    injection hg' with hg'
    subst hg'
    have hcb := hcell (k / 8) _ (byteCells_get _ (k / 8) (by rw [wb_len]; omega))
    have hx : ((wb bs k false).getD (k / 8) 0).toNat < 256 := ((wb bs k false).getD (k / 8) 0).toBitVec.isLt
    obtain ⟨x1, x2⟩ := or_u8 _ (7 - k % 8) hx (by omega)
    have x3 := byteCells_set (wb bs k false) (k / 8) _ x2
    have hht := halfB_true bs k (by omega) _ rfl x2
    unfold putB at hht
    rw [hht] at x3
    clear hht hcell
    generalize ((wb bs k false).getD (k / 8) 0).toNat ||| 2 ^ (7 - k % 8) = y at *
    generalize ((wb bs k false).getD (k / 8) 0).toNat = x at *
    have x1' := x1
    rw [Int.one_mul] at x1'
    have j3 : IntKind.i64.wrap (7 - (k : Int) % 8) = 7 - (k : Int) % 8 := by rw [IntKind.wrap_i64]; omega
    have j4 : (0 : Int) ≤ (k : Int) / 8 ∧ (k : Int) / 8 < n := by omega
    have j5 : IntKind.i64.wrap ((k : Int) / 8) = (k : Int) / 8 := by rw [IntKind.wrap_i64]; omega
    have j6 : IntKind.i64.wrap ((k : Int) % 8) = (k : Int) % 8 := by rw [IntKind.wrap_i64]; omega
    have HJ := Lib.hid (And.intro x1 (And.intro x1' (And.intro j3 (And.intro j4 (And.intro j5 (And.intro j6 (And.intro (show ((k : Int) / 8).toNat = k / 8 by omega) (And.intro (show (7 - (k : Int) % 8).toNat = 7 - k % 8 by omega) (show (k : Int).tmod 8 = (k : Int) % 8 from Int.tmod_eq_emod_of_nonneg (by omega))))))))))
    clear x1 x1' j3 j4 j5 j6
    have hdr : Below w1.heap.size w1 w1.drew := ⟨rfl, rfl, rfl, Nat.le_refl _, fun _ _ => rfl⟩
    go_wp2_with fail
    refine region_tail (Below w1.heap.size w1) 13 (by kernel_rfl) (by kernel_rfl) (hdr) ?_
    simp only [List.take_succ_cons, List.take_zero, List.drop_succ_cons, List.drop_zero]
    repeat (first | (refine quiet_skip rfl ?_; (simp only [Act.put, List.setIfInBounds_toArray, List.set_cons_zero, List.set_cons_succ])) | (refine quiet_run ?_ rfl (fun w1 hw1 => ?_) ?_; rotate_left; (have r0 := HJ.out.1; have r1 := HJ.out.2.1; have r2 := HJ.out.2.2.1; have r3 := HJ.out.2.2.2.1; have r4 := HJ.out.2.2.2.2.1; have r5 := HJ.out.2.2.2.2.2.1; have r6 := HJ.out.2.2.2.2.2.2.1; have r7 := HJ.out.2.2.2.2.2.2.2.1; have r8 := HJ.out.2.2.2.2.2.2.2.2; have r9 := (hw1.cell (p := ⟨g, k / 8, none⟩) hltg).trans hcb; have r10 := (hX.keep hw1).b0; go_simp; try (with_reducible rfl)); (simp only [Act.put, List.setIfInBounds_toArray, List.set_cons_zero, List.set_cons_succ])))
    refine wpQuiet_nil ?_
    intro w5 hw5
    have hX5 := hX.keep hw5
    have hO5 := own_below hO1 hw5
    have hk5 := hblk.below hw5
    have hf5 := hk5.free
    have hl5 := hk5.lt
    have hc5 := (hw5.cell (p := ⟨g, k / 8, none⟩) hltg).trans hcb
    have hO6 := own_put hO5 (k / 8) (.int .u8 y)
    rw [x3] at hO6
    have hX6 := hX5.setOther (g := g) hgs (k / 8) (.int .u8 y)
    have hr6 := RB.of_own hO6
    clear hO6 hO5 hk5 hblk x3 hX hX5
    go_wp2_with fail
    generalize w5.setCell ⟨g, k / 8, none⟩ (.int .u8 y) = w6 at *
    have hr6' : RB w6.drew (some ⟨g, 0, none⟩) n (halfB bs k true) := hr6
    refine region_pick (fun w' => Boxes w [#[.slice A n c, .string ⟨#[]⟩, .int .i64 k], #[.slice none 0 0, .string ⟨#[]⟩, .int .i64 0]] w' ∧ RB w' (some ⟨g, 0, none⟩) n (halfB bs k true)) [(0, false, none), (2, false, none), (3, false, none), (4, false, none), (1, true, none), (5, false, none)] 6 (by kernel_rfl) (by kernel_rfl) (fun w1 w2 h hb => ⟨h.1.keep hb, h.2.keep hb⟩) (⟨hX6.drew, hr6'⟩) ?_
    simp only [pickOps, List.getElem?_cons_zero, List.getElem?_cons_succ]
    repeat (first | (refine t_skip rfl ?_; (simp only [Act.put, List.setIfInBounds_toArray, List.set_cons_zero, List.set_cons_succ])) | (refine t_run ?_ rfl (fun w1 hw1 => ?_) ?_; rotate_left; (have r0 := hw1.1.b0; have r1 := j1; go_simp; try (with_reducible rfl)); (simp only [Act.put, List.setIfInBounds_toArray, List.set_cons_zero, List.set_cons_succ])))
    refine t_fresh ?_ ?_ (fun v w' => FreshOw (w.heap.size + 2) n (halfB bs k true) v w') (by rfl) (fun w1 hw1 => ?_) (fun v w w' h hb => h.keep hb) (fun w1 hw1 => ?_) ?_
    rotate_left 2
    (go_simp; refine ⟨?_, ?_⟩ <;> with_reducible rfl)
    (go_at_call 24; (with_reducible refine (plain_c _ n _ _ w1 hw1.2 (by simp) (by omega)).mono ?_); rintro e w2 ⟨A8, c8, rfl, hown8, hb8⟩; exact ⟨_, rfl, ⟨A8, c8, rfl, own_mono hown8 hw1.1.size⟩, hb8⟩)
    rintro v8 ⟨-, -, A8, c8, rfl, -⟩
    (simp only [Act.put, List.setIfInBounds_toArray, List.set_cons_zero, List.set_cons_succ])
    repeat (first | (refine t_skip rfl ?_; (simp only [Act.put, List.setIfInBounds_toArray, List.set_cons_zero, List.set_cons_succ])) | (refine t_run ?_ rfl (fun w1 hw1 => ?_) ?_; rotate_left; (have r0 := j1; go_simp; try (with_reducible rfl)); (simp only [Act.put, List.setIfInBounds_toArray, List.set_cons_zero, List.set_cons_succ])))
    intro w7 ⟨hw7, hf7⟩
    simp only [List.drop_succ_cons, List.drop_zero]
    have hO7 := hf7.own
    have hx7 := hw7.1
    have bb := hx7.below
    have r1 := hx7.b1
    have f1 := hx7.f1
    have HO7 := Lib.hid hO7
    clear hf7 hO7 hw7
    go_wp2
    refine bodyPost_ret (v := .agg #[.slice A8 n c8, .string ⟨#[]⟩, .int .i64 ((k : Int) + 1)]) (by simp [results, Tryd.results19, go_sem, r1]) rfl ?_
    refine ⟨_, rfl, ⟨A8, c8, by push_cast; rfl, own_mono (ownsRow_setCell_below (ownsRow_setCell_below (ownsRow_setCell_below HO7.out (by simp) _) (by simp) _) (by simp) _) (by omega)⟩, ?_⟩
    exact ((bb.setCell (p := ⟨w.heap.size + 1, 0, none⟩) (by simp) _).setCell (p := ⟨w.heap.size + 1, 1, none⟩) (by simp) _).setCell (p := ⟨w.heap.size + 1, 2, none⟩) (by simp) _
end Go.Proofs.YtckfgdohpmllmaaDoor
