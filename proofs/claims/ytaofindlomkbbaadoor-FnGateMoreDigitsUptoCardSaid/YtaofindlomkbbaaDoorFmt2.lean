/-
  Contracts: v6u16, Is4In6, Unmap, appendTo4.
-/
import Derived.Test.YtaofindlomkbbaaDoorFmt
namespace Go.Proofs.YtaofindlomkbbaaDoor
open Go Go.RowKit
@[go_sem] theorem idx2_0 (p q : Option Addr) (w : World) : (Instr.index 117 (.agg #[.pointer p, .pointer q]) (.int .u8 0)).run Tryd.prog w = .ok (.pointer p) w := by kernel_rfl
@[go_sem] theorem idx2_1 (p q : Option Addr) (w : World) : (Instr.index 117 (.agg #[.pointer p, .pointer q]) (.int .u8 1)).run Tryd.prog w = .ok (.pointer q) w := by kernel_rfl
set_option maxRecDepth 100000 in
theorem v6_c (h l : Nat) (k : Option Addr) (i : Nat) (hi : i < 8) (w : World) :
    Calls Tryd.prog 54 #[.agg #[.int .u64 h, .int .u64 l, .pointer k], .int .u8 i] w fun e w' => e = .returned (.int .u16 (v6n h l i)) ∧ Below w.heap.size w w' := by
  match i, hi with
  | 0, _ =>
    rw [show ((v6n h l 0 : Nat) : Int) = (h : Int) / 281474976710656 % 65536 by unfold v6n; first | (simp; done) | (simp; omega)]
    go_enter Tryd.func54, Tryd.ntmps54
    go_wp2_with fail
    refine (halves_c _ _ _).mono ?_
    rintro e w1 ⟨rfl, hb⟩
    have hw1 := (boxes1 _ _).keep hb
    have bb := hw1.below
    have r0 := hw1.b0
    go_wp2
    go_returns
    exact ⟨rfl, by go_grown⟩
  | 1, _ =>
    rw [show ((v6n h l 1 : Nat) : Int) = (h : Int) / 4294967296 % 65536 by unfold v6n; first | (simp; done) | (simp; omega)]
    go_enter Tryd.func54, Tryd.ntmps54
    go_wp2_with fail
    refine (halves_c _ _ _).mono ?_
    rintro e w1 ⟨rfl, hb⟩
    have hw1 := (boxes1 _ _).keep hb
    have bb := hw1.below
    have r0 := hw1.b0
    go_wp2
    go_returns
    exact ⟨rfl, by go_grown⟩
  | 2, _ =>
    rw [show ((v6n h l 2 : Nat) : Int) = (h : Int) / 65536 % 65536 by unfold v6n; first | (simp; done) | (simp; omega)]
    go_enter Tryd.func54, Tryd.ntmps54
    go_wp2_with fail
    refine (halves_c _ _ _).mono ?_
    rintro e w1 ⟨rfl, hb⟩
    have hw1 := (boxes1 _ _).keep hb
    have bb := hw1.below
    have r0 := hw1.b0
    go_wp2
    go_returns
    exact ⟨rfl, by go_grown⟩
  | 3, _ =>
    rw [show ((v6n h l 3 : Nat) : Int) = (h : Int) % 65536 by unfold v6n; first | (simp; done) | (simp; omega)]
    go_enter Tryd.func54, Tryd.ntmps54
    go_wp2_with fail
    refine (halves_c _ _ _).mono ?_
    rintro e w1 ⟨rfl, hb⟩
    have hw1 := (boxes1 _ _).keep hb
    have bb := hw1.below
    have r0 := hw1.b0
    go_wp2
    go_returns
    exact ⟨rfl, by go_grown⟩
  | 4, _ =>
    rw [show ((v6n h l 4 : Nat) : Int) = (l : Int) / 281474976710656 % 65536 by unfold v6n; first | (simp; done) | (simp; omega)]
    go_enter Tryd.func54, Tryd.ntmps54
    go_wp2_with fail
    refine (halves_c _ _ _).mono ?_
    rintro e w1 ⟨rfl, hb⟩
    have hw1 := (boxes1 _ _).keep hb
    have bb := hw1.below
    have r0 := hw1.b0
    go_wp2
    go_returns
    exact ⟨rfl, by go_grown⟩
  | 5, _ =>
    rw [show ((v6n h l 5 : Nat) : Int) = (l : Int) / 4294967296 % 65536 by unfold v6n; first | (simp; done) | (simp; omega)]
    go_enter Tryd.func54, Tryd.ntmps54
    go_wp2_with fail
    refine (halves_c _ _ _).mono ?_
    rintro e w1 ⟨rfl, hb⟩
    have hw1 := (boxes1 _ _).keep hb
    have bb := hw1.below
    have r0 := hw1.b0
    go_wp2
    go_returns
    exact ⟨rfl, by go_grown⟩
  | 6, _ =>
    rw [show ((v6n h l 6 : Nat) : Int) = (l : Int) / 65536 % 65536 by unfold v6n; first | (simp; done) | (simp; omega)]
    go_enter Tryd.func54, Tryd.ntmps54
    go_wp2_with fail
    refine (halves_c _ _ _).mono ?_
    rintro e w1 ⟨rfl, hb⟩
    have hw1 := (boxes1 _ _).keep hb
    have bb := hw1.below
    have r0 := hw1.b0
    go_wp2
    go_returns
    exact ⟨rfl, by go_grown⟩
  | 7, _ =>
    rw [show ((v6n h l 7 : Nat) : Int) = (l : Int) % 65536 by unfold v6n; first | (simp; done) | (simp; omega)]
    go_enter Tryd.func54, Tryd.ntmps54
    go_wp2_with fail
    refine (halves_c _ _ _).mono ?_
    rintro e w1 ⟨rfl, hb⟩
    have hw1 := (boxes1 _ _).keep hb
    have bb := hw1.below
    have r0 := hw1.b0
    go_wp2
    go_returns
    exact ⟨rfl, by go_grown⟩
theorem is4in6_c (h l : Nat) (k : Option Bool) (z : ZP) (w : World) (hz : Zs w z) :
    Calls Tryd.prog 36 #[.agg #[.int .u64 h, .int .u64 l, .pointer (z.ptr k)]] w fun e w' => e = .returned (.bool (k == some true && (decide (h = 0) && decide (l / 4294967296 = 65535)))) ∧ Below w.heap.size w w' := by
  obtain ⟨x, hx⟩ : ∃ x, x = (k == some true && (decide (h = 0) && decide (l / 4294967296 = 65535))) := ⟨_, rfl⟩
  rw [← hx]
  have HX := Lib.hid hx
  clear hx
  go_enter Tryd.func36, Tryd.ntmps36
  go_wp2_with fail
  refine (is6_c _ _ _ z _ (hz.keep (boxes1 _ _).below)).mono ?_
  rintro e w1 ⟨rfl, hb⟩
  have hw1 := (boxes1 _ _).keep hb
  have bb := hw1.below
  have r0 := hw1.b0
  by_cases hk : k = some true
  · subst hk
    rw [ptr6] at r0 ⊢
    by_cases h0 : h = 0
    · subst h0
      have e2 : ((l : Int) / 4294967296 == 65535) = x := by
        rw [HX.out, Bool.eq_iff_iff]; simp; omega
      go_wp2
      go_returns
      exact ⟨rfl, by go_grown⟩
    · have e1 : ((h : Int) == 0) = false := by simp; omega
      have e2 : x = false := by rw [HX.out]; simp [h0]
      subst e2
      clear h0
      go_wp2
      go_returns
      exact ⟨rfl, by go_grown⟩
  · have hk' : (k == some true) = false := by simp [hk]
    have e2 : x = false := by rw [HX.out, hk']; rfl
    subst e2
    clear hk
    go_wp2
    go_returns
    exact ⟨rfl, by go_grown⟩
theorem unmap_c (h l : Nat) (z : ZP) (w : World) (hz : Zs w z) (h0 : h = 0) (h1 : l / 4294967296 = 65535) :
    Calls Tryd.prog 53 #[.agg #[.int .u64 h, .int .u64 l, .pointer (z.ptr (some true))]] w fun e w' => e = .returned (.agg #[.int .u64 h, .int .u64 l, .pointer (z.ptr (some false))]) ∧ Below w.heap.size w w' := by
  have hv : (some true == some true && (decide (h = 0) && decide (l / 4294967296 = 65535))) = true := by simp [h0, h1]
  clear h0 h1
  rw [ptr4]
  go_enter Tryd.func53, Tryd.ntmps53
  go_wp2_with fail
  refine (is4in6_c _ _ _ z _ (hz.keep (boxes2 _ _ _).below)).mono ?_
  rintro e w1 ⟨rfl, hb⟩
  rw [hv]
  have hw1 := (boxes2 _ _ _).keep hb
  have bb := hw1.below
  have r0 := hw1.b0
  have r1 := hw1.b1
  have f0 := hw1.f0
  have f1 := hw1.f1
  have z4 := (hz.keep bb).z4
  clear hb hv
  go_wp2
  refine bodyPost_ret (v := .agg #[.int .u64 h, .int .u64 l, .pointer (some ⟨z.b4, z.o4, none⟩)]) (by simp [results, Tryd.results53, go_sem, r1]) rfl ?_
  exact ⟨rfl, by go_grown⟩
/-- The bytes of an IPv4 address as the library has it. -/
def v4t (l : Nat) : List UInt8 := Tx.decT (v4n l 0) ++ 46 :: (Tx.decT (v4n l 1) ++ 46 :: (Tx.decT (v4n l 2) ++ 46 :: Tx.decT (v4n l 3)))
theorem v4n_lt (l i : Nat) : v4n l i < 256 := Nat.mod_lt _ (by decide)
theorem v6n_lt (h l i : Nat) : v6n h l i < 65536 := Nat.mod_lt _ (by decide)
theorem dec_le (x : Nat) : (Tx.decT x).length ≤ 3 := by
  unfold Tx.decT
  simp only [List.length_append, List.length_cons, List.length_nil]
  split <;> split <;> simp
theorem hex_le (x : Nat) : (Tx.hexT x).length ≤ 4 := by
  unfold Tx.hexT
  simp only [List.length_append, List.length_cons, List.length_nil]
  split <;> split <;> split <;> simp
set_option maxRecDepth 100000 in
set_option maxHeartbeats 4000000 in
theorem to4_c (B : Nat) (v : Value) (t : List UInt8) (h l : Nat) (k : Option Addr) (W0 W1 w : World) (hb : TB B W0 W1 w v t) (hlen : t.length + 15 ≤ 140737488355328) :
    Calls Tryd.prog 35 #[.agg #[.int .u64 h, .int .u64 l, .pointer k], v] w fun e w' => ∃ v', e = .returned v' ∧ TB B W0 W1 w' v' (t ++ v4t l) := by
  obtain ⟨i0, hi, hz0, hz1, hz2⟩ := info_parts infoU8
  have d0 := dec_le (v4n l 0)
  have d1 := dec_le (v4n l 1)
  have d2 := dec_le (v4n l 2)
  have d3 := dec_le (v4n l 3)
  obtain ⟨w1, hw1⟩ : ∃ w1, w1 = w.alloc (.cells #[.int .u64 h, .int .u64 l, .pointer k] 54) := ⟨_, rfl⟩
  have hbx : Blk w1 w.heap.size 54 #[.int .u64 h, .int .u64 l, .pointer k] := by rw [hw1]; exact heap_alloc_new _ _
  have h1 : TB B W0 w1 w1 v t := by rw [hw1]; exact (hb.alloc _).anew
  have hb1 : Below w.heap.size w w1 := by rw [hw1]; exact (Below.refl _ _).alloc (Nat.le_refl _) _
  obtain ⟨g, hg⟩ : ∃ g, g = w.heap.size := ⟨_, rfl⟩
  have HB := Lib.hid (And.intro hb hb1)
  have HW := Lib.hid hw1
  rw [← hg] at hbx
  have HG := Lib.hid hg
  clear hb hb1 hw1 hg
  go_enter Tryd.func35, Tryd.ntmps35
  go_wp2_with fail
  rw [← HW.out, ← HG.out]
  refine (v4_c h l k 0 (by decide) w1).mono ?_
  rintro e w2 ⟨rfl, b2⟩
  have h2 := h1.below b2
  clear b2
  go_wp2_with fail
  refine (decimal_c B _ _ (v4n l 0) W0 w1 w2 h2 (by first | omega | (simp; omega)) (v4n_lt l 0)).mono ?_
  rintro e w3 ⟨v3, rfl, h3⟩
  have r3 := (h3.blk hbx (by decide)).cell
  clear h1 h2
  go_wp2_with (at_builtin; (refine app_byte i0 hi hz0 hz1 hz2 rfl _ _ rfl rfl 46 _ rfl h3 rfl (by first | omega | (simp; omega)) ?_; intro v4 w4 h4; have r4 := (h4.blk hbx (by decide)).cell))
  clear r3 h3
  refine (v4_c h l k 1 (by decide) w4).mono ?_
  rintro e w5 ⟨rfl, b5⟩
  have h5 := h4.below b5
  clear b5
  go_wp2_with fail
  refine (decimal_c B _ _ (v4n l 1) W0 w1 w5 h5 (by first | omega | (simp; omega)) (v4n_lt l 1)).mono ?_
  rintro e w6 ⟨v6, rfl, h6⟩
  have r6 := (h6.blk hbx (by decide)).cell
  clear h4 h5
  go_wp2_with (at_builtin; (refine app_byte i0 hi hz0 hz1 hz2 rfl _ _ rfl rfl 46 _ rfl h6 rfl (by first | omega | (simp; omega)) ?_; intro v7 w7 h7; have r7 := (h7.blk hbx (by decide)).cell))
  clear r6 h6
  refine (v4_c h l k 2 (by decide) w7).mono ?_
  rintro e w8 ⟨rfl, b8⟩
  have h8 := h7.below b8
  clear b8
  go_wp2_with fail
  refine (decimal_c B _ _ (v4n l 2) W0 w1 w8 h8 (by first | omega | (simp; omega)) (v4n_lt l 2)).mono ?_
  rintro e w9 ⟨v9, rfl, h9⟩
  have r9 := (h9.blk hbx (by decide)).cell
  clear h7 h8
  go_wp2_with (at_builtin; (refine app_byte i0 hi hz0 hz1 hz2 rfl _ _ rfl rfl 46 _ rfl h9 rfl (by first | omega | (simp; omega)) ?_; intro v10 w10 h10; have r10 := (h10.blk hbx (by decide)).cell))
  clear r9 h9
  refine (v4_c h l k 3 (by decide) w10).mono ?_
  rintro e w11 ⟨rfl, b11⟩
  have h11 := h10.below b11
  clear b11
  go_wp2_with fail
  refine (decimal_c B _ _ (v4n l 3) W0 w1 w11 h11 (by first | omega | (simp; omega)) (v4n_lt l 3)).mono ?_
  rintro e w12 ⟨v12, rfl, h12⟩
  go_wp2
  go_returns
  obtain ⟨hb, hb1⟩ := HB.out
  refine ⟨_, rfl, hb.back ?_⟩
  have h12 := TB.past hb1 h12
  simpa [v4t] using h12
end Go.Proofs.YtaofindlomkbbaaDoor
