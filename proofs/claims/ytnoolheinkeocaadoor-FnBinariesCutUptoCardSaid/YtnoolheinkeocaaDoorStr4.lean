/-
  Contracts: Prefix.AppendTo at valid prefixes.
-/
import Derived.Test.YtnoolheinkeocaaDoorStr3
namespace Go.Proofs.YtnoolheinkeocaaDoor
open Go Go.RowKit
set_option maxRecDepth 100000 in
set_option maxHeartbeats 8000000 in
theorem pfApp4 (B : Nat) (v : Value) (t : List UInt8) (h l k : Nat) (z : ZP) (W0 W1 w : World) (hb : TB B W0 W1 w v t) (hz : Zs W0 z) (hWB : W0.heap.size ≤ B) (hlen : t.length + 100 ≤ 140737488355328) (hk : k ≤ 128) :
    Calls Tryd.prog 20 #[.agg #[.int .u64 h, .int .u64 l, .pointer (z.ptr (some false)), .int .u8 ((k : Int) + 1)], v] w fun e w' => ∃ v', e = .returned v' ∧ TB B W0 W1 w' v' (t ++ (v4t l ++ 47 :: Tx.decT k)) := by
  obtain ⟨i0, hi, hz0, hz1, hz2⟩ := info_parts infoU8
  have hl1 := v4t_le l
  have HZ := Lib.hid hz
  clear hz
  rw [ptr4]
  go_enter Tryd.func20, Tryd.ntmps20
  go_wp2_with fail
  have hx0 := heap_alloc_new w (.cells #[.int .u64 h, .int .u64 l, .pointer (some ⟨z.b4, z.o4, none⟩), .int .u8 ((k : Int) + 1)] 58)
  have hb0 : Below w.heap.size w (w.alloc (.cells #[.int .u64 h, .int .u64 l, .pointer (some ⟨z.b4, z.o4, none⟩), .int .u8 ((k : Int) + 1)] 58)) := (Below.refl _ _).alloc (Nat.le_refl _) _
  generalize w.alloc (.cells #[.int .u64 h, .int .u64 l, .pointer (some ⟨z.b4, z.o4, none⟩), .int .u8 ((k : Int) + 1)] 58) = w1 at *
  obtain ⟨g, hg⟩ : ∃ g, g = w.heap.size := ⟨_, rfl⟩
  rw [← hg] at hx0 ⊢
  have HG := Lib.hid hg
  have hbx : Blk w1 g 58 #[.int .u64 h, .int .u64 l, .pointer (some ⟨z.b4, z.o4, none⟩), .int .u8 ((k : Int) + 1)] := hx0
  clear hx0 hg
  refine (pfIsZero_c _ _ k _ w1 hk).mono ?_
  rintro e wy ⟨rfl, hby⟩
  have hbxy := hbx.below hby
  have bY := hb0.trans (hby.mono hb0.size)
  have rY := hbxy.cell
  clear hbx hby hb0
  go_wp2_with fail
  refine (pfValid2_c _ _ _ k wy).mono ?_
  rintro e w2 ⟨rfl, hb2⟩
  have hbx3 := hbxy.below hb2
  have b2 := bY.trans (hb2.mono bY.size)
  have r2 := hbx3.cell
  have hp2 : TB B W0 W1 w2 v t := hb.below b2
  have h2 := hp2.anew
  have hz2' := HZ.out.keep (hp2.low.mono hWB)
  obtain ⟨s0, s1, s2, q4, q6, z4, z6, z0, hne, hne', p4, p6⟩ := hz2'.lay
  have HP := Lib.hid hp2
  have HZ2 := Lib.hid hz2'
  clear hb hb2 b2 bY hbxy hz2' hp2 rY
  go_wp2_with fail
  refine (to4_c B _ t h l _ W0 w2 w2 h2 (by omega)).mono ?_
  rintro e w4 ⟨v4, rfl, h4⟩
  clear h2
  have bx4 := h4.blk hbx3 (by decide)
  have r4 := bx4.cell
  clear r2
  go_wp2_with (at_builtin; (refine app_byte i0 hi hz0 hz1 hz2 rfl _ _ rfl rfl 47 _ rfl h4 rfl (by first | omega | (simp; omega)) ?_; intro v20 w20 h20; have r20 := (h20.blk hbx3 (by decide)).cell))
  clear r4 bx4 h4
  refine (pfBits2_c _ _ _ k hk w20).mono ?_
  rintro e w21 ⟨rfl, hb21⟩
  have h21 := h20.below hb21
  have u1 : IntKind.u8.wrap (k : Int) = k := by show (k : Int) % 256 = k; omega
  clear h20 hb21 r20
  go_wp2_with fail
  refine (decimal_c B _ _ k W0 w2 w21 h21 (by first | omega | (simp; omega)) (by omega)).mono ?_
  rintro e w22 ⟨v22, rfl, h22⟩
  have H22 := Lib.hid h22
  clear h21 h22
  go_wp2
  go_returns
  refine ⟨_, rfl, HP.out.back ?_⟩
  have hx := H22.out
  simpa [List.append_assoc, Tx.pre6] using hx
set_option maxRecDepth 100000 in
set_option maxHeartbeats 8000000 in
theorem pfApp46 (B : Nat) (v : Value) (t : List UInt8) (h l k : Nat) (z : ZP) (W0 W1 w : World) (hb : TB B W0 W1 w v t) (hz : Zs W0 z) (hWB : W0.heap.size ≤ B) (hlen : t.length + 100 ≤ 140737488355328) (hk : k ≤ 128) (h0 : h = 0) (h1 : l / 4294967296 = 65535) :
    Calls Tryd.prog 20 #[.agg #[.int .u64 h, .int .u64 l, .pointer (z.ptr (some true)), .int .u8 ((k : Int) + 1)], v] w fun e w' => ∃ v', e = .returned v' ∧ TB B W0 W1 w' v' (t ++ ((Tx.pre6 ++ v4t l) ++ 47 :: Tx.decT k)) := by
  obtain ⟨i0, hi, hz0, hz1, hz2⟩ := info_parts infoU8
  have hl1 := v4t_le l
  have HV := Lib.hid (show (some true == some true && (decide (h = 0) && decide (l / 4294967296 = 65535))) = true by simp [h0, h1])
  have H01 := Lib.hid (And.intro h0 h1)
  clear h0 h1
  have HZ := Lib.hid hz
  clear hz
  rw [ptr6]
  go_enter Tryd.func20, Tryd.ntmps20
  go_wp2_with fail
  have hx0 := heap_alloc_new w (.cells #[.int .u64 h, .int .u64 l, .pointer (some ⟨z.b6, z.o6, none⟩), .int .u8 ((k : Int) + 1)] 58)
  have hb0 : Below w.heap.size w (w.alloc (.cells #[.int .u64 h, .int .u64 l, .pointer (some ⟨z.b6, z.o6, none⟩), .int .u8 ((k : Int) + 1)] 58)) := (Below.refl _ _).alloc (Nat.le_refl _) _
  generalize w.alloc (.cells #[.int .u64 h, .int .u64 l, .pointer (some ⟨z.b6, z.o6, none⟩), .int .u8 ((k : Int) + 1)] 58) = w1 at *
  obtain ⟨g, hg⟩ : ∃ g, g = w.heap.size := ⟨_, rfl⟩
  rw [← hg] at hx0 ⊢
  have HG := Lib.hid hg
  have hbx : Blk w1 g 58 #[.int .u64 h, .int .u64 l, .pointer (some ⟨z.b6, z.o6, none⟩), .int .u8 ((k : Int) + 1)] := hx0
  clear hx0 hg
  refine (pfIsZero_c _ _ k _ w1 hk).mono ?_
  rintro e wy ⟨rfl, hby⟩
  have hbxy := hbx.below hby
  have bY := hb0.trans (hby.mono hb0.size)
  have rY := hbxy.cell
  clear hbx hby hb0
  go_wp2_with fail
  refine (pfValid2_c _ _ _ k wy).mono ?_
  rintro e w2 ⟨rfl, hb2⟩
  have hbx3 := hbxy.below hb2
  have b2 := bY.trans (hb2.mono bY.size)
  have r2 := hbx3.cell
  have hp2 : TB B W0 W1 w2 v t := hb.below b2
  have h2 := hp2.anew
  have hz2' := HZ.out.keep (hp2.low.mono hWB)
  obtain ⟨s0, s1, s2, q4, q6, z4, z6, z0, hne, hne', p4, p6⟩ := hz2'.lay
  have HP := Lib.hid hp2
  have HZ2 := Lib.hid hz2'
  clear hb hb2 b2 bY hbxy hz2' hp2 rY
  go_wp2_with fail
  rw [← ptr6]
  refine (is4in6_c h l _ z w2 HZ2.out).mono ?_
  rintro e wa ⟨rfl, hba⟩
  rw [HV.out]
  have hbxa := hbx3.below hba
  have ra := hbxa.cell
  have ha := h2.below hba
  clear hba r2
  go_wp2_with (at_builtin; (refine app_text i0 hi hz0 hz1 hz2 rfl _ _ rfl rfl _ ha rfl (by simp [ByteArray.size]; omega) ?_; intro v4 w4 h4; have r4 := (h4.blk hbx3 (by decide)).cell))
  rw [← ptr6]
  have hza := (HZ.out.keep (h4.low.mono hWB))
  refine (unmap_c h l z w4 hza H01.out.1 H01.out.2).mono ?_
  rintro e w5 ⟨rfl, hb5⟩
  have h5 := h4.below hb5
  have r5 := (h5.blk hbx3 (by decide)).cell
  clear h2 ha h4 hb5 r4 ra hza
  go_wp2_with fail
  refine (to4_c B _ _ h l _ W0 w2 w5 h5 (by simp; omega)).mono ?_
  rintro e w6 ⟨v6, rfl, h6⟩
  clear h5
  have bx6 := h6.blk hbx3 (by decide)
  have r6 := bx6.cell
  clear r5
  go_wp2_with (at_builtin; (refine app_byte i0 hi hz0 hz1 hz2 rfl _ _ rfl rfl 47 _ rfl h6 rfl (by first | omega | (simp; omega)) ?_; intro v20 w20 h20; have r20 := (h20.blk hbx3 (by decide)).cell))
  clear r6 bx6 h6
  refine (pfBits2_c _ _ _ k hk w20).mono ?_
  rintro e w21 ⟨rfl, hb21⟩
  have h21 := h20.below hb21
  have u1 : IntKind.u8.wrap (k : Int) = k := by show (k : Int) % 256 = k; omega
  clear h20 hb21 r20
  go_wp2_with fail
  refine (decimal_c B _ _ k W0 w2 w21 h21 (by first | omega | (simp; omega)) (by omega)).mono ?_
  rintro e w22 ⟨v22, rfl, h22⟩
  have H22 := Lib.hid h22
  clear h21 h22
  go_wp2
  go_returns
  refine ⟨_, rfl, HP.out.back ?_⟩
  have hx := H22.out
  simpa [List.append_assoc, Tx.pre6] using hx
set_option maxRecDepth 100000 in
set_option maxHeartbeats 8000000 in
theorem pfApp6 (B : Nat) (v : Value) (t : List UInt8) (h l k : Nat) (z : ZP) (W0 W1 w : World) (hb : TB B W0 W1 w v t) (hz : Zs W0 z) (hWB : W0.heap.size ≤ B) (hlen : t.length + 100 ≤ 140737488355328) (hk : k ≤ 128) (h0 : ¬ (h = 0 ∧ l / 4294967296 = 65535)) :
    Calls Tryd.prog 20 #[.agg #[.int .u64 h, .int .u64 l, .pointer (z.ptr (some true)), .int .u8 ((k : Int) + 1)], v] w fun e w' => ∃ v', e = .returned v' ∧ TB B W0 W1 w' v' (t ++ (Tx.v6T (gsOf h l) (Tx.runOf (gsOf h l)) ++ 47 :: Tx.decT k)) := by
  obtain ⟨i0, hi, hz0, hz1, hz2⟩ := info_parts infoU8
  have HV := Lib.hid (show (some true == some true && (decide (h = 0) && decide (l / 4294967296 = 65535))) = false by rw [show (decide (h = 0) && decide (l / 4294967296 = 65535)) = decide (h = 0 ∧ l / 4294967296 = 65535) by simp, decide_eq_false h0]; rfl)
  clear h0
  have HZ := Lib.hid hz
  clear hz
  rw [ptr6]
  go_enter Tryd.func20, Tryd.ntmps20
  go_wp2_with fail
  have hx0 := heap_alloc_new w (.cells #[.int .u64 h, .int .u64 l, .pointer (some ⟨z.b6, z.o6, none⟩), .int .u8 ((k : Int) + 1)] 58)
  have hb0 : Below w.heap.size w (w.alloc (.cells #[.int .u64 h, .int .u64 l, .pointer (some ⟨z.b6, z.o6, none⟩), .int .u8 ((k : Int) + 1)] 58)) := (Below.refl _ _).alloc (Nat.le_refl _) _
  generalize w.alloc (.cells #[.int .u64 h, .int .u64 l, .pointer (some ⟨z.b6, z.o6, none⟩), .int .u8 ((k : Int) + 1)] 58) = w1 at *
  obtain ⟨g, hg⟩ : ∃ g, g = w.heap.size := ⟨_, rfl⟩
  rw [← hg] at hx0 ⊢
  have HG := Lib.hid hg
  have hbx : Blk w1 g 58 #[.int .u64 h, .int .u64 l, .pointer (some ⟨z.b6, z.o6, none⟩), .int .u8 ((k : Int) + 1)] := hx0
  clear hx0 hg
  refine (pfIsZero_c _ _ k _ w1 hk).mono ?_
  rintro e wy ⟨rfl, hby⟩
  have hbxy := hbx.below hby
  have bY := hb0.trans (hby.mono hb0.size)
  have rY := hbxy.cell
  clear hbx hby hb0
  go_wp2_with fail
  refine (pfValid2_c _ _ _ k wy).mono ?_
  rintro e w2 ⟨rfl, hb2⟩
  have hbx3 := hbxy.below hb2
  have b2 := bY.trans (hb2.mono bY.size)
  have r2 := hbx3.cell
  have hp2 : TB B W0 W1 w2 v t := hb.below b2
  have h2 := hp2.anew
  have hz2' := HZ.out.keep (hp2.low.mono hWB)
  obtain ⟨s0, s1, s2, q4, q6, z4, z6, z0, hne, hne', p4, p6⟩ := hz2'.lay
  have HP := Lib.hid hp2
  have HZ2 := Lib.hid hz2'
  clear hb hb2 b2 bY hbxy hz2' hp2 rY
  go_wp2_with fail
  rw [← ptr6]
  refine (is4in6_c h l _ z w2 HZ2.out).mono ?_
  rintro e wa ⟨rfl, hba⟩
  rw [HV.out]
  have hbxa := hbx3.below hba
  have ra := hbxa.cell
  have ha := h2.below hba
  clear hba r2
  go_wp2_with fail
  rw [← ptr6]
  refine (to6_c B _ t h l z W0 w2 wa ha HZ.out hWB (by omega)).mono ?_
  rintro e w4 ⟨v4, rfl, h4⟩
  have hl6 := v6T_le h l
  have r9 := ra
  clear h2 ha ra
  have bx4 := h4.blk hbx3 (by decide)
  have r4 := bx4.cell
  clear r9
  go_wp2_with (at_builtin; (refine app_byte i0 hi hz0 hz1 hz2 rfl _ _ rfl rfl 47 _ rfl h4 rfl (by first | omega | (simp; omega)) ?_; intro v20 w20 h20; have r20 := (h20.blk hbx3 (by decide)).cell))
  clear r4 bx4 h4
  refine (pfBits2_c _ _ _ k hk w20).mono ?_
  rintro e w21 ⟨rfl, hb21⟩
  have h21 := h20.below hb21
  have u1 : IntKind.u8.wrap (k : Int) = k := by show (k : Int) % 256 = k; omega
  clear h20 hb21 r20
  go_wp2_with fail
  refine (decimal_c B _ _ k W0 w2 w21 h21 (by first | omega | (simp; omega)) (by omega)).mono ?_
  rintro e w22 ⟨v22, rfl, h22⟩
  have H22 := Lib.hid h22
  clear h21 h22
  go_wp2
  go_returns
  refine ⟨_, rfl, HP.out.back ?_⟩
  have hx := H22.out
  simpa [List.append_assoc, Tx.pre6] using hx
theorem pfApp_c (B : Nat) (v : Value) (t : List UInt8) (bs : List UInt8) (k : Nat) (z : ZP) (W0 W1 w : World) (hb : TB B W0 W1 w v t) (hz : Zs W0 z) (hWB : W0.heap.size ≤ B) (hlen : t.length + 100 ≤ 140737488355328) (hl : isLen bs.length) (hk : k ≤ 8 * bs.length) :
    Calls Tryd.prog 20 #[.agg #[.int .u64 (adOf bs).h, .int .u64 (adOf bs).l, .pointer (z.ptr (adOf bs).k), .int .u8 ((k : Int) + 1)], v] w fun e w' => ∃ v', e = .returned v' ∧ TB B W0 W1 w' v' (t ++ (Tx.adT bs ++ 47 :: Tx.decT k)) := by
  have hk128 : k ≤ 128 := by unfold isLen at hl; omega
  rw [← ipT_ad hl]
  rcases hl with hl | hl
  · have e : (adOf bs).k = some false := by rw [ad4 hl]
    rw [e]
    exact pfApp4 B v t _ _ k z W0 W1 w hb hz hWB hlen hk128
  · have e : (adOf bs).k = some true := by rw [ad16 hl]
    rw [e]
    unfold ipT
    simp only
    by_cases h : (adOf bs).h = 0 ∧ (adOf bs).l / 4294967296 = 65535
    · rw [if_pos h]; exact pfApp46 B v t _ _ k z W0 W1 w hb hz hWB hlen hk128 h.1 h.2
    · rw [if_neg h]; exact pfApp6 B v t _ _ k z W0 W1 w hb hz hWB hlen hk128 h
end Go.Proofs.YtnoolheinkeocaaDoor
