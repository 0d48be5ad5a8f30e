/-
  Contracts: Prefix.String at valid prefixes.
-/
import Derived.Test.YtnoolheinkeocaaGreatDoorStr
namespace Go.Proofs.YtnoolheinkeocaaGreatDoor
open Go Go.RowKit
set_option maxRecDepth 100000 in
set_option maxHeartbeats 8000000 in
theorem pfStr4 (h l k : Nat) (z : ZP) (w : World) (hz : Zs w z) (hk : k ≤ 128) :
    Calls Tryz.prog 12 #[.agg #[.int .u64 h, .int .u64 l, .pointer (z.ptr (some false)), .int .u8 ((k : Int) + 1)]] w fun e w' => e = .returned (.string ⟨(v4t l ++ 47 :: Tx.decT k).toArray⟩) ∧ Below w.heap.size w w' := by
  obtain ⟨i0, hi, hz0, hz1, hz2⟩ := info_parts infoU8
  have hl1 := v4t_le l
  have HZ := Lib.hid hz
  clear hz
  rw [ptr4]
  go_enter Tryz.func12, Tryz.ntmps12
  go_wp2_with fail
  have hx0 := heap_alloc_new w (.cells #[.int .u64 h, .int .u64 l, .pointer (some ⟨z.b4, z.o4, none⟩), .int .u8 ((k : Int) + 1)] 54)
  have hb0 : Below w.heap.size w (w.alloc (.cells #[.int .u64 h, .int .u64 l, .pointer (some ⟨z.b4, z.o4, none⟩), .int .u8 ((k : Int) + 1)] 54)) := (Below.refl _ _).alloc (Nat.le_refl _) _
  generalize w.alloc (.cells #[.int .u64 h, .int .u64 l, .pointer (some ⟨z.b4, z.o4, none⟩), .int .u8 ((k : Int) + 1)] 54) = w1 at *
  obtain ⟨g, hg⟩ : ∃ g, g = w.heap.size := ⟨_, rfl⟩
  rw [← hg] at hx0 ⊢
  have HG := Lib.hid hg
  have hbx : Blk w1 g 54 #[.int .u64 h, .int .u64 l, .pointer (some ⟨z.b4, z.o4, none⟩), .int .u8 ((k : Int) + 1)] := hx0
  clear hx0 hg
  refine (pfValid2_c _ _ _ k w1).mono ?_
  rintro e w2 ⟨rfl, hb2⟩
  have hbx2 := hbx.below hb2
  have b2 := hb0.trans (hb2.mono hb0.size)
  have r2 := hbx2.cell
  have hz2' := HZ.out.keep b2
  obtain ⟨s0, s1, s2, q4, q6, z4, z6, z0, hne, hne', p4, p6⟩ := hz2'.lay
  have HB2 := Lib.hid (And.intro b2 hbx2)
  clear hbx hb2 b2 hbx2 hb0 hz2'
  go_wp2_with (first | (at_make; refine wpList_make_own _ rfl _ _ 23 rfl w.heap.size 5 i0 (.int .u8 0) 1 Tryz.underlying23 hi hz0 hz1 _ _ _ 18 rfl rfl rfl (by rw [hz2]; omega) (by unfold maxLen; omega) HB2.out.1.size ?_; intro w3 hown hgr; have hbx3 := HB2.out.2.grown hgr (by simp); have r3 := hbx3.cell; have b3 : Below w.heap.size w w3 := HB2.out.1.grown hgr HB2.out.1.size (by intro x hx; cases hx); have h3 : TB w.heap.size w w3 w3 (.slice (some ⟨w2.heap.size, 0, none⟩) 0 18) [] := TB.start hown b3 b3.size; clear hown hgr))
  refine (to4_c w.heap.size _ [] h l _ w w3 w3 h3 (by simp)).mono ?_
  rintro e w4 ⟨v4, rfl, h4⟩
  rw [List.nil_append] at h4
  clear h3
  have bx4 := h4.blk hbx3 (by decide)
  have r4 := bx4.cell
  clear r3
  go_wp2_with (at_builtin; (refine app_byte i0 hi hz0 hz1 hz2 rfl _ _ rfl rfl 47 _ rfl h4 rfl (by first | omega | (simp; omega)) ?_; intro v20 w20 h20; have r20 := (h20.blk hbx3 (by decide)).cell))
  clear r4 bx4 h4
  refine (pfBits2_c _ _ _ k hk w20).mono ?_
  rintro e w21 ⟨rfl, hb21⟩
  have h21 := h20.below hb21
  have u1 : IntKind.u8.wrap (k : Int) = k := by show (k : Int) % 256 = k; omega
  clear h20 hb21 r20
  go_wp2_with fail
  refine (decimal_c w.heap.size _ _ k w w3 w21 h21 (by first | omega | (simp; omega)) (by omega)).mono ?_
  rintro e w22 ⟨v22, rfl, h22⟩
  have hcv := h22.str (by simp only [List.length_append, List.length_cons]; omega)
  have H22 := Lib.hid h22
  clear h21 h22
  go_wp2
  go_returns
  refine ⟨?_, H22.out.low⟩
  first | (simp; done) | (simp [Tx.pre6]; done)
set_option maxRecDepth 100000 in
set_option maxHeartbeats 8000000 in
theorem pfStr46 (h l k : Nat) (z : ZP) (w : World) (hz : Zs w z) (hk : k ≤ 128) (h0 : h = 0) (h1 : l / 4294967296 = 65535) :
    Calls Tryz.prog 12 #[.agg #[.int .u64 h, .int .u64 l, .pointer (z.ptr (some true)), .int .u8 ((k : Int) + 1)]] w fun e w' => e = .returned (.string ⟨((Tx.pre6 ++ v4t l) ++ 47 :: Tx.decT k).toArray⟩) ∧ Below w.heap.size w w' := by
  obtain ⟨i0, hi, hz0, hz1, hz2⟩ := info_parts infoU8
  have hl1 := v4t_le l
  have HV := Lib.hid (show (some true == some true && (decide (h = 0) && decide (l / 4294967296 = 65535))) = true by simp [h0, h1])
  have H01 := Lib.hid (And.intro h0 h1)
  clear h0 h1
  have HZ := Lib.hid hz
  clear hz
  rw [ptr6]
  go_enter Tryz.func12, Tryz.ntmps12
  go_wp2_with fail
  have hx0 := heap_alloc_new w (.cells #[.int .u64 h, .int .u64 l, .pointer (some ⟨z.b6, z.o6, none⟩), .int .u8 ((k : Int) + 1)] 54)
  have hb0 : Below w.heap.size w (w.alloc (.cells #[.int .u64 h, .int .u64 l, .pointer (some ⟨z.b6, z.o6, none⟩), .int .u8 ((k : Int) + 1)] 54)) := (Below.refl _ _).alloc (Nat.le_refl _) _
  generalize w.alloc (.cells #[.int .u64 h, .int .u64 l, .pointer (some ⟨z.b6, z.o6, none⟩), .int .u8 ((k : Int) + 1)] 54) = w1 at *
  obtain ⟨g, hg⟩ : ∃ g, g = w.heap.size := ⟨_, rfl⟩
  rw [← hg] at hx0 ⊢
  have HG := Lib.hid hg
  have hbx : Blk w1 g 54 #[.int .u64 h, .int .u64 l, .pointer (some ⟨z.b6, z.o6, none⟩), .int .u8 ((k : Int) + 1)] := hx0
  clear hx0 hg
  refine (pfValid2_c _ _ _ k w1).mono ?_
  rintro e w2 ⟨rfl, hb2⟩
  have hbx2 := hbx.below hb2
  have b2 := hb0.trans (hb2.mono hb0.size)
  have r2 := hbx2.cell
  have hz2' := HZ.out.keep b2
  obtain ⟨s0, s1, s2, q4, q6, z4, z6, z0, hne, hne', p4, p6⟩ := hz2'.lay
  have HB2 := Lib.hid (And.intro b2 hbx2)
  clear hbx hb2 b2 hbx2 hb0 hz2'
  go_wp2_with fail
  rw [← ptr6]
  refine (is4in6_c h l _ z w2 (HZ.out.keep HB2.out.1)).mono ?_
  rintro e wa ⟨rfl, hba⟩
  rw [HV.out]
  have HB3 := Lib.hid (And.intro (HB2.out.1.trans (hba.mono HB2.out.1.size)) (HB2.out.2.below hba))
  have ra := HB3.out.2.cell
  clear hba r2
  go_wp2_with (first | (at_make; refine wpList_make_own _ rfl _ _ 23 rfl w.heap.size 5 i0 (.int .u8 0) 1 Tryz.underlying23 hi hz0 hz1 _ _ _ 25 rfl rfl rfl (by rw [hz2]; omega) (by unfold maxLen; omega) HB3.out.1.size ?_; intro w3 hown hgr; have hbx3 := HB3.out.2.grown hgr (by simp); have r3 := hbx3.cell; have b3 : Below w.heap.size w w3 := HB3.out.1.grown hgr HB3.out.1.size (by intro x hx; cases hx); have h3 : TB w.heap.size w w3 w3 (.slice (some ⟨wa.heap.size, 0, none⟩) 0 25) [] := TB.start hown b3 b3.size; clear hown hgr) | (at_builtin; (refine app_text i0 hi hz0 hz1 hz2 rfl _ _ rfl rfl _ h3 rfl (by simp [ByteArray.size]) ?_; intro v4 w4 h4; have r4 := (h4.blk hbx3 (by decide)).cell)))
  rw [← ptr6]
  have hza := (HZ.out.keep h4.low)
  refine (unmap_c h l z w4 hza H01.out.1 H01.out.2).mono ?_
  rintro e w5 ⟨rfl, hb5⟩
  have h5 := h4.below hb5
  rw [List.nil_append] at h5
  have r5 := (h5.blk hbx3 (by decide)).cell
  clear h3 h4 hb5 r3 r4 ra hza
  go_wp2_with fail
  refine (to4_c w.heap.size _ _ h l _ w w3 w5 h5 (by simp)).mono ?_
  rintro e w6 ⟨v6, rfl, h6⟩
  clear h5
  have bx6 := h6.blk hbx3 (by decide)
  have r6 := bx6.cell
  clear r5
  go_wp2_with (at_builtin; (refine app_byte i0 hi hz0 hz1 hz2 rfl _ _ rfl rfl 47 _ rfl h6 rfl (by first | omega | (simp; omega)) ?_; intro v20 w20 h20; have r20 := (h20.blk hbx3 (by decide)).cell))
  clear r6 bx6 h6
  refine (pfBits2_c _ _ _ k hk w20).mono ?_
  rintro e w21 ⟨rfl, hb21⟩
  have h21 := h20.below hb21
  have u1 : IntKind.u8.wrap (k : Int) = k := by show (k : Int) % 256 = k; omega
  clear h20 hb21 r20
  go_wp2_with fail
  refine (decimal_c w.heap.size _ _ k w w3 w21 h21 (by first | omega | (simp; omega)) (by omega)).mono ?_
  rintro e w22 ⟨v22, rfl, h22⟩
  have hcv := h22.str (by simp only [List.length_append, List.length_cons]; omega)
  have H22 := Lib.hid h22
  clear h21 h22
  go_wp2
  go_returns
  refine ⟨?_, H22.out.low⟩
  first | (simp; done) | (simp [Tx.pre6]; done)
set_option maxRecDepth 100000 in
set_option maxHeartbeats 8000000 in
theorem pfStr6 (h l k : Nat) (z : ZP) (w : World) (hz : Zs w z) (hk : k ≤ 128) (h0 : ¬ (h = 0 ∧ l / 4294967296 = 65535)) :
    Calls Tryz.prog 12 #[.agg #[.int .u64 h, .int .u64 l, .pointer (z.ptr (some true)), .int .u8 ((k : Int) + 1)]] w fun e w' => e = .returned (.string ⟨(Tx.v6T (gsOf h l) (Tx.runOf (gsOf h l)) ++ 47 :: Tx.decT k).toArray⟩) ∧ Below w.heap.size w w' := by
  obtain ⟨i0, hi, hz0, hz1, hz2⟩ := info_parts infoU8
  have HV := Lib.hid (show (some true == some true && (decide (h = 0) && decide (l / 4294967296 = 65535))) = false by rw [show (decide (h = 0) && decide (l / 4294967296 = 65535)) = decide (h = 0 ∧ l / 4294967296 = 65535) by simp, decide_eq_false h0]; rfl)
  clear h0
  have HZ := Lib.hid hz
  clear hz
  rw [ptr6]
  go_enter Tryz.func12, Tryz.ntmps12
  go_wp2_with fail
  have hx0 := heap_alloc_new w (.cells #[.int .u64 h, .int .u64 l, .pointer (some ⟨z.b6, z.o6, none⟩), .int .u8 ((k : Int) + 1)] 54)
  have hb0 : Below w.heap.size w (w.alloc (.cells #[.int .u64 h, .int .u64 l, .pointer (some ⟨z.b6, z.o6, none⟩), .int .u8 ((k : Int) + 1)] 54)) := (Below.refl _ _).alloc (Nat.le_refl _) _
  generalize w.alloc (.cells #[.int .u64 h, .int .u64 l, .pointer (some ⟨z.b6, z.o6, none⟩), .int .u8 ((k : Int) + 1)] 54) = w1 at *
  obtain ⟨g, hg⟩ : ∃ g, g = w.heap.size := ⟨_, rfl⟩
  rw [← hg] at hx0 ⊢
  have HG := Lib.hid hg
  have hbx : Blk w1 g 54 #[.int .u64 h, .int .u64 l, .pointer (some ⟨z.b6, z.o6, none⟩), .int .u8 ((k : Int) + 1)] := hx0
  clear hx0 hg
  refine (pfValid2_c _ _ _ k w1).mono ?_
  rintro e w2 ⟨rfl, hb2⟩
  have hbx2 := hbx.below hb2
  have b2 := hb0.trans (hb2.mono hb0.size)
  have r2 := hbx2.cell
  have hz2' := HZ.out.keep b2
  obtain ⟨s0, s1, s2, q4, q6, z4, z6, z0, hne, hne', p4, p6⟩ := hz2'.lay
  have HB2 := Lib.hid (And.intro b2 hbx2)
  clear hbx hb2 b2 hbx2 hb0 hz2'
  go_wp2_with fail
  rw [← ptr6]
  refine (is4in6_c h l _ z w2 (HZ.out.keep HB2.out.1)).mono ?_
  rintro e wa ⟨rfl, hba⟩
  rw [HV.out]
  have HB3 := Lib.hid (And.intro (HB2.out.1.trans (hba.mono HB2.out.1.size)) (HB2.out.2.below hba))
  have ra := HB3.out.2.cell
  clear hba r2
  go_wp2_with (first | (at_make; refine wpList_make_own _ rfl _ _ 23 rfl w.heap.size 5 i0 (.int .u8 0) 1 Tryz.underlying23 hi hz0 hz1 _ _ _ 43 rfl rfl rfl (by rw [hz2]; omega) (by unfold maxLen; omega) HB3.out.1.size ?_; intro w3 hown hgr; have hbx3 := HB3.out.2.grown hgr (by simp); have r3 := hbx3.cell; have b3 : Below w.heap.size w w3 := HB3.out.1.grown hgr HB3.out.1.size (by intro x hx; cases hx); have h3 : TB w.heap.size w w3 w3 (.slice (some ⟨wa.heap.size, 0, none⟩) 0 43) [] := TB.start hown b3 b3.size; clear hown hgr))
  rw [← ptr6]
  refine (to6_c w.heap.size _ [] h l z w w3 w3 h3 HZ.out (Nat.le_refl _) (by simp)).mono ?_
  rintro e w4 ⟨v4, rfl, h4⟩
  rw [List.nil_append] at h4
  have hl6 := v6T_le h l
  clear h3 ra
  have bx4 := h4.blk hbx3 (by decide)
  have r4 := bx4.cell
  clear r3
  go_wp2_with (at_builtin; (refine app_byte i0 hi hz0 hz1 hz2 rfl _ _ rfl rfl 47 _ rfl h4 rfl (by first | omega | (simp; omega)) ?_; intro v20 w20 h20; have r20 := (h20.blk hbx3 (by decide)).cell))
  clear r4 bx4 h4
  refine (pfBits2_c _ _ _ k hk w20).mono ?_
  rintro e w21 ⟨rfl, hb21⟩
  have h21 := h20.below hb21
  have u1 : IntKind.u8.wrap (k : Int) = k := by show (k : Int) % 256 = k; omega
  clear h20 hb21 r20
  go_wp2_with fail
  refine (decimal_c w.heap.size _ _ k w w3 w21 h21 (by first | omega | (simp; omega)) (by omega)).mono ?_
  rintro e w22 ⟨v22, rfl, h22⟩
  have hcv := h22.str (by simp only [List.length_append, List.length_cons]; omega)
  have H22 := Lib.hid h22
  clear h21 h22
  go_wp2
  go_returns
  refine ⟨?_, H22.out.low⟩
  first | (simp; done) | (simp [Tx.pre6]; done)
end Go.Proofs.YtnoolheinkeocaaGreatDoor
