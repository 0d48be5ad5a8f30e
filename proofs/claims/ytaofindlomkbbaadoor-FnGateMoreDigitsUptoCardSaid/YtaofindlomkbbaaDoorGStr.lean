/-
  Contracts: Addr.appendTo4In6, AddrPort.String.
-/
import Derived.Test.YtaofindlomkbbaaDoorAppU
import Derived.Test.YtaofindlomkbbaaDoorStr
namespace Go.Proofs.YtaofindlomkbbaaDoor
open Go Go.RowKit
set_option maxRecDepth 100000 in
set_option maxHeartbeats 8000000 in
theorem to46_c (B : Nat) (v : Value) (t : List UInt8) (h l : Nat) (z : ZP) (W0 W1 w : World) (hb : TB B W0 W1 w v t) (hz : Zs W0 z) (hWB : W0.heap.size ≤ B) (hlen : t.length + 48 ≤ 140737488355328) (h0 : h = 0) (h1 : l / 4294967296 = 65535) :
    Calls Tryd.prog 37 #[.agg #[.int .u64 h, .int .u64 l, .pointer (z.ptr (some true))], v] w fun e w' => ∃ v', e = .returned v' ∧ TB B W0 W1 w' v' (t ++ (Tx.pre6 ++ v4t l)) := by
  obtain ⟨i0, hi, hz0, hz1, hz2⟩ := info_parts infoU8
  have H01 := Lib.hid (And.intro h0 h1)
  have HZ := Lib.hid hz
  have hl1 := v4t_le l
  have hp1 : TB B W0 W1 (w.alloc (.cells #[.int .u64 h, .int .u64 l, .pointer (some ⟨z.b6, z.o6, none⟩)] 54)) v t := hb.alloc _
  have hh1 := hp1.anew
  have HP := Lib.hid hp1
  have hxb : Blk (w.alloc (.cells #[.int .u64 h, .int .u64 l, .pointer (some ⟨z.b6, z.o6, none⟩)] 54)) w.heap.size 54 #[.int .u64 h, .int .u64 l, .pointer (some ⟨z.b6, z.o6, none⟩)] := heap_alloc_new _ _
  have HX := Lib.hid hxb
  have hs7 : t.length + ByteArray.size ⟨#[58, 58, 102, 102, 102, 102, 58]⟩ ≤ 140737488355328 := by show t.length + 7 ≤ _; omega
  rw [ptr6]
  clear hb hp1 h0 h1 hz hxb
  go_enter Tryd.func37, Tryd.ntmps37
  go_wp2_with (at_builtin; (refine app_text i0 hi hz0 hz1 hz2 rfl _ _ rfl rfl ⟨#[58, 58, 102, 102, 102, 102, 58]⟩ hh1 rfl hs7 ?_; intro v4 w4 h4; have bx4 := h4.blk HX.out (by decide); have r4 := bx4.cell; clear hh1))
  have h4' := HP.out.back h4
  have HQ := Lib.hid (And.intro h4' bx4)
  clear h4 h4' HP HX hs7 bx4
  rw [← ptr6]
  refine (unmap_c h l z w4 (HZ.out.keep (HQ.out.1.low.mono hWB)) H01.out.1 H01.out.2).mono ?_
  rintro e w5 ⟨rfl, hb5⟩
  have h5 := HQ.out.1.below hb5
  have bx5 := HQ.out.2.below hb5
  have hh5 := h5.anew
  have HR := Lib.hid (And.intro h5 bx5)
  have hl5 : (t ++ ((⟨#[58, 58, 102, 102, 102, 102, 58]⟩ : ByteArray).data.toList)).length + 15 ≤ 140737488355328 := by rw [List.length_append]; show t.length + 7 + 15 ≤ _; omega
  clear hb5 h5 bx5 HQ r4
  go_wp2_with fail
  refine (to4_c B _ _ h l _ W0 w5 w5 hh5 hl5).mono ?_
  rintro e w6 ⟨v6, rfl, h6⟩
  have bx6 := h6.blk HR.out.2 (by decide)
  have r6 := bx6.cell
  obtain ⟨s0, s1, s2, q4, q6, z4, z6, z0, hne, hne', p4, p6⟩ := (HZ.out.keep (h6.low.mono hWB)).lay
  have H6 := Lib.hid (HR.out.1.back h6)
  clear hh5 h6 bx6 hl5
  go_wp2
  go_returns
  refine ⟨_, rfl, ?_⟩
  have hx := H6.out
  simpa [Tx.pre6, List.append_assoc] using hx
/-- The text of an address and a port. -/
def gT (bs : List UInt8) (u : Nat) : List UInt8 := (if bs.length = 4 then Tx.adT bs else 91 :: (Tx.adT bs ++ [93])) ++ 58 :: Lib.decDigits u
set_option maxRecDepth 100000 in
set_option maxHeartbeats 8000000 in
theorem gStr4 (h l u : Nat) (z : ZP) (w : World) (hz : Zs w z) (hu : u < 65536) (hpw : PW w) :
    Calls Tryd.prog 22 #[.agg #[.int .u64 h, .int .u64 l, .pointer (z.ptr (some false)), .int .u16 u]] w fun e w' => e = .returned (.string ⟨(v4t l ++ 58 :: Lib.decDigits u).toArray⟩) ∧ Below w.heap.size w w' := by
  obtain ⟨i0, hi, hz0, hz1, hz2⟩ := info_parts infoU8
  have hl1 := v4t_le l
  have HZ := Lib.hid hz
  have HPW := Lib.hid hpw
  clear hz hpw
  rw [ptr4]
  have hx0 : Blk (w.alloc (.cells #[.int .u64 h, .int .u64 l, .pointer (some ⟨z.b4, z.o4, none⟩), .int .u16 u] 56)) w.heap.size 56 #[.int .u64 h, .int .u64 l, .pointer (some ⟨z.b4, z.o4, none⟩), .int .u16 u] := heap_alloc_new w _
  have hb0 : Below w.heap.size w (w.alloc (.cells #[.int .u64 h, .int .u64 l, .pointer (some ⟨z.b4, z.o4, none⟩), .int .u16 u] 56)) := (Below.refl _ _).alloc (Nat.le_refl _) _
  have hz1' := HZ.out.keep hb0
  obtain ⟨s0, s1, s2, q4, q6, z4, z6, z0, hne, hne', p4, p6⟩ := (HZ.out).lay
  have HB2 := Lib.hid (And.intro hb0 hx0)
  have HSZ := Lib.hid (show (w.alloc (.cells #[.int .u64 h, .int .u64 l, .pointer (some ⟨z.b4, z.o4, none⟩), .int .u16 u] 56)).heap.size = w.heap.size + 1 by simp)
  clear hb0 hx0 hz1'
  go_enter Tryd.func22, Tryd.ntmps22
  go_wp2_with (first | (at_make; refine wpList_make_own _ rfl _ _ 22 rfl w.heap.size 5 i0 (.int .u8 0) 1 Tryd.underlying22 hi hz0 hz1 _ _ _ 21 rfl rfl rfl (by rw [hz2]; omega) (by unfold maxLen; omega) HB2.out.1.size ?_; intro w3 hown hgr; have hbx3 := HB2.out.2.grown hgr (by simp); have r3 := hbx3.cell; have b3 : Below w.heap.size w w3 := HB2.out.1.grown hgr HB2.out.1.size (by intro x hx; cases hx); have h3 : TB w.heap.size w w3 w3 (.slice (some ⟨w.heap.size + 1, 0, none⟩) 0 21) [] := TB.start (by rw [← HSZ.out]; exact hown) b3 b3.size; clear hown hgr))
  refine (to4_c w.heap.size _ [] h l _ w w3 w3 h3 (by simp)).mono ?_
  rintro e w4 ⟨v4, rfl, h4⟩
  rw [List.nil_append] at h4
  have bx4 := h4.blk hbx3 (by decide)
  have r4 := bx4.cell
  clear h3 r3
  have u1 : IntKind.u64.wrap (u : Int) = u := by show (u : Int) % 18446744073709551616 = u; omega
  go_wp2_with (at_builtin; (refine app_byte i0 hi hz0 hz1 hz2 rfl _ _ rfl rfl 58 _ rfl h4 rfl (by first | omega | (simp; omega) | (simp [Tx.pre6]; omega)) ?_; intro v21 w21 h21; have r21 := (h21.blk hbx3 (by decide)).cell; clear h4 r4 bx4))
  refine (appU_c w.heap.size _ _ u w w3 w21 h21 hu (by first | omega | (simp; omega) | (simp [Tx.pre6]; omega)) (HPW.out.keep h21.low)).mono ?_
  rintro e w22 ⟨v22, rfl, h22⟩
  have hcv := h22.str (by simp only [List.length_append, List.length_cons]; omega)
  have H22 := Lib.hid h22
  clear h21 h22
  go_wp2
  go_returns
  refine ⟨?_, H22.out.low⟩
  first | (simp; done) | (simp [Tx.pre6]; done)
set_option maxRecDepth 100000 in
set_option maxHeartbeats 8000000 in
theorem gStr46 (h l u : Nat) (z : ZP) (w : World) (hz : Zs w z) (hu : u < 65536) (hpw : PW w) (h0 : h = 0) (h1 : l / 4294967296 = 65535) :
    Calls Tryd.prog 22 #[.agg #[.int .u64 h, .int .u64 l, .pointer (z.ptr (some true)), .int .u16 u]] w fun e w' => e = .returned (.string ⟨(91 :: ((Tx.pre6 ++ v4t l) ++ [93]) ++ 58 :: Lib.decDigits u).toArray⟩) ∧ Below w.heap.size w w' := by
  have HV := Lib.hid (show (some true == some true && (decide (h = 0) && decide (l / 4294967296 = 65535))) = true by simp [h0, h1])
  have H01 := Lib.hid (And.intro h0 h1)
  clear h0 h1
  obtain ⟨i0, hi, hz0, hz1, hz2⟩ := info_parts infoU8
  have hl1 := v4t_le l
  have HZ := Lib.hid hz
  have HPW := Lib.hid hpw
  clear hz hpw
  rw [ptr6]
  have hx0 : Blk (w.alloc (.cells #[.int .u64 h, .int .u64 l, .pointer (some ⟨z.b6, z.o6, none⟩), .int .u16 u] 56)) w.heap.size 56 #[.int .u64 h, .int .u64 l, .pointer (some ⟨z.b6, z.o6, none⟩), .int .u16 u] := heap_alloc_new w _
  have hb0 : Below w.heap.size w (w.alloc (.cells #[.int .u64 h, .int .u64 l, .pointer (some ⟨z.b6, z.o6, none⟩), .int .u16 u] 56)) := (Below.refl _ _).alloc (Nat.le_refl _) _
  have hz1' := HZ.out.keep hb0
  obtain ⟨s0, s1, s2, q4, q6, z4, z6, z0, hne, hne', p4, p6⟩ := (HZ.out).lay
  have hl6 := v6T_le h l
  go_enter Tryd.func22, Tryd.ntmps22
  go_wp2_with fail
  generalize (w.alloc (.cells #[.int .u64 h, .int .u64 l, .pointer (some ⟨z.b6, z.o6, none⟩), .int .u16 u] 56)) = w1 at *
  obtain ⟨g, hg⟩ : ∃ g, g = w.heap.size := ⟨_, rfl⟩
  rw [← hg] at hx0 ⊢
  have hbx : Blk w1 g 56 #[.int .u64 h, .int .u64 l, .pointer (some ⟨z.b6, z.o6, none⟩), .int .u16 u] := hx0
  have HB1 := Lib.hid (And.intro hb0 hbx)
  clear hx0 hg hb0 hbx hz1' s0 s1 s2 q4 q6 z4 z6 z0 hne hne' p4 p6
  rw [← ptr6]
  refine (is4in6_c h l _ z w1 (HZ.out.keep HB1.out.1)).mono ?_
  rintro e wa ⟨rfl, hba⟩
  rw [HV.out]
  have HB3 := Lib.hid (And.intro (HB1.out.1.trans (hba.mono HB1.out.1.size)) (HB1.out.2.below hba))
  have ra := HB3.out.2.cell
  clear hba
  go_wp2_with (first | (at_make; refine wpList_make_own _ rfl _ _ 22 rfl w.heap.size 5 i0 (.int .u8 0) 1 Tryd.underlying22 hi hz0 hz1 _ _ _ 37 rfl rfl rfl (by rw [hz2]; omega) (by unfold maxLen; omega) HB3.out.1.size ?_; intro w3 hown hgr; have hbx3 := HB3.out.2.grown hgr (by simp); have r3 := hbx3.cell; have b3 : Below w.heap.size w w3 := HB3.out.1.grown hgr HB3.out.1.size (by intro x hx; cases hx); have h3 : TB w.heap.size w w3 w3 (.slice (some ⟨wa.heap.size, 0, none⟩) 0 37) [] := TB.start hown b3 b3.size; clear hown hgr) | (at_builtin; refine app_byte i0 hi hz0 hz1 hz2 rfl _ _ rfl rfl 91 _ rfl h3 rfl (by simp) ?_; intro v4 w4 h4; have r4 := (h4.blk hbx3 (by decide)).cell; clear h3 r3))
  rw [List.nil_append] at h4
  rw [← ptr6]
  refine (to46_c w.heap.size v4 [91] h l z w w3 w4 h4 HZ.out (Nat.le_refl _) (by simp) H01.out.1 H01.out.2).mono ?_
  rintro e w5 ⟨v5, rfl, h5⟩
  have bx5 := h5.blk hbx3 (by decide)
  have r5 := bx5.cell
  clear h4 r4 ra
  have u1 : IntKind.u64.wrap (u : Int) = u := by show (u : Int) % 18446744073709551616 = u; omega
  go_wp2_with (first | (at_builtin; refine app_byte i0 hi hz0 hz1 hz2 rfl _ _ rfl rfl 93 _ rfl h5 rfl (by first | omega | (simp; omega) | (simp [Tx.pre6]; omega)) ?_; intro v20 w20 h20; have r20 := (h20.blk hbx3 (by decide)).cell; clear h5 r5 bx5) | (at_builtin; refine app_byte i0 hi hz0 hz1 hz2 rfl _ _ rfl rfl 58 _ rfl h20 rfl (by first | omega | (simp; omega) | (simp [Tx.pre6]; omega)) ?_; intro v21 w21 h21; have r21 := (h21.blk hbx3 (by decide)).cell; clear h20 r20))
  refine (appU_c w.heap.size _ _ u w w3 w21 h21 hu (by first | omega | (simp; omega) | (simp [Tx.pre6]; omega)) (HPW.out.keep h21.low)).mono ?_
  rintro e w22 ⟨v22, rfl, h22⟩
  have hcv := h22.str (by simp only [List.length_append, List.length_cons]; omega)
  have H22 := Lib.hid h22
  clear h21 h22
  go_wp2
  go_returns
  refine ⟨?_, H22.out.low⟩
  first | (simp; done) | (simp [Tx.pre6]; done)
set_option maxRecDepth 100000 in
set_option maxHeartbeats 8000000 in
theorem gStr6 (h l u : Nat) (z : ZP) (w : World) (hz : Zs w z) (hu : u < 65536) (hpw : PW w) (h0 : ¬ (h = 0 ∧ l / 4294967296 = 65535)) :
    Calls Tryd.prog 22 #[.agg #[.int .u64 h, .int .u64 l, .pointer (z.ptr (some true)), .int .u16 u]] w fun e w' => e = .returned (.string ⟨(91 :: (Tx.v6T (gsOf h l) (Tx.runOf (gsOf h l)) ++ [93]) ++ 58 :: Lib.decDigits u).toArray⟩) ∧ Below w.heap.size w w' := by
  have HV := Lib.hid (show (some true == some true && (decide (h = 0) && decide (l / 4294967296 = 65535))) = false by rw [show (decide (h = 0) && decide (l / 4294967296 = 65535)) = decide (h = 0 ∧ l / 4294967296 = 65535) by simp, decide_eq_false h0]; rfl)
  clear h0
  obtain ⟨i0, hi, hz0, hz1, hz2⟩ := info_parts infoU8
  have hl1 := v4t_le l
  have HZ := Lib.hid hz
  have HPW := Lib.hid hpw
  clear hz hpw
  rw [ptr6]
  have hx0 : Blk (w.alloc (.cells #[.int .u64 h, .int .u64 l, .pointer (some ⟨z.b6, z.o6, none⟩), .int .u16 u] 56)) w.heap.size 56 #[.int .u64 h, .int .u64 l, .pointer (some ⟨z.b6, z.o6, none⟩), .int .u16 u] := heap_alloc_new w _
  have hb0 : Below w.heap.size w (w.alloc (.cells #[.int .u64 h, .int .u64 l, .pointer (some ⟨z.b6, z.o6, none⟩), .int .u16 u] 56)) := (Below.refl _ _).alloc (Nat.le_refl _) _
  have hz1' := HZ.out.keep hb0
  obtain ⟨s0, s1, s2, q4, q6, z4, z6, z0, hne, hne', p4, p6⟩ := (HZ.out).lay
  have hl6 := v6T_le h l
  go_enter Tryd.func22, Tryd.ntmps22
  go_wp2_with fail
  generalize (w.alloc (.cells #[.int .u64 h, .int .u64 l, .pointer (some ⟨z.b6, z.o6, none⟩), .int .u16 u] 56)) = w1 at *
  obtain ⟨g, hg⟩ : ∃ g, g = w.heap.size := ⟨_, rfl⟩
  rw [← hg] at hx0 ⊢
  have hbx : Blk w1 g 56 #[.int .u64 h, .int .u64 l, .pointer (some ⟨z.b6, z.o6, none⟩), .int .u16 u] := hx0
  have HB1 := Lib.hid (And.intro hb0 hbx)
  clear hx0 hg hb0 hbx hz1' s0 s1 s2 q4 q6 z4 z6 z0 hne hne' p4 p6
  rw [← ptr6]
  refine (is4in6_c h l _ z w1 (HZ.out.keep HB1.out.1)).mono ?_
  rintro e wa ⟨rfl, hba⟩
  rw [HV.out]
  have HB3 := Lib.hid (And.intro (HB1.out.1.trans (hba.mono HB1.out.1.size)) (HB1.out.2.below hba))
  have ra := HB3.out.2.cell
  clear hba
  go_wp2_with (first | (at_make; refine wpList_make_own _ rfl _ _ 22 rfl w.heap.size 5 i0 (.int .u8 0) 1 Tryd.underlying22 hi hz0 hz1 _ _ _ 54 rfl rfl rfl (by rw [hz2]; omega) (by unfold maxLen; omega) HB3.out.1.size ?_; intro w3 hown hgr; have hbx3 := HB3.out.2.grown hgr (by simp); have r3 := hbx3.cell; have b3 : Below w.heap.size w w3 := HB3.out.1.grown hgr HB3.out.1.size (by intro x hx; cases hx); have h3 : TB w.heap.size w w3 w3 (.slice (some ⟨wa.heap.size, 0, none⟩) 0 54) [] := TB.start hown b3 b3.size; clear hown hgr) | (at_builtin; refine app_byte i0 hi hz0 hz1 hz2 rfl _ _ rfl rfl 91 _ rfl h3 rfl (by simp) ?_; intro v4 w4 h4; have r4 := (h4.blk hbx3 (by decide)).cell; clear h3 r3))
  rw [List.nil_append] at h4
  rw [← ptr6]
  refine (to6_c w.heap.size v4 [91] h l z w w3 w4 h4 HZ.out (Nat.le_refl _) (by simp)).mono ?_
  rintro e w5 ⟨v5, rfl, h5⟩
  have bx5 := h5.blk hbx3 (by decide)
  have r5 := bx5.cell
  clear h4 r4 ra
  have u1 : IntKind.u64.wrap (u : Int) = u := by show (u : Int) % 18446744073709551616 = u; omega
  go_wp2_with (first | (at_builtin; refine app_byte i0 hi hz0 hz1 hz2 rfl _ _ rfl rfl 93 _ rfl h5 rfl (by first | omega | (simp; omega) | (simp [Tx.pre6]; omega)) ?_; intro v20 w20 h20; have r20 := (h20.blk hbx3 (by decide)).cell; clear h5 r5 bx5) | (at_builtin; refine app_byte i0 hi hz0 hz1 hz2 rfl _ _ rfl rfl 58 _ rfl h20 rfl (by first | omega | (simp; omega) | (simp [Tx.pre6]; omega)) ?_; intro v21 w21 h21; have r21 := (h21.blk hbx3 (by decide)).cell; clear h20 r20))
  refine (appU_c w.heap.size _ _ u w w3 w21 h21 hu (by first | omega | (simp; omega) | (simp [Tx.pre6]; omega)) (HPW.out.keep h21.low)).mono ?_
  rintro e w22 ⟨v22, rfl, h22⟩
  have hcv := h22.str (by simp only [List.length_append, List.length_cons]; omega)
  have H22 := Lib.hid h22
  clear h21 h22
  go_wp2
  go_returns
  refine ⟨?_, H22.out.low⟩
  first | (simp; done) | (simp [Tx.pre6]; done)
end Go.Proofs.YtaofindlomkbbaaDoor
