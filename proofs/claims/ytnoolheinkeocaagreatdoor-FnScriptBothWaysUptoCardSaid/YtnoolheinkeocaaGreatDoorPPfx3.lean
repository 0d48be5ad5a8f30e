/-
  Contract: ParsePrefix at a text that ends with its slash.
-/
import Derived.Test.YtnoolheinkeocaaGreatDoorStr
import Derived.Test.YtnoolheinkeocaaGreatDoorPPfx
import Derived.Test.YtnoolheinkeocaaGreatDoorFromPf
import Derived.Test.YtnoolheinkeocaaGreatDoorStrs
import Derived.Test.YtnoolheinkeocaaGreatDoorAtoi0
namespace Go.Proofs.YtnoolheinkeocaaGreatDoor
open Go Go.RowKit
set_option maxRecDepth 100000 in
set_option maxHeartbeats 8000000 in
theorem quoted0_c (B : Nat) (A : Option Addr) (W0 W1 w : World) (hb : TB B W0 W1 w (.slice A 0 0) []) :
    Calls Tryz.prog 66 #[.slice A 0 0, .string ⟨#[]⟩, .int .u8 34, .bool false, .bool false] w fun e w' => ∃ v', e = .returned v' ∧ TB B W0 W1 w' v' [34, 34] := by
  obtain ⟨i0, hi, hz0, hz1, hz2⟩ := info_parts infoU8
  go_enter Tryz.func66, Tryz.ntmps66
  go_wp2_with (at_builtin; (refine app_byte i0 hi hz0 hz1 hz2 rfl _ _ rfl rfl 34 _ rfl (by assumption) rfl (by simp) ?_; intro _ _ hb))
  go_loopw [0, 1] (fun v0 v1 wr => v1 = .string ⟨#[]⟩ ∧ TB B W0 W1 wr v0 [34]) (fun _ _ _ => 0)
  case atStart => exact ⟨rfl, by assumption⟩
  case round =>
    obtain ⟨rfl, hb⟩ := hrel
    go_wp2_with (at_builtin; (refine app_byte i0 hi hz0 hz1 hz2 rfl _ _ rfl rfl 34 _ rfl (by assumption) rfl (by simp) ?_; intro _ _ hb))
    go_returns
    exact ⟨_, rfl, by assumption⟩
set_option maxRecDepth 100000 in
set_option maxHeartbeats 8000000 in
theorem quote0_c (w : World) :
    Calls Tryz.prog 49 #[.string ⟨#[]⟩] w fun e w' => e = .returned (.string ⟨#[34, 34]⟩) ∧ Below w.heap.size w w' := by
  obtain ⟨i0, hi, hz0, hz1, hz2⟩ := info_parts infoU8
  have hq : Calls Tryz.prog 58 #[.string ⟨#[]⟩, .int .u8 34, .bool false, .bool false] w fun e w' => e = .returned (.string ⟨#[34, 34]⟩) ∧ Below w.heap.size w w' := by
    go_enter Tryz.func58, Tryz.ntmps58
    go_wp2_with (first | (at_make; refine wpList_make_own _ rfl _ _ 23 rfl w.heap.size 5 i0 (.int .u8 0) 1 Tryz.underlying23 hi hz0 hz1 _ _ _ 0 rfl rfl rfl (by omega) (by unfold maxLen; omega) (Nat.le_refl _) ?_; intro w3 hown hgr; have b3 : Below w.heap.size w w3 := (Below.refl _ _).grown hgr (Nat.le_refl _) (by intro x hx; cases hx); have h3 : TB w.heap.size w w3 w3 (.slice (some ⟨w.heap.size, 0, none⟩) 0 0) [] := TB.start hown b3 b3.size; clear hown hgr))
    refine (quoted0_c w.heap.size _ w w3 w3 h3).mono ?_
    rintro e w4 ⟨v4, rfl, h4⟩
    have hcv := h4.str (by simp)
    have H4 := Lib.hid h4
    clear h3 h4
    go_wp2
    go_returns
    exact ⟨rfl, H4.out.low⟩
  have HQ := Lib.hid hq
  clear hq
  go_enter Tryz.func49, Tryz.ntmps49
  go_wp2_with fail
  refine HQ.out.mono ?_
  rintro e w4 ⟨rfl, hb⟩
  go_wp2
  go_returns
  exact ⟨rfl, hb⟩
end Go.Proofs.YtnoolheinkeocaaGreatDoor
namespace Go.Proofs.YtnoolheinkeocaaGreatDoor
open Go Go.RowKit
theorem parsePf_c (s : ByteArray) (A bs : List UInt8) (n : Nat) (z : ZP) (w : World) (hz : Zs w z) (hs : s.size ≤ 4611686018427387904) (hA : s.data.toList = A ++ 47 :: Tx.decT n) (h37 : (37 : UInt8) ∉ A) (hp : Tx.pA A = some bs) (hl : isLen bs.length) (hn : n ≤ 8 * bs.length) :
    Calls Tryz.prog 32 #[.string s] w fun e w' => e = .returned (.tuple #[.agg #[.int .u64 (adOf bs).h, .int .u64 (adOf bs).l, .pointer (z.ptr (adOf bs).k), .int .u8 ((n + 1 : Nat) : Int)], .nilIface]) ∧ Below w.heap.size w w' := by
  obtain ⟨hk, hb⟩ := bl_len hl
  have hSL : (s.extract 0 A.length).data.toList = A := pre_list hA
  have hSz : (s.extract 0 A.length).size ≤ 4611686018427387904 := by
    have := str_len s
    rw [hA, List.length_append] at this
    rw [← str_len, hSL]; omega
  obtain ⟨b6, hb6⟩ : ∃ b, (adOf bs).k = some b := by
    cases h : (adOf bs).k with
    | none => exact absurd h hk
    | some b => exact ⟨b, rfl⟩
  rw [hb6] at hb ⊢
  refine parsePf_in s A n _ _ b6 z w hz hs hA (by rw [hb]; omega) fun w1 hz1 => ?_
  refine (parseAddr_c _ z w1 hz1 hSz (by rw [hSL]; exact h37)).mono ?_
  intro e w2 h
  rw [hSL, hp] at h
  obtain ⟨hb, -, rfl⟩ := h
  exact ⟨by rw [hb6], hb⟩
set_option maxRecDepth 100000 in
set_option maxHeartbeats 8000000 in
theorem parsePf_no (s : ByteArray) (w : World) (hs : s.size ≤ 4611686018427387904) (h47 : (47 : UInt8) ∉ s.data.toList) :
    Calls Tryz.prog 32 #[.string s] w fun e w' => (∃ x, e = .returned (.tuple #[.agg #[.int .u64 0, .int .u64 0, .pointer none, .int .u8 0], .iface 96 x])) ∧ Below w.heap.size w w' := by
  have hl47 : lix s.data.toList 47 s.size = -1 := by rw [← str_len]; exact lix_none h47 _ (Nat.le_refl _)
  have H47 := Lib.hid hl47
  clear hl47
  go_enter Tryz.func32, Tryz.ntmps32
  go_wp2_with fail
  refine (last_c s 47 _ hs).mono ?_
  rintro e w1 ⟨rfl, rfl⟩
  rw [H47.out]
  have hb0 : Blk (w.alloc (.cells pf0 54)) w.heap.size 54 pf0 := heap_alloc_new w (.cells pf0 54)
  have hbl : Below w.heap.size w (w.alloc (.cells pf0 54)) := (Below.refl _ _).alloc (Nat.le_refl _) _
  generalize w.alloc (.cells pf0 54) = w1 at *
  have r0 := hb0.cell
  have f0 := hb0.free
  have HB := Lib.hid (And.intro hb0 hbl)
  clear hb0 hbl
  go_wp2_with (with_reducible exact ret18 HB.out.1 ⟨⟨_, rfl⟩, low_put4 HB.out.2 (Nat.le_refl _)⟩)
end Go.Proofs.YtnoolheinkeocaaGreatDoor
namespace Go.Proofs.YtnoolheinkeocaaGreatDoor
open Go Go.RowKit
set_option maxRecDepth 100000 in
set_option maxHeartbeats 8000000 in
theorem parsePf_cut (s : ByteArray) (A : List UInt8) (H L : Nat) (b6 : Bool) (z : ZP) (w : World) (hz : Zs w z) (hs : s.size ≤ 4611686018427387904) (hA : s.data.toList = A ++ [47]) (ev : Value) (hv : w.cell? ⟨4, 0, none⟩ = some ev) (hev : ev = .nilIface ∨ ∃ t p, ev = .iface t p) (hg : 4 < w.heap.size)
    (hPA : ∀ w1, Zs w1 z → Calls Tryz.prog 48 #[.string (s.extract 0 A.length)] w1 fun e w2 => e = .returned (.tuple #[.agg #[.int .u64 H, .int .u64 L, .pointer (z.ptr (some b6))], .nilIface]) ∧ Below w1.heap.size w1 w2) :
    Calls Tryz.prog 32 #[.string s] w fun e w' => (∃ x, e = .returned (.tuple #[.agg #[.int .u64 0, .int .u64 0, .pointer none, .int .u8 0], .iface 96 x])) ∧ Below w.heap.size w w' := by
  have hl47 : lix s.data.toList 47 s.size = A.length := by
    rw [← str_len, hA]
    exact lix_all (by simp)
  have hsl := str_len s
  rw [hA, List.length_append, List.length_singleton] at hsl
  have hT : s.extract (A.length + 1) s.size = ⟨#[]⟩ := by
    have h := suf_list2 (s := s) (a := A) (b := []) (c := 47) hA
    have h2 : (s.extract (A.length + 1) s.size).data = #[] := Array.toList_eq_nil_iff.1 h
    calc s.extract (A.length + 1) s.size = ⟨(s.extract (A.length + 1) s.size).data⟩ := rfl
      _ = ⟨#[]⟩ := by rw [h2]
  have hi0 : ¬ ((A.length : Int) < 0) := by omega
  have hi1 : (A.length : Int) ≤ (s.size : Int) := by omega
  have hi2 : (A.length : Int) + 1 ≤ (s.size : Int) := by omega
  have HT := Lib.hid hT
  have HZ := Lib.hid hz
  have HP := Lib.hid hPA
  have H47 := Lib.hid hl47
  have HV := Lib.hid (And.intro hv (And.intro hev hg))
  clear hT hz hPA hl47 hA hsl hv hev hg
  go_enter Tryz.func32, Tryz.ntmps32
  go_wp2_with fail
  refine (last_c s 47 _ hs).mono ?_
  rintro e w1 ⟨rfl, rfl⟩
  rw [H47.out]
  go_wp2_with fail
  have hb0 := heap_alloc_new w (.cells pf0 54)
  have hbl : Below w.heap.size w (w.alloc (.cells pf0 54)) := (Below.refl _ _).alloc (Nat.le_refl _) _
  have hb0 : Blk (w.alloc (.cells pf0 54)) w.heap.size 54 pf0 := hb0
  generalize w.alloc (.cells pf0 54) = w1 at *
  refine (HP.out w1 (HZ.out.keep hbl)).mono ?_
  rintro e w2 ⟨rfl, hb2⟩
  have hbw := hbl.trans (hb2.mono hbl.size)
  have hb0' := hb0.below hb2
  have HB := Lib.hid (And.intro hbw hb0')
  clear hb2 hbw hb0' hbl hb0
  go_wp2_with fail
  have hbA := heap_alloc_new w2 (.cells #[.int .u64 H, .int .u64 L, .pointer (z.ptr (some b6))] 52)
  have hbl3 : Below w.heap.size w (w2.alloc (.cells #[.int .u64 H, .int .u64 L, .pointer (z.ptr (some b6))] 52)) := HB.out.1.alloc HB.out.1.size _
  have hb03 := HB.out.2.below ((Below.refl _ w2).alloc (Nat.le_refl _) (.cells #[.int .u64 H, .int .u64 L, .pointer (z.ptr (some b6))] 52))
  have hbA : Blk (w2.alloc (.cells #[.int .u64 H, .int .u64 L, .pointer (z.ptr (some b6))] 52)) w2.heap.size 52 #[.int .u64 H, .int .u64 L, .pointer (z.ptr (some b6))] := hbA
  have hgA : w.heap.size ≤ w2.heap.size := HB.out.1.size
  generalize w2.alloc (.cells #[.int .u64 H, .int .u64 L, .pointer (z.ptr (some b6))] 52) = w3 at *
  generalize w2.heap.size = g at *
  refine (is6_c _ _ _ z w3 (HZ.out.keep hbl3)).mono ?_
  rintro e w4 ⟨rfl, hb4⟩
  have hbw := hbl3.trans (hb4.mono hbl3.size)
  have hbA4 := hbA.below hb4
  have hb04 := hb03.below hb4
  clear hb4 hbl3 hbA hb03
  have c0 : w4.cell? ⟨g, 0, none⟩ = some (.int .u64 H) := hbA4.cell 0
  have c1 : w4.cell? ⟨g, 1, none⟩ = some (.int .u64 L) := hbA4.cell 1
  have c2 : w4.cell? ⟨g, 2, none⟩ = some (.pointer (z.ptr (some b6))) := hbA4.cell 2
  have z6 := (HZ.out.keep hbw).z6
  have HB4 := Lib.hid (And.intro hbw (And.intro hbA4 hb04))
  clear hbw hbA4 hb04
  rw [show (some b6 == some true) = b6 by cases b6 <;> rfl]
  cases b6 with
  | false =>
    go_upto_region 10 with fail
    rw [HT.out]
    go_wp2_with fail
    refine (atoi0_c ev w4 ((HB4.out.1.cell (p := ⟨4, 0, none⟩) HV.out.2.2).trans HV.out.1) HV.out.2.1 (Nat.lt_of_lt_of_le HV.out.2.2 HB4.out.1.size)).mono ?_
    rintro e w5 ⟨⟨p, rfl⟩, hb5⟩
    have hbw := HB4.out.1.trans (hb5.mono HB4.out.1.size)
    have hb05 := HB4.out.2.2.below hb5
    have HB5 := Lib.hid (And.intro hbw hb05)
    clear hb5 c0 c1 c2 z6 hbw hb05
    go_wp2_with fail
    refine (quote0_c w5).mono ?_
    rintro e w6 ⟨rfl, hb6⟩
    have hbw := HB5.out.1.trans (hb6.mono HB5.out.1.size)
    have hb06 := HB5.out.2.below hb6
    have r0 := hb06.cell
    have f0 := hb06.free
    have HB6 := Lib.hid (And.intro hbw hb06)
    clear hb6 hbw hb06
    go_wp2_with (with_reducible exact ret18 HB6.out.2 ⟨⟨_, rfl⟩, low_put4 HB6.out.1 (Nat.le_refl _)⟩)
  | true =>
    rw [ptr6] at c2 ⊢
    go_upto_region 10 with fail
    rw [HT.out]
    go_wp2_with fail
    refine (atoi0_c ev w4 ((HB4.out.1.cell (p := ⟨4, 0, none⟩) HV.out.2.2).trans HV.out.1) HV.out.2.1 (Nat.lt_of_lt_of_le HV.out.2.2 HB4.out.1.size)).mono ?_
    rintro e w5 ⟨⟨p, rfl⟩, hb5⟩
    have hbw := HB4.out.1.trans (hb5.mono HB4.out.1.size)
    have hb05 := HB4.out.2.2.below hb5
    have HB5 := Lib.hid (And.intro hbw hb05)
    clear hb5 c0 c1 c2 z6 hbw hb05
    go_wp2_with fail
    refine (quote0_c w5).mono ?_
    rintro e w6 ⟨rfl, hb6⟩
    have hbw := HB5.out.1.trans (hb6.mono HB5.out.1.size)
    have hb06 := HB5.out.2.below hb6
    have r0 := hb06.cell
    have f0 := hb06.free
    have HB6 := Lib.hid (And.intro hbw hb06)
    clear hb6 hbw hb06
    go_wp2_with (with_reducible exact ret18 HB6.out.2 ⟨⟨_, rfl⟩, low_put4 HB6.out.1 (Nat.le_refl _)⟩)
end Go.Proofs.YtnoolheinkeocaaGreatDoor
