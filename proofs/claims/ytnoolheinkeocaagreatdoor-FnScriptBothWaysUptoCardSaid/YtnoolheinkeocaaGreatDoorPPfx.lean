/-
  Contract: ParsePrefix at texts that Prefix.String writes, and at texts cut.
-/
import Derived.Test.YtnoolheinkeocaaGreatDoorPAd
import Derived.Test.YtnoolheinkeocaaGreatDoorLast
import Derived.Test.YtnoolheinkeocaaGreatDoorAtoi
import Derived.Test.YtnoolheinkeocaaGreatDoorPfx
namespace Go.Proofs.YtnoolheinkeocaaGreatDoor
open Go Go.RowKit
abbrev pf0 : Array Value := #[.int .u64 0, .int .u64 0, .pointer none, .int .u8 0]
theorem pre_list {s : ByteArray} {a b : List UInt8} (h : s.data.toList = a ++ b) : (s.extract 0 a.length).data.toList = a := by
  rw [extract_list]
  unfold bytesIn
  rw [h, List.drop_zero, Nat.sub_zero, List.take_left]
theorem suf_list2 {s : ByteArray} {a b : List UInt8} {c : UInt8} (h : s.data.toList = a ++ c :: b) : (s.extract (a.length + 1) s.size).data.toList = b := by
  rw [suf_list, h, show a ++ c :: b = (a ++ [c]) ++ b by simp, show a.length + 1 = (a ++ [c]).length by simp, List.drop_left]
/-- The first of two digits or more is no zero. -/
theorem dec_first {n : Nat} (h : n < 1000) {c : UInt8} {r : List UInt8} (hd : Tx.decT n = c :: r) (hr : r ≠ []) : 49 ≤ c.toNat ∧ c.toNat ≤ 57 := by
  unfold Tx.decT at hd
  by_cases h1 : 100 ≤ n
  · rw [if_pos h1] at hd
    injection hd with hd _
    rw [← hd, Tx.dig_nat (by omega)]; omega
  · rw [if_neg h1] at hd
    by_cases h2 : 10 ≤ n
    · rw [if_pos h2] at hd
      injection hd with hd _
      rw [← hd, Tx.dig_nat (by omega)]; omega
    · rw [if_neg h2] at hd
      injection hd with _ hd
      exact absurd hd.symm hr
theorem ret18 {w wr : World} {v0 v1 x a b c d : Value} {rest : List Value} {Q : Ending → World → Prop} (hb : Blk wr w.heap.size 54 pf0)
    (hq : Q (.returned (.tuple #[.agg #[a, b, c, d], x])) ((((wr.setCell ⟨w.heap.size, 0, none⟩ a).setCell ⟨w.heap.size, 1, none⟩ b).setCell ⟨w.heap.size, 2, none⟩ c).setCell ⟨w.heap.size, 3, none⟩ d)) :
    bodyPost Tryz.prog Tryz.f32 Q .ret ⟨(v0 :: v1 :: .pointer (some ⟨w.heap.size, 0, none⟩) :: x :: rest).toArray, []⟩ ((((wr.setCell ⟨w.heap.size, 0, none⟩ a).setCell ⟨w.heap.size, 1, none⟩ b).setCell ⟨w.heap.size, 2, none⟩ c).setCell ⟨w.heap.size, 3, none⟩ d) := by
  refine bodyPost_ret (v := .tuple #[.agg #[a, b, c, d], x]) ?_ rfl hq
  have r := ((((hb.set 0 a).set 1 b).set 2 c).set 3 d).cell
  simp [results, Tryz.results32, go_sem, r]
theorem low_put4 {B g : Nat} {w w' : World} (h : Below B w w') (hg : B ≤ g) {x y z u : Value} : Below B w ((((w'.setCell ⟨g, 0, none⟩ x).setCell ⟨g, 1, none⟩ y).setCell ⟨g, 2, none⟩ z).setCell ⟨g, 3, none⟩ u) :=
  (low_put h hg).setCell (p := ⟨g, 3, none⟩) hg u
set_option maxRecDepth 100000 in
set_option maxHeartbeats 8000000 in
theorem parsePf_in (s : ByteArray) (A : List UInt8) (n H L : Nat) (b6 : Bool) (z : ZP) (w : World) (hz : Zs w z) (hs : s.size ≤ 4611686018427387904) (hA : s.data.toList = A ++ 47 :: Tx.decT n) (hn : (n : Int) ≤ bl (some b6))
    (hPA : ∀ w1, Zs w1 z → Calls Tryz.prog 48 #[.string (s.extract 0 A.length)] w1 fun e w2 => e = .returned (.tuple #[.agg #[.int .u64 H, .int .u64 L, .pointer (z.ptr (some b6))], .nilIface]) ∧ Below w1.heap.size w1 w2) :
    Calls Tryz.prog 32 #[.string s] w fun e w' => e = .returned (.tuple #[.agg #[.int .u64 H, .int .u64 L, .pointer (z.ptr (some b6)), .int .u8 ((n + 1 : Nat) : Int)], .nilIface]) ∧ Below w.heap.size w w' := by
  have hn128 : n ≤ 128 := by cases b6 <;> simp [bl] at hn <;> omega
  have hdg := digs_dec (show n < 1000 by omega)
  have hl47 : lix s.data.toList 47 s.size = A.length := by
    rw [← str_len, hA]
    exact lix_all fun h => by have := (hdg 47 h).1; revert this; decide
  have hsl := str_len s
  rw [hA, List.length_append, List.length_cons] at hsl
  obtain ⟨T, hT⟩ : ∃ T, T = s.extract (A.length + 1) s.size := ⟨_, rfl⟩
  have hTL : T.data.toList = Tx.decT n := by rw [hT]; exact suf_list2 hA
  have hTz : T.size = (Tx.decT n).length := by rw [← str_len, hTL]
  have hdl : 0 < (Tx.decT n).length ∧ (Tx.decT n).length < 10 := by
    unfold Tx.decT
    simp only [List.length_append, List.length_cons, List.length_nil]
    split <;> split <;> simp
  have hT0 : 0 < T.size := by omega
  have hfst : ¬ (1 < T.size) ∨ (49 ≤ (T[0]'hT0).toNat ∧ (T[0]'hT0).toNat ≤ 57) := by
    by_cases h : 1 < T.size
    · right
      have e0 := at_list T 0 hT0
      rw [List.drop_zero] at e0
      have e1 := hTL.symm.trans e0
      refine dec_first (by omega) e1 fun h2 => ?_
      rw [h2] at e1
      have := congrArg List.length e1
      rw [List.length_singleton] at this
      omega
    · exact .inl h
  obtain ⟨x, hx⟩ : ∃ x, x = (T[0]'hT0).toNat := ⟨_, rfl⟩
  have hx' : (T[0]'hT0).toNat = x := hx.symm
  rw [hx'] at hfst
  have hi0 : ¬ ((A.length : Int) < 0) := by omega
  have hi1 : (A.length : Int) ≤ (s.size : Int) := by omega
  have hi2 : (A.length : Int) + 1 ≤ (s.size : Int) := by omega
  have hat := fun w => atoi_c T w hT0 (by omega) (by rw [hTL]; exact hdg)
  rw [hTL, numOf_dec (by omega)] at hat
  have HAT := Lib.hid hat
  have HT := Lib.hid hT
  have HZ := Lib.hid hz
  have HP := Lib.hid hPA
  have H47 := Lib.hid hl47
  clear hT hTL hz hPA hl47 hA hx hat hsl hdl hTz
  go_enter Tryz.func32, Tryz.ntmps32
  go_wp2_with fail
  refine (last_c s 47 _ hs).mono ?_
  rintro e w1 ⟨rfl, rfl⟩
  rw [H47.out]
  go_wp2_with fail
  have hb0 := heap_alloc_new w (.cells pf0 54)
  have hbl : Below w.heap.size w (w.alloc (.cells pf0 54)) := (Below.refl _ _).alloc (Nat.le_refl _) _
  have hb0 : Blk (w.alloc (.cells pf0 54)) w.heap.size 54 pf0 := hb0
  generalize w.alloc (.cells pf0 54) = w1 at *
  refine (HP.out w1 (HZ.out.keep hbl)).mono ?_
  rintro e w2 ⟨rfl, hb2⟩
  have hbw := hbl.trans (hb2.mono hbl.size)
  have hb0' := hb0.below hb2
  have HB := Lib.hid (And.intro hbw hb0')
  clear hb2 hbw hb0' hbl hb0
  go_wp2_with fail
  have hbA := heap_alloc_new w2 (.cells #[.int .u64 H, .int .u64 L, .pointer (z.ptr (some b6))] 52)
  have hbl3 : Below w.heap.size w (w2.alloc (.cells #[.int .u64 H, .int .u64 L, .pointer (z.ptr (some b6))] 52)) := HB.out.1.alloc HB.out.1.size _
  have hb03 := HB.out.2.below ((Below.refl _ w2).alloc (Nat.le_refl _) (.cells #[.int .u64 H, .int .u64 L, .pointer (z.ptr (some b6))] 52))
  have hbA : Blk (w2.alloc (.cells #[.int .u64 H, .int .u64 L, .pointer (z.ptr (some b6))] 52)) w2.heap.size 52 #[.int .u64 H, .int .u64 L, .pointer (z.ptr (some b6))] := hbA
  have hgA : w.heap.size ≤ w2.heap.size := HB.out.1.size
  generalize w2.alloc (.cells #[.int .u64 H, .int .u64 L, .pointer (z.ptr (some b6))] 52) = w3 at *
  generalize w2.heap.size = g at *
  refine (is6_c _ _ _ z w3 (HZ.out.keep hbl3)).mono ?_
  rintro e w4 ⟨rfl, hb4⟩
  have hbw := hbl3.trans (hb4.mono hbl3.size)
  have hbA4 := hbA.below hb4
  have hb04 := hb03.below hb4
  clear hb4 hbl3 hbA hb03
  have c0 : w4.cell? ⟨g, 0, none⟩ = some (.int .u64 H) := hbA4.cell 0
  have c1 : w4.cell? ⟨g, 1, none⟩ = some (.int .u64 L) := hbA4.cell 1
  have c2 : w4.cell? ⟨g, 2, none⟩ = some (.pointer (z.ptr (some b6))) := hbA4.cell 2
  have z6 := (HZ.out.keep hbw).z6
  have HB4 := Lib.hid (And.intro hbw (And.intro hbA4 hb04))
  clear hbw hbA4 hb04
  rw [show (some b6 == some true) = b6 by cases b6 <;> rfl]
  cases b6 with
  | false =>
    go_upto_region 10 with fail
    rw [← HT.out]
    by_cases h1 : 1 < T.size
    · have h1i : (T.size : Int) > 1 := by omega
      have hx1 : ¬ ((x : Int) < 49) := by rcases hfst with h | h <;> omega
      have hx2 : ¬ ((x : Int) > 57) := by rcases hfst with h | h <;> omega
      clear hfst
      go_wp2_with fail
      refine (HAT.out w4).mono ?_
      rintro e w5 ⟨rfl, hb5⟩
      have hbw := HB4.out.1.trans (hb5.mono HB4.out.1.size)
      have hbA5 := HB4.out.2.1.below hb5
      have hb05 := HB4.out.2.2.below hb5
      clear hb5 c0 c1 c2 z6
      have c0 : w5.cell? ⟨g, 0, none⟩ = some (.int .u64 H) := hbA5.cell 0
      have c1 : w5.cell? ⟨g, 1, none⟩ = some (.int .u64 L) := hbA5.cell 1
      have c2 : w5.cell? ⟨g, 2, none⟩ = some (.pointer (z.ptr (some false))) := hbA5.cell 2
      have HB5 := Lib.hid (And.intro hbw (And.intro hbA5 hb05))
      clear hbw hbA5 hb05
      go_wp2_with fail
      refine (is6_c _ _ (some false) z w5 (HZ.out.keep HB5.out.1)).mono ?_
      rintro e w6 ⟨rfl, hb6⟩
      have hbw := HB5.out.1.trans (hb6.mono HB5.out.1.size)
      have hbA6 := HB5.out.2.1.below hb6
      have hb06 := HB5.out.2.2.below hb6
      clear hb6 c0 c1 c2
      have c0 : w6.cell? ⟨g, 0, none⟩ = some (.int .u64 H) := hbA6.cell 0
      have c1 : w6.cell? ⟨g, 1, none⟩ = some (.int .u64 L) := hbA6.cell 1
      have c2 : w6.cell? ⟨g, 2, none⟩ = some (.pointer (z.ptr (some false))) := hbA6.cell 2
      have HB6 := Lib.hid (And.intro hbw hb06)
      clear hbw hbA6 hb06
      rw [show (some false == some true) = false from rfl]
      have hn0 : ¬ ((n : Int) < 0) := by omega
      have hn1 : ¬ ((n : Int) > 32) := by have : (n : Int) ≤ 32 := hn; omega
      go_wp2_with fail
      refine (pfFrom_c _ _ (some false) n z w6 (HZ.out.keep HB6.out.1) (by simp) hn).mono ?_
      rintro e w7 ⟨rfl, hb7⟩
      have hbw := HB6.out.1.trans (hb7.mono HB6.out.1.size)
      have hb07 := HB6.out.2.below hb7
      clear hb7 c0 c1 c2
      have r0 := hb07.cell
      have f0 := hb07.free
      have HB7 := Lib.hid (And.intro hbw hb07)
      clear hbw hb07
      go_wp2_with (with_reducible exact ret18 HB7.out.2 ⟨rfl, low_put4 HB7.out.1 (Nat.le_refl _)⟩)
    · have h1i : ¬ ((T.size : Int) > 1) := by omega
      clear hfst
      go_wp2_with fail
      refine (HAT.out w4).mono ?_
      rintro e w5 ⟨rfl, hb5⟩
      have hbw := HB4.out.1.trans (hb5.mono HB4.out.1.size)
      have hbA5 := HB4.out.2.1.below hb5
      have hb05 := HB4.out.2.2.below hb5
      clear hb5 c0 c1 c2 z6
      have c0 : w5.cell? ⟨g, 0, none⟩ = some (.int .u64 H) := hbA5.cell 0
      have c1 : w5.cell? ⟨g, 1, none⟩ = some (.int .u64 L) := hbA5.cell 1
      have c2 : w5.cell? ⟨g, 2, none⟩ = some (.pointer (z.ptr (some false))) := hbA5.cell 2
      have HB5 := Lib.hid (And.intro hbw (And.intro hbA5 hb05))
      clear hbw hbA5 hb05
      go_wp2_with fail
      refine (is6_c _ _ (some false) z w5 (HZ.out.keep HB5.out.1)).mono ?_
      rintro e w6 ⟨rfl, hb6⟩
      have hbw := HB5.out.1.trans (hb6.mono HB5.out.1.size)
      have hbA6 := HB5.out.2.1.below hb6
      have hb06 := HB5.out.2.2.below hb6
      clear hb6 c0 c1 c2
      have c0 : w6.cell? ⟨g, 0, none⟩ = some (.int .u64 H) := hbA6.cell 0
      have c1 : w6.cell? ⟨g, 1, none⟩ = some (.int .u64 L) := hbA6.cell 1
      have c2 : w6.cell? ⟨g, 2, none⟩ = some (.pointer (z.ptr (some false))) := hbA6.cell 2
      have HB6 := Lib.hid (And.intro hbw hb06)
      clear hbw hbA6 hb06
      rw [show (some false == some true) = false from rfl]
      have hn0 : ¬ ((n : Int) < 0) := by omega
      have hn1 : ¬ ((n : Int) > 32) := by have : (n : Int) ≤ 32 := hn; omega
      go_wp2_with fail
      refine (pfFrom_c _ _ (some false) n z w6 (HZ.out.keep HB6.out.1) (by simp) hn).mono ?_
      rintro e w7 ⟨rfl, hb7⟩
      have hbw := HB6.out.1.trans (hb7.mono HB6.out.1.size)
      have hb07 := HB6.out.2.below hb7
      clear hb7 c0 c1 c2
      have r0 := hb07.cell
      have f0 := hb07.free
      have HB7 := Lib.hid (And.intro hbw hb07)
      clear hbw hb07
      go_wp2_with (with_reducible exact ret18 HB7.out.2 ⟨rfl, low_put4 HB7.out.1 (Nat.le_refl _)⟩)
  | true =>
    rw [ptr6] at c2 ⊢
    go_upto_region 10 with fail
    rw [← HT.out]
    by_cases h1 : 1 < T.size
    · have h1i : (T.size : Int) > 1 := by omega
      have hx1 : ¬ ((x : Int) < 49) := by rcases hfst with h | h <;> omega
      have hx2 : ¬ ((x : Int) > 57) := by rcases hfst with h | h <;> omega
      clear hfst
      go_wp2_with fail
      refine (HAT.out w4).mono ?_
      rintro e w5 ⟨rfl, hb5⟩
      have hbw := HB4.out.1.trans (hb5.mono HB4.out.1.size)
      have hbA5 := HB4.out.2.1.below hb5
      have hb05 := HB4.out.2.2.below hb5
      clear hb5 c0 c1 c2 z6
      have c0 : w5.cell? ⟨g, 0, none⟩ = some (.int .u64 H) := hbA5.cell 0
      have c1 : w5.cell? ⟨g, 1, none⟩ = some (.int .u64 L) := hbA5.cell 1
      have c2 : w5.cell? ⟨g, 2, none⟩ = some (.pointer (z.ptr (some true))) := hbA5.cell 2
      have HB5 := Lib.hid (And.intro hbw (And.intro hbA5 hb05))
      clear hbw hbA5 hb05
      go_wp2_with fail
      refine (is6_c _ _ (some true) z w5 (HZ.out.keep HB5.out.1)).mono ?_
      rintro e w6 ⟨rfl, hb6⟩
      have hbw := HB5.out.1.trans (hb6.mono HB5.out.1.size)
      have hbA6 := HB5.out.2.1.below hb6
      have hb06 := HB5.out.2.2.below hb6
      clear hb6 c0 c1 c2
      have c0 : w6.cell? ⟨g, 0, none⟩ = some (.int .u64 H) := hbA6.cell 0
      have c1 : w6.cell? ⟨g, 1, none⟩ = some (.int .u64 L) := hbA6.cell 1
      have c2 : w6.cell? ⟨g, 2, none⟩ = some (.pointer (z.ptr (some true))) := hbA6.cell 2
      have HB6 := Lib.hid (And.intro hbw hb06)
      clear hbw hbA6 hb06
      rw [show (some true == some true) = true from rfl]
      have hn0 : ¬ ((n : Int) < 0) := by omega
      have hn1 : ¬ ((n : Int) > 128) := by have : (n : Int) ≤ 128 := hn; omega
      go_wp2_with fail
      refine (pfFrom_c _ _ (some true) n z w6 (HZ.out.keep HB6.out.1) (by simp) hn).mono ?_
      rintro e w7 ⟨rfl, hb7⟩
      have hbw := HB6.out.1.trans (hb7.mono HB6.out.1.size)
      have hb07 := HB6.out.2.below hb7
      clear hb7 c0 c1 c2
      have r0 := hb07.cell
      have f0 := hb07.free
      have HB7 := Lib.hid (And.intro hbw hb07)
      clear hbw hb07
      go_wp2_with (with_reducible exact ret18 HB7.out.2 ⟨rfl, low_put4 HB7.out.1 (Nat.le_refl _)⟩)
    · have h1i : ¬ ((T.size : Int) > 1) := by omega
      clear hfst
      go_wp2_with fail
      refine (HAT.out w4).mono ?_
      rintro e w5 ⟨rfl, hb5⟩
      have hbw := HB4.out.1.trans (hb5.mono HB4.out.1.size)
      have hbA5 := HB4.out.2.1.below hb5
      have hb05 := HB4.out.2.2.below hb5
      clear hb5 c0 c1 c2 z6
      have c0 : w5.cell? ⟨g, 0, none⟩ = some (.int .u64 H) := hbA5.cell 0
      have c1 : w5.cell? ⟨g, 1, none⟩ = some (.int .u64 L) := hbA5.cell 1
      have c2 : w5.cell? ⟨g, 2, none⟩ = some (.pointer (z.ptr (some true))) := hbA5.cell 2
      have HB5 := Lib.hid (And.intro hbw (And.intro hbA5 hb05))
      clear hbw hbA5 hb05
      go_wp2_with fail
      refine (is6_c _ _ (some true) z w5 (HZ.out.keep HB5.out.1)).mono ?_
      rintro e w6 ⟨rfl, hb6⟩
      have hbw := HB5.out.1.trans (hb6.mono HB5.out.1.size)
      have hbA6 := HB5.out.2.1.below hb6
      have hb06 := HB5.out.2.2.below hb6
      clear hb6 c0 c1 c2
      have c0 : w6.cell? ⟨g, 0, none⟩ = some (.int .u64 H) := hbA6.cell 0
      have c1 : w6.cell? ⟨g, 1, none⟩ = some (.int .u64 L) := hbA6.cell 1
      have c2 : w6.cell? ⟨g, 2, none⟩ = some (.pointer (z.ptr (some true))) := hbA6.cell 2
      have HB6 := Lib.hid (And.intro hbw hb06)
      clear hbw hbA6 hb06
      rw [show (some true == some true) = true from rfl]
      have hn0 : ¬ ((n : Int) < 0) := by omega
      have hn1 : ¬ ((n : Int) > 128) := by have : (n : Int) ≤ 128 := hn; omega
      go_wp2_with fail
      refine (pfFrom_c _ _ (some true) n z w6 (HZ.out.keep HB6.out.1) (by simp) hn).mono ?_
      rintro e w7 ⟨rfl, hb7⟩
      have hbw := HB6.out.1.trans (hb7.mono HB6.out.1.size)
      have hb07 := HB6.out.2.below hb7
      clear hb7 c0 c1 c2
      have r0 := hb07.cell
      have f0 := hb07.free
      have HB7 := Lib.hid (And.intro hbw hb07)
      clear hbw hb07
      go_wp2_with (with_reducible exact ret18 HB7.out.2 ⟨rfl, low_put4 HB7.out.1 (Nat.le_refl _)⟩)
end Go.Proofs.YtnoolheinkeocaaGreatDoor
