/-
  Contracts of the small functions of net/netip on prefixes.
-/
import Derived.Test.YtckfgdohpmllmaaDoorMem
import Derived.Test.YtckfgdohpmllmaaDoorRegion2
import Derived.Test.YtckfgdohpmllmaaDoorRegion3
import Derived.Test.YtckfgdohpmllmaaDoorBits
namespace Go.Proofs.YtckfgdohpmllmaaDoor
open Go Go.RowKit
theorem u128and_c (h l h' l' : Int) (w : World) :
    Calls Tryd.prog 58 #[.agg #[.int .u64 h, .int .u64 l], .agg #[.int .u64 h', .int .u64 l']] w fun e w' => e = .returned (.agg #[.int .u64 (bits .and .u64 h h'), .int .u64 (bits .and .u64 l l')]) ∧ Below w.heap.size w w' := by
  go_enter Tryd.func58, Tryd.ntmps58
  go_wp2
  go_returns
  exact ⟨rfl, by go_grown⟩
theorem u128xor_c (h l h' l' : Int) (w : World) :
    Calls Tryd.prog 72 #[.agg #[.int .u64 h, .int .u64 l], .agg #[.int .u64 h', .int .u64 l']] w fun e w' => e = .returned (.agg #[.int .u64 (bits .xor .u64 h h'), .int .u64 (bits .xor .u64 l l')]) ∧ Below w.heap.size w w' := by
  go_enter Tryd.func72, Tryd.ntmps72
  go_wp2
  go_returns
  exact ⟨rfl, by go_grown⟩
theorem pfBits_c (h l : Int) (P : Option Addr) (b : Nat) (hb : b ≤ 128) (w : World) :
    Calls Tryd.prog 62 #[.agg #[.int .u64 h, .int .u64 l, .pointer P, .int .u8 ((b + 1 : Nat) : Int)]] w fun e w' => e = .returned (.int .i64 b) ∧ Below w.heap.size w w' := by
  go_enter Tryd.func62, Tryd.ntmps62
  go_wp2
  go_returns
  exact ⟨by simp, by go_grown⟩
theorem pfValid_c (h l : Int) (P : Option Addr) (b : Nat) (w : World) :
    Calls Tryd.prog 63 #[.agg #[.int .u64 h, .int .u64 l, .pointer P, .int .u8 ((b + 1 : Nat) : Int)]] w fun e w' => e = .returned (.bool true) ∧ Below w.heap.size w w' := by
  go_enter Tryd.func63, Tryd.ntmps63
  go_wp2
  go_returns
  exact ⟨by simp, by go_grown⟩
theorem hasZone_c (h l : Int) (k : Option Bool) (z : ZP) (w : World) (hz : Zs w z) :
    Calls Tryd.prog 70 #[.agg #[.int .u64 h, .int .u64 l, .pointer (z.ptr k)]] w fun e w' => e = .returned (.bool false) ∧ Below w.heap.size w w' := by
  obtain ⟨s0, s1, s2, q4, q6, h4, h6, h0, hne, hne', p4, p6⟩ := hz.lay
  clear hz
  rcases k with _ | _ | _ <;> simp only [ptr0, ptr4, ptr6]
  all_goals
    go_enter Tryd.func70, Tryd.ntmps70
    go_wp2
    go_returns
    exact ⟨rfl, by go_grown⟩
theorem aZero_c (h l : Int) (k : Option Bool) (z : ZP) (w : World) (hz : Zs w z) :
    Calls Tryd.prog 77 #[.agg #[.int .u64 h, .int .u64 l, .pointer (z.ptr k)]] w fun e w' => e = .returned (.bool (k == none)) ∧ Below w.heap.size w w' := by
  obtain ⟨s0, s1, s2, q4, q6, h4, h6, h0, hne, hne', p4, p6⟩ := hz.lay
  clear hz
  rcases k with _ | _ | _ <;> simp only [ptr0, ptr4, ptr6]
  all_goals
    go_enter Tryd.func77, Tryd.ntmps77
    go_wp2
    go_returns
    exact ⟨rfl, by go_grown⟩
theorem noZone_c (h l : Int) (k : Option Bool) (z : ZP) (w : World) (hz : Zs w z) :
    Calls Tryd.prog 78 #[.agg #[.int .u64 h, .int .u64 l, .pointer (z.ptr k)]] w fun e w' => e = .returned (.agg #[.int .u64 h, .int .u64 l, .pointer (z.ptr k)]) ∧ Below w.heap.size w w' := by
  go_enter Tryd.func78, Tryd.ntmps78
  go_wp2_with fail
  refine (is6_c _ _ _ z _ (hz.keep (boxes2 _ _ _).below)).mono ?_
  rintro e w1 ⟨rfl, hb⟩
  have hw1 := (boxes2 _ _ _).keep hb
  have bb := hw1.below
  have r0 := hw1.b0
  have r1 := hw1.b1
  have f0 := hw1.f0
  have f1 := hw1.f1
  have z6 := (hz.keep bb).z6
  by_cases hk : k = some true
  · subst hk
    rw [ptr6] at r0 ⊢
    go_wp2
    refine bodyPost_ret (v := .agg #[.int .u64 h, .int .u64 l, .pointer (some ⟨z.b6, z.o6, none⟩)]) (by simp [results, Tryd.results78, go_sem, r1]) rfl ?_
    exact ⟨rfl, by go_grown⟩
  · have hk' : (k == some true) = false := by simp [hk]
    go_wp2
    refine bodyPost_ret (v := .agg #[.int .u64 h, .int .u64 l, .pointer (z.ptr k)]) (by simp [results, Tryd.results78, go_sem, r1]) rfl ?_
    exact ⟨rfl, by go_grown⟩
set_option maxHeartbeats 4000000 in
theorem pfFrom_c (h l : Int) (k : Option Bool) (b : Nat) (z : ZP) (w : World) (hz : Zs w z) (hk : k ≠ none) (hb : (b : Int) ≤ bl k) :
    Calls Tryd.prog 60 #[.agg #[.int .u64 h, .int .u64 l, .pointer (z.ptr k)], .int .i64 b] w fun e w' => e = .returned (.agg #[.int .u64 h, .int .u64 l, .pointer (z.ptr k), .int .u8 ((b + 1 : Nat) : Int)]) ∧ Below w.heap.size w w' := by
  have hb2 : b ≤ 128 := by rcases k with _ | _ | _ <;> simp [bl] at hb <;> omega
  have hk0 : (k == none) = false := by cases k <;> simp_all
  have d0 : decide ((0 : Int) ≤ b) = true := by simp
  have d1 : decide ((b : Int) ≤ bl k) = true := by simpa using hb
  have u1 : IntKind.u8.wrap (b : Int) = b := by show (b : Int) % 256 = b; omega
  have u2 : IntKind.u8.wrap ((b : Int) + 1) = ((b + 1 : Nat) : Int) := by show ((b : Int) + 1) % 256 = _; omega
  go_enter Tryd.func60, Tryd.ntmps60
  go_wp2_with fail
  refine (aZero_c h l k z _ (hz.keep (boxes2 _ _ _).below)).mono ?_
  rintro e w1 ⟨rfl, hb1⟩
  have hw1 := (boxes2 _ _ _).keep hb1
  rw [hk0]
  have r0 := hw1.b0
  clear hb1
  go_wp2_with fail
  refine (bitLen_c h l k z w1 (hz.keep hw1.below)).mono ?_
  rintro e w2 ⟨rfl, hb2⟩
  have hw2 := hw1.keep hb2
  clear hb2 hw1
  replace r0 := hw2.b0
  go_wp2_with fail
  refine (noZone_c h l k z w2 (hz.keep hw2.below)).mono ?_
  rintro e w3 ⟨rfl, hb3⟩
  have hw3 := hw2.keep hb3
  clear hb3 hw2 r0
  have bb := hw3.below
  have r1 := hw3.b1
  have f1 := hw3.f1
  go_wp2
  refine bodyPost_ret (v := .agg #[.int .u64 h, .int .u64 l, .pointer (z.ptr k), .int .u8 ((b + 1 : Nat) : Int)]) (by simp [results, Tryd.results60, go_sem, r1]) rfl ?_
  exact ⟨rfl, by go_grown⟩
set_option maxHeartbeats 4000000 in
theorem mask6_c (n : Nat) (hn : n ≤ 128) (w : World) :
    Calls Tryd.prog 59 #[.int .i64 n] w fun e w' => e = .returned (.agg #[.int .u64 (mHi n), .int .u64 (mLo n)]) ∧ Below w.heap.size w w' := by
  have h1 := shr_mask n
  have h2 := shl_mask (128 - n)
  have h3 := not_mask n
  have h4 : (128 : Int) - (n : Int) = ((128 - n : Nat) : Int) := by omega
  have h5 : ((2 ^ 64 - 2 ^ (min (128 - n) 64) : Nat) : Int) = (mLo n : Int) := rfl
  rw [h5] at h2
  have h6 : IntKind.i64.wrap ((128 - n : Nat) : Int) = ((128 - n : Nat) : Int) := by rw [IntKind.wrap_i64]; omega
  have H := Lib.hid (And.intro h1 (And.intro h2 (And.intro h3 (And.intro h4 h6))))
  clear h1 h2 h3 h4 h5 h6
  generalize (2 ^ (64 - min n 64) - 1 : Nat) = M at *
  go_enter Tryd.func59, Tryd.ntmps59
  go_wp2_with fail
  refine region_tail (Boxes w [#[.int .u64 0, .int .u64 0]]) 7 (by kernel_rfl) (by kernel_rfl) ((boxes1 _ _).drew) ?_
  simp only [List.take_succ_cons, List.take_zero, List.drop_succ_cons, List.drop_zero]
  repeat (first | (refine quiet_skip rfl ?_; (simp only [Act.put, List.setIfInBounds_toArray, List.set_cons_zero, List.set_cons_succ])) | (refine quiet_run ?_ rfl (fun w1 hw1 => ?_) ?_; rotate_left; (have r0 := H.out.1; have r1 := H.out.2.1; have r2 := H.out.2.2.1; have r3 := H.out.2.2.2.1; have r4 := H.out.2.2.2.2; go_simp; try (with_reducible rfl)); (simp only [Act.put, List.setIfInBounds_toArray, List.set_cons_zero, List.set_cons_succ])))
  refine wpQuiet_nil ?_
  intro w1 hw1
  have bb := hw1.below
  have r1 := hw1.b0
  have f1 := hw1.f0
  go_wp2
  refine bodyPost_ret (v := .agg #[.int .u64 (mHi n), .int .u64 (mLo n)]) (by simp [results, Tryd.results59, go_sem, r1]) rfl ?_
  exact ⟨rfl, by go_grown⟩
/-- What Contains says. -/
def inP (p : List UInt8) (k : Nat) (b : List UInt8) : Bool := decide (b.length = p.length ∧ Lib.beNat b / 2 ^ (8 * p.length - k) = Lib.beNat p / 2 ^ (8 * p.length - k))
theorem ad4 {b : List UInt8} (h : b.length = 4) : adOf b = ⟨0, 281470681743360 + Lib.beNat b, some false⟩ := by unfold adOf; rw [if_pos h]
theorem ad16 {b : List UInt8} (h : b.length = 16) : adOf b = ⟨Lib.beNat b / 2 ^ 64, Lib.beNat b % 2 ^ 64, some true⟩ := by
  rw [adOf_len (Or.inr h)]; unfold adV; rw [if_neg (by omega)]
set_option maxHeartbeats 8000000 in
theorem pfContains_c (p b : List UInt8) (k : Nat) (z : ZP) (w : World) (hz : Zs w z) (hp : isLen p.length) (hk : k ≤ 8 * p.length) :
    Calls Tryd.prog 52 #[.agg #[.int .u64 (adOf p).h, .int .u64 (adOf p).l, .pointer (z.ptr (adOf p).k), .int .u8 ((k + 1 : Nat) : Int)], .agg #[.int .u64 (adOf b).h, .int .u64 (adOf b).l, .pointer (z.ptr (adOf b).k)]] w fun e w' => e = .returned (.bool (inP p k b)) ∧ Below w.heap.size w w' := by
  have hk128 : k ≤ 128 := by unfold isLen at hp; omega
  obtain ⟨h1, h1'⟩ : ∃ x, x = (adOf p).h := ⟨_, rfl⟩
  obtain ⟨h2, h2'⟩ : ∃ x, x = (adOf p).l := ⟨_, rfl⟩
  obtain ⟨h3, h3'⟩ : ∃ x, x = (adOf p).k := ⟨_, rfl⟩
  obtain ⟨h4, h4'⟩ : ∃ x, x = (adOf b).h := ⟨_, rfl⟩
  obtain ⟨h5, h5'⟩ : ∃ x, x = (adOf b).l := ⟨_, rfl⟩
  obtain ⟨h6, h6'⟩ : ∃ x, x = (adOf b).k := ⟨_, rfl⟩
  rw [← h1', ← h2', ← h3', ← h4', ← h5', ← h6']
  obtain ⟨q, hq⟩ : ∃ q, q = inP p k b := ⟨_, rfl⟩
  rw [← hq]
  have HQ := Lib.hid hq
  have HH := Lib.hid (And.intro h1' (And.intro h2' (And.intro h3' (And.intro h4' (And.intro h5' h6')))))
  clear hq h1' h2' h3' h4' h5' h6'
  go_enter Tryd.func52, Tryd.ntmps52
  go_wp2_with fail
  have hw0 := boxes2 (x0 := #[.int .u64 h1, .int .u64 h2, .pointer (z.ptr h3), .int .u8 ((k + 1 : Nat) : Int)]) (x1 := #[.int .u64 h4, .int .u64 h5, .pointer (z.ptr h6)]) w 75 73
  refine (pfValid_c _ _ _ _ _).mono ?_
  rintro e w1 ⟨rfl, hb1⟩
  have hw1 := hw0.keep hb1
  have r1 := hw1.b1
  clear hw0 hb1
  go_wp2_with fail
  refine (hasZone_c _ _ _ z w1 (hz.keep hw1.below)).mono ?_
  rintro e w2 ⟨rfl, hb2⟩
  have hw2 := hw1.keep hb2
  clear hw1 hb2 r1
  go_wp2_with fail
  refine region_tail (Boxes w [#[.int .u64 h1, .int .u64 h2, .pointer (z.ptr h3), .int .u8 ((k + 1 : Nat) : Int)], #[.int .u64 h4, .int .u64 h5, .pointer (z.ptr h6)]]) 5 (by kernel_rfl) (by kernel_rfl) (hw2.drew) ?_
  simp only [List.take_succ_cons, List.take_zero, List.drop_succ_cons, List.drop_zero]
  repeat (first | (refine quiet_skip rfl ?_; (simp only [Act.put, List.setIfInBounds_toArray, List.set_cons_zero, List.set_cons_succ])) | (refine quiet_run ?_ rfl (fun w1 hw1 => ?_) ?_; rotate_left; (have r0 := hw1.b0; have r1 := hw1.b1; go_simp; try (with_reducible rfl)); (simp only [Act.put, List.setIfInBounds_toArray, List.set_cons_zero, List.set_cons_succ])) | (refine quiet_call ?_ ?_ ?_ rfl (fun w1 hw1 => ?_) (fun w1 hw1 => ?_) ?_; rotate_left 3; (have r0 := hw1.b0; have r1 := hw1.b1; go_simp; refine ⟨?_, ?_⟩ <;> with_reducible rfl); (first | (go_at_call 71; (with_reducible refine (bitLen_c _ _ _ z w1 (hz.keep hw1.below)).mono ?_); rintro e w2 ⟨rfl, hb⟩; refine ⟨?_, hw1.keep hb⟩; with_reducible rfl) | (go_at_call 71; (refine (bitLen_c _ _ _ z w1 (hz.keep hw1.below)).mono ?_); rintro e w2 ⟨rfl, hb⟩; refine ⟨?_, hw1.keep hb⟩; with_reducible rfl)); (simp only [Act.put, List.setIfInBounds_toArray, List.set_cons_zero, List.set_cons_succ])))
  refine wpQuiet_nil ?_
  intro w3 hw3
  have b3 := hw3.below
  clear hw2
  obtain ⟨e1, e2, e3, e4, e5, e6⟩ := HH.out
  have hq := HQ.out
  clear HH HQ
  rcases hp with hp4 | hp16
  · rw [ad4 hp4] at e1 e2 e3
    simp only at e1 e2 e3
    subst h3
    rw [show bl (some false) = 32 from rfl]
    by_cases hb4 : b.length = 4
    · rw [ad4 hb4] at e4 e5 e6
      simp only at e4 e5 e6
      subst h6
      rw [show bl (some false) = 32 from rfl]
      have r1 := hw3.b1
      go_wp2_with fail
      refine (is4_c _ _ _ z w3 (hz.keep hw3.below)).mono ?_
      rintro e w4 ⟨rfl, hb4'⟩
      have hw4 := hw3.keep hb4'
      clear r1 hb4' hw3 b3
      have hm := mask32 (Lib.beNat b) (Lib.beNat p) k (by have := beNat_lt b; rw [hb4] at this; exact this) (by have := beNat_lt p; rw [hp4] at this; exact this)
      rw [← e2, ← e5] at hm
      have hqq : decide (Lib.beNat b / 2 ^ (32 - k) = Lib.beNat p / 2 ^ (32 - k)) = q := by rw [hq]; unfold inP; rw [hb4, hp4]; simp
      rw [hqq] at hm
      have hk32 : k ≤ 32 := by omega
      have j1 : IntKind.i64.wrap (32 - (k : Int)) = ((32 - k : Nat) : Int) := by rw [IntKind.wrap_i64]; omega
      have j2 := i64_and63 (32 - k) (by omega)
      have HJ := Lib.hid (And.intro j1 (And.intro j2 hm))
      clear j1 j2 hm hqq hq e1 e2 e4 e5
      go_wp2_with fail
      refine region_all (Boxes w [#[.int .u64 h1, .int .u64 h2, .pointer (z.ptr (some false)), .int .u8 ((k + 1 : Nat) : Int)], #[.int .u64 h4, .int .u64 h5, .pointer (z.ptr (some false))]]) (by kernel_rfl) (by kernel_rfl) (hw4.drew) ?_
      repeat (first | (refine quiet_skip rfl ?_; (simp only [Act.put, List.setIfInBounds_toArray, List.set_cons_zero, List.set_cons_succ])) | (refine quiet_run ?_ rfl (fun w1 hw1 => ?_) ?_; rotate_left; (have r0 := hw1.b0; have r1 := hw1.b1; have r2 := HJ.out.1; have r3 := HJ.out.2.1; have r4 := HJ.out.2.2; go_simp; try (with_reducible rfl)); (simp only [Act.put, List.setIfInBounds_toArray, List.set_cons_zero, List.set_cons_succ])) | (refine quiet_call ?_ ?_ ?_ rfl (fun w1 hw1 => ?_) (fun w1 hw1 => ?_) ?_; rotate_left 3; (have r0 := hw1.b0; have r1 := hw1.b1; have r2 := HJ.out.1; have r3 := HJ.out.2.1; have r4 := HJ.out.2.2; go_simp; refine ⟨?_, ?_⟩ <;> with_reducible rfl); (first | (go_at_call 62; (with_reducible refine (pfBits_c _ _ _ k hk128 w1).mono ?_); rintro e w2 ⟨rfl, hb⟩; refine ⟨?_, hw1.keep hb⟩; with_reducible rfl) | (go_at_call 62; (refine (pfBits_c _ _ _ k hk128 w1).mono ?_); rintro e w2 ⟨rfl, hb⟩; refine ⟨?_, hw1.keep hb⟩; with_reducible rfl)); (simp only [Act.put, List.setIfInBounds_toArray, List.set_cons_zero, List.set_cons_succ])))
      refine wpQuiet_nil ?_
      intro w5 hw5
      have b5 := hw5.below
      go_wp2
      go_returns
      exact ⟨rfl, b5⟩
    · have hqf : q = false := by rw [hq]; unfold inP; simp [hp4, hb4]
      subst hqf
      clear hq e1 e2 e4 e5
      by_cases hb16 : b.length = 16
      · rw [ad16 hb16] at e6
        simp only at e6
        subst h6
        rw [show bl (some true) = 128 from rfl]
        go_wp2
        go_returns
        exact ⟨rfl, b3⟩
      · rw [adOf_no (by unfold isLen; omega)] at e6
        simp only at e6
        subst h6
        rw [show bl none = 0 from rfl]
        go_wp2
        go_returns
        exact ⟨rfl, b3⟩
  · rw [ad16 hp16] at e1 e2 e3
    simp only at e1 e2 e3
    subst h3
    rw [show bl (some true) = 128 from rfl]
    by_cases hb16 : b.length = 16
    · rw [ad16 hb16] at e4 e5 e6
      simp only at e4 e5 e6
      subst h6
      rw [show bl (some true) = 128 from rfl]
      have r1 := hw3.b1
      go_wp2_with fail
      refine (is4_c _ _ _ z w3 (hz.keep hw3.below)).mono ?_
      rintro e w4 ⟨rfl, hb4'⟩
      have hw4 := hw3.keep hb4'
      clear r1 hb4' hw3 b3
      have lb := beNat_lt b
      have lp := beNat_lt p
      rw [hb16, pow16] at lb
      rw [hp16, pow16] at lp
      have hm := mask128 h4 h5 h1 h2 k (by omega) (by omega) (by omega) (by omega) hk128
      have v1 : v128 h4 h5 = Lib.beNat b := by unfold v128; omega
      have v2 : v128 h1 h2 = Lib.beNat p := by unfold v128; omega
      rw [v1, v2] at hm
      have hqq : decide (Lib.beNat b / 2 ^ (128 - k) = Lib.beNat p / 2 ^ (128 - k)) = q := by rw [hq]; unfold inP; rw [hb16, hp16]; simp
      rw [hqq] at hm
      have HJ := Lib.hid hm
      clear hm hqq hq e1 e2 e4 e5 v1 v2 lb lp
      go_wp2_with fail
      refine region_all (Boxes w [#[.int .u64 h1, .int .u64 h2, .pointer (z.ptr (some true)), .int .u8 ((k + 1 : Nat) : Int)], #[.int .u64 h4, .int .u64 h5, .pointer (z.ptr (some true))]]) (by kernel_rfl) (by kernel_rfl) (hw4.drew) ?_
      repeat (first | (refine quiet_skip rfl ?_; (simp only [Act.put, List.setIfInBounds_toArray, List.set_cons_zero, List.set_cons_succ])) | (refine quiet_run ?_ rfl (fun w1 hw1 => ?_) ?_; rotate_left; (have r0 := hw1.b0; have r1 := hw1.b1; go_simp; try (with_reducible rfl)); (simp only [Act.put, List.setIfInBounds_toArray, List.set_cons_zero, List.set_cons_succ])) | (refine quiet_call ?_ ?_ ?_ rfl (fun w1 hw1 => ?_) (fun w1 hw1 => ?_) ?_; rotate_left 3; (have r0 := hw1.b0; have r1 := hw1.b1; go_simp; refine ⟨?_, ?_⟩ <;> with_reducible rfl); (first | (go_at_call 62; (with_reducible refine (pfBits_c _ _ _ k hk128 w1).mono ?_); rintro e w2 ⟨rfl, hb⟩; refine ⟨?_, hw1.keep hb⟩; with_reducible rfl) | (go_at_call 72; (with_reducible refine (u128xor_c _ _ _ _ w1).mono ?_); rintro e w2 ⟨rfl, hb⟩; refine ⟨?_, hw1.keep hb⟩; with_reducible rfl) | (go_at_call 59; (with_reducible refine (mask6_c k hk128 w1).mono ?_); rintro e w2 ⟨rfl, hb⟩; refine ⟨?_, hw1.keep hb⟩; with_reducible rfl) | (go_at_call 58; (with_reducible refine (u128and_c _ _ _ _ w1).mono ?_); rintro e w2 ⟨rfl, hb⟩; refine ⟨?_, hw1.keep hb⟩; with_reducible rfl) | (go_at_call 67; (with_reducible refine (isZero_c _ _ w1).mono ?_); rintro e w2 ⟨rfl, hb⟩; refine ⟨?_, hw1.keep hb⟩; with_reducible rfl) | (go_at_call 62; (refine (pfBits_c _ _ _ k hk128 w1).mono ?_); rintro e w2 ⟨rfl, hb⟩; refine ⟨?_, hw1.keep hb⟩; with_reducible rfl) | (go_at_call 72; (refine (u128xor_c _ _ _ _ w1).mono ?_); rintro e w2 ⟨rfl, hb⟩; refine ⟨?_, hw1.keep hb⟩; with_reducible rfl) | (go_at_call 59; (refine (mask6_c k hk128 w1).mono ?_); rintro e w2 ⟨rfl, hb⟩; refine ⟨?_, hw1.keep hb⟩; with_reducible rfl) | (go_at_call 58; (refine (u128and_c _ _ _ _ w1).mono ?_); rintro e w2 ⟨rfl, hb⟩; refine ⟨?_, hw1.keep hb⟩; with_reducible rfl) | (go_at_call 67; (refine (isZero_c _ _ w1).mono ?_); rintro e w2 ⟨rfl, hb⟩; refine ⟨?_, hw1.keep hb⟩; with_reducible rfl)); (simp only [Act.put, List.setIfInBounds_toArray, List.set_cons_zero, List.set_cons_succ])))
      refine wpQuiet_nil ?_
      intro w5 hw5
      have b5 := hw5.below
      go_wp2
      go_returns
      exact ⟨by rw [← HJ.out]; rfl, b5⟩
    · have hqf : q = false := by rw [hq]; unfold inP; simp [hp16, hb16]
      subst hqf
      clear hq e1 e2 e4 e5
      by_cases hb4 : b.length = 4
      · rw [ad4 hb4] at e6
        simp only at e6
        subst h6
        rw [show bl (some false) = 32 from rfl]
        go_wp2
        go_returns
        exact ⟨rfl, b3⟩
      · rw [adOf_no (by unfold isLen; omega)] at e6
        simp only at e6
        subst h6
        rw [show bl none = 0 from rfl]
        go_wp2
        go_returns
        exact ⟨rfl, b3⟩
end Go.Proofs.YtckfgdohpmllmaaDoor
