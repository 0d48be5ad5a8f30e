/-
  Contracts: Next, Prev.
-/
import Derived.Test.YtocckokbdacdfaaDoorNext
namespace Go.Proofs.YtocckokbdacdfaaDoor
open Go Go.RowKit
theorem next_c (x : Ad) (z : ZP) (w : World) (hz : Zs w z) :
    Calls Tryd.prog 25 #[.agg #[.int .u64 x.h, .int .u64 x.l, .pointer (z.ptr x.k)]] w fun e w' =>
      e = .returned (.agg #[.int .u64 (nextAd x).h, .int .u64 (nextAd x).l, .pointer (z.ptr (nextAd x).k)]) ∧ Below w.heap.size w w' := by
  obtain ⟨h, l, k⟩ := x
  obtain ⟨r, hr⟩ : ∃ r, r = nextAd ⟨h, l, k⟩ := ⟨_, rfl⟩
  have HR := Lib.hid hr
  rw [← hr]
  clear hr
  go_enter Tryd.func25, Tryd.ntmps25
  go_wp2_with fail
  refine (addOne_c h l _).mono ?_
  rintro e w1 ⟨rfl, hb⟩
  have hw1 := (boxes2 _ _ _).keep hb
  replace HR : Hid (r = if (if k = some false then (l + 1) % 18446744073709551616 % 4294967296 = 0 else (h + (l + 1) / 18446744073709551616) % 18446744073709551616 = 0 ∧ (l + 1) % 18446744073709551616 = 0) then ⟨0, 0, none⟩ else ⟨(h + (l + 1) / 18446744073709551616) % 18446744073709551616, (l + 1) % 18446744073709551616, k⟩) := HR
  have hh : (h + (l + 1) / 18446744073709551616) % 18446744073709551616 < 18446744073709551616 := Nat.mod_lt _ (by decide)
  have hl : (l + 1) % 18446744073709551616 < 18446744073709551616 := Nat.mod_lt _ (by decide)
  generalize (h + (l + 1) / 18446744073709551616) % 18446744073709551616 = h' at *
  generalize (l + 1) % 18446744073709551616 = l' at *
  clear hb
  have r0 := hw1.b0
  have f0 := hw1.f0
  go_wp2_with fail
  have hw2 : Boxes w [#[.int .u64 h', .int .u64 l', .pointer (z.ptr k)], #[.int .u64 0, .int .u64 0, .pointer none]] ((w1.setCell ⟨w.heap.size, 0, none⟩ (.int .u64 h')).setCell ⟨w.heap.size, 1, none⟩ (.int .u64 l')) := (hw1.set 0 _ rfl 0 _).set 0 _ rfl 1 _
  refine (is4_c _ _ _ z _ (hz.keep hw2.below)).mono ?_
  rintro e w3 ⟨rfl, hb3⟩
  have hw3 := hw2.keep hb3
  clear r0 f0 hw1 hw2 hb3
  have r0 := hw3.b0
  have r1 := hw3.b1
  have f1 := hw3.f1
  have bb := hw3.below
  by_cases hk : k = some false
  · subst hk
    replace HR := Lib.hid (show r = if l' % 4294967296 = 0 then ⟨0, 0, none⟩ else ⟨h', l', some false⟩ by have := HR.out; simpa using this)
    by_cases l0 : l' % 4294967296 = 0
    · obtain rfl : r = ⟨0, 0, none⟩ := by rw [HR.out, if_pos l0]
      have e0 : ((l' : Int) % 4294967296 == 0) = true := by simp; omega
      clear HR l0
      go_wp2
      refine bodyPost_ret (v := .agg #[.int .u64 0, .int .u64 0, .pointer none]) (by simp [results, Tryd.results25, go_sem, r1]) rfl ?_
      exact ⟨rfl, by go_grown⟩
    · obtain rfl : r = ⟨h', l', some false⟩ := by rw [HR.out, if_neg l0]
      have e0 : ((l' : Int) % 4294967296 == 0) = false := by simp; omega
      clear HR l0
      go_wp2
      refine bodyPost_ret (v := .agg #[.int .u64 h', .int .u64 l', .pointer (z.ptr (some false))]) (by simp [results, Tryd.results25, go_sem, r1]) rfl ?_
      exact ⟨rfl, by go_grown⟩
  · have hk' : (k == some false) = false := by simp [hk]
    replace HR := Lib.hid (show r = if h' = 0 ∧ l' = 0 then ⟨0, 0, none⟩ else ⟨h', l', k⟩ by have := HR.out; simpa [hk] using this)
    go_wp2_with fail
    refine (isZero_c _ _ _).mono ?_
    rintro e w4 ⟨rfl, hb4⟩
    rw [or_zero h' l' hh hl]
    have hw4 := hw3.keep hb4
    clear r0 r1 f1 bb hw3 hb4
    have r0 := hw4.b0
    have r1 := hw4.b1
    have f1 := hw4.f1
    have bb := hw4.below
    by_cases l0 : h' = 0 ∧ l' = 0
    · obtain rfl : r = ⟨0, 0, none⟩ := by rw [HR.out, if_pos l0]
      have e0 : (h' == 0 && l' == 0) = true := by simp [l0.1, l0.2]
      rw [e0]
      clear HR l0 e0
      go_wp2
      refine bodyPost_ret (v := .agg #[.int .u64 0, .int .u64 0, .pointer none]) (by simp [results, Tryd.results25, go_sem, r1]) rfl ?_
      exact ⟨rfl, by go_grown⟩
    · obtain rfl : r = ⟨h', l', k⟩ := by rw [HR.out, if_neg l0]
      have e0 : (h' == 0 && l' == 0) = false := by rw [Bool.and_eq_false_iff]; simp; omega
      rw [e0]
      clear HR l0 e0
      go_wp2
      refine bodyPost_ret (v := .agg #[.int .u64 h', .int .u64 l', .pointer (z.ptr k)]) (by simp [results, Tryd.results25, go_sem, r1]) rfl ?_
      exact ⟨rfl, by go_grown⟩
theorem prev_c (x : Ad) (z : ZP) (w : World) (hz : Zs w z) (hh : x.h < 18446744073709551616) (hl : x.l < 18446744073709551616) :
    Calls Tryd.prog 29 #[.agg #[.int .u64 x.h, .int .u64 x.l, .pointer (z.ptr x.k)]] w fun e w' =>
      e = .returned (.agg #[.int .u64 (prevAd x).h, .int .u64 (prevAd x).l, .pointer (z.ptr (prevAd x).k)]) ∧ Below w.heap.size w w' := by
  obtain ⟨h, l, k⟩ := x
  obtain ⟨r, hr⟩ : ∃ r, r = prevAd ⟨h, l, k⟩ := ⟨_, rfl⟩
  have HR := Lib.hid hr
  rw [← hr]
  clear hr
  replace HR : Hid (r = if (if k = some false then l % 4294967296 = 0 else h = 0 ∧ l = 0) then ⟨0, 0, none⟩ else ⟨(h + 18446744073709551616 - (if l = 0 then 1 else 0)) % 18446744073709551616, (l + 18446744073709551615) % 18446744073709551616, k⟩) := HR
  go_enter Tryd.func29, Tryd.ntmps29
  go_wp2_with fail
  refine (is4_c _ _ _ z _ (hz.keep (boxes2 _ _ _).below)).mono ?_
  rintro e w3 ⟨rfl, hb3⟩
  have hw3 := (boxes2 _ _ _).keep hb3
  clear hb3
  have r0 := hw3.b0
  have r1 := hw3.b1
  have f1 := hw3.f1
  have bb := hw3.below
  by_cases hk : k = some false
  · subst hk
    by_cases l0 : l % 4294967296 = 0
    · obtain rfl : r = ⟨0, 0, none⟩ := by rw [HR.out, if_pos (by simpa using l0)]
      have e0 : ((l : Int) % 4294967296 == 0) = true := by simp; omega
      clear HR l0
      go_wp2
      refine bodyPost_ret (v := .agg #[.int .u64 0, .int .u64 0, .pointer none]) (by simp [results, Tryd.results29, go_sem, r1]) rfl ?_
      exact ⟨rfl, by go_grown⟩
    · have hr := HR.out
      rw [if_neg (by simpa using l0)] at hr
      have e0 : ((l : Int) % 4294967296 == 0) = false := by simp; omega
      have HR2 := Lib.hid hr
      clear HR hr l0
      go_wp2_with fail
      refine (subOne_c h l _).mono ?_
      rintro e w4 ⟨rfl, hb4⟩
      have hr := HR2.out
      clear HR2
      generalize (h + 18446744073709551616 - (if l = 0 then 1 else 0)) % 18446744073709551616 = h' at *
      generalize (l + 18446744073709551615) % 18446744073709551616 = l' at *
      subst hr
      have hw4 := hw3.keep hb4
      clear r0 r1 f1 bb hw3 hb4
      have r0 := hw4.b0
      have r1 := hw4.b1
      have f0 := hw4.f0
      have f1 := hw4.f1
      have bb := hw4.below
      go_wp2
      refine bodyPost_ret (v := .agg #[.int .u64 h', .int .u64 l', .pointer (z.ptr (some false))]) (by simp [results, Tryd.results29, go_sem, r1]) rfl ?_
      exact ⟨rfl, by go_grown⟩
  · have hk' : (k == some false) = false := by simp [hk]
    go_wp2_with fail
    refine (isZero_c _ _ _).mono ?_
    rintro e w5 ⟨rfl, hb5⟩
    rw [or_zero h l hh hl]
    have hw5 := hw3.keep hb5
    clear r0 r1 f1 bb hw3 hb5
    have r0 := hw5.b0
    have r1 := hw5.b1
    have f1 := hw5.f1
    have bb := hw5.below
    by_cases l0 : h = 0 ∧ l = 0
    · obtain rfl : r = ⟨0, 0, none⟩ := by rw [HR.out, if_pos (by simpa [hk] using l0)]
      have e0 : (h == 0 && l == 0) = true := by simp [l0.1, l0.2]
      rw [e0]
      clear HR l0 e0
      go_wp2
      refine bodyPost_ret (v := .agg #[.int .u64 0, .int .u64 0, .pointer none]) (by simp [results, Tryd.results29, go_sem, r1]) rfl ?_
      exact ⟨rfl, by go_grown⟩
    · have hr := HR.out
      rw [if_neg (by simpa [hk] using l0)] at hr
      have e0 : (h == 0 && l == 0) = false := by rw [Bool.and_eq_false_iff]; simp; omega
      rw [e0]
      have HR2 := Lib.hid hr
      clear HR hr l0 e0
      go_wp2_with fail
      refine (subOne_c h l _).mono ?_
      rintro e w4 ⟨rfl, hb4⟩
      have hr := HR2.out
      clear HR2
      generalize (h + 18446744073709551616 - (if l = 0 then 1 else 0)) % 18446744073709551616 = h' at *
      generalize (l + 18446744073709551615) % 18446744073709551616 = l' at *
      subst hr
      have hw4 := hw5.keep hb4
      clear r0 r1 f1 bb hw5 hb4
      have r0 := hw4.b0
      have r1 := hw4.b1
      have f0 := hw4.f0
      have f1 := hw4.f1
      have bb := hw4.below
      go_wp2
      refine bodyPost_ret (v := .agg #[.int .u64 h', .int .u64 l', .pointer (z.ptr k)]) (by simp [results, Tryd.results29, go_sem, r1]) rfl ?_
      exact ⟨rfl, by go_grown⟩
end Go.Proofs.YtocckokbdacdfaaDoor
