/-
  Contract of Addr.Compare.
-/
import Derived.Test.YtckfgdohpmllmaaDoorLeaf
namespace Go.Proofs.YtckfgdohpmllmaaDoor
open Go.RowKit
def cmpI (a b : Int) : Int := if a < b then -1 else if b < a then 1 else 0
def cmpA (k : Option Bool) (h l : Int) (k' : Option Bool) (h' l' : Int) : Int :=
  if bl k < bl k' then -1 else if bl k' < bl k then 1 else if h < h' then -1 else if h' < h then 1 else if l < l' then -1 else if l' < l then 1 else 0
theorem bl_inj {k k' : Option Bool} (h : bl k = bl k') : k = k' := by
  rcases k with _ | _ | _ <;> rcases k' with _ | _ | _ <;> simp [bl] at h ⊢
set_option maxHeartbeats 4000000 in
theorem compare_c (h l h' l' : Int) (k k' : Option Bool) (z : ZP) (w : World) (hz : Zs w z) :
    Calls Tryd.prog 79 #[.agg #[.int .u64 h, .int .u64 l, .pointer (z.ptr k)], .agg #[.int .u64 h', .int .u64 l', .pointer (z.ptr k')]] w fun e w' => e = .returned (.int .i64 (cmpA k h l k' h' l')) ∧ Below w.heap.size w w' := by
  obtain ⟨c, hc⟩ : ∃ c, c = cmpA k h l k' h' l' := ⟨_, rfl⟩
  rw [← hc]
  go_enter Tryd.func79, Tryd.ntmps79
  go_wp2_with fail
  refine region_all (Boxes w [#[.int .u64 h, .int .u64 l, .pointer (z.ptr k)], #[.int .u64 h', .int .u64 l', .pointer (z.ptr k')]]) (by kernel_rfl) (by kernel_rfl) ((boxes2 _ _ _).drew) ?_
  repeat (first | (refine quiet_skip rfl ?_; (simp only [Act.put, List.setIfInBounds_toArray, List.set_cons_zero, List.set_cons_succ])) | (refine quiet_run ?_ rfl (fun w1 hw1 => ?_) ?_; rotate_left; (have r0 := hw1.b0; have r1 := hw1.b1; go_simp; try (with_reducible rfl)); (simp only [Act.put, List.setIfInBounds_toArray, List.set_cons_zero, List.set_cons_succ])) | (refine quiet_call ?_ ?_ ?_ rfl (fun w1 hw1 => ?_) (fun w1 hw1 => ?_) ?_; rotate_left 3; (have r0 := hw1.b0; have r1 := hw1.b1; go_simp; refine ⟨?_, ?_⟩ <;> with_reducible rfl); (first | (go_at_call 71; (with_reducible refine (bitLen_c _ _ _ z w1 (hz.keep hw1.below)).mono ?_); rintro e w2 ⟨rfl, hb⟩; refine ⟨?_, hw1.keep hb⟩; with_reducible rfl) | (go_at_call 71; (refine (bitLen_c _ _ _ z w1 (hz.keep hw1.below)).mono ?_); rintro e w2 ⟨rfl, hb⟩; refine ⟨?_, hw1.keep hb⟩; with_reducible rfl)); (simp only [Act.put, List.setIfInBounds_toArray, List.set_cons_zero, List.set_cons_succ])))
  refine wpQuiet_nil ?_
  intro w1 hw1
  have b1 := hw1.below
  by_cases g1 : bl k < bl k'
  · obtain rfl : c = -1 := by rw [hc, cmpA, if_pos g1]
    clear hc
    go_wp2
    go_returns
    exact ⟨rfl, b1⟩
  by_cases g2 : bl k' < bl k
  · obtain rfl : c = 1 := by rw [hc, cmpA, if_neg g1, if_pos g2]
    clear hc
    go_wp2
    go_returns
    exact ⟨rfl, b1⟩
  obtain rfl := bl_inj (k := k) (k' := k') (by omega)
  replace hc : c = if h < h' then -1 else if h' < h then 1 else if l < l' then -1 else if l' < l then 1 else 0 := by rw [hc, cmpA, if_neg g1, if_neg g2]
  have HC := Lib.hid hc
  clear hc g1 g2
  go_wp2
  refine region_all (Boxes w [#[.int .u64 h, .int .u64 l, .pointer (z.ptr k)], #[.int .u64 h', .int .u64 l', .pointer (z.ptr k)]]) (by kernel_rfl) (by kernel_rfl) (hw1.drew) ?_
  repeat (first | (refine quiet_skip rfl ?_; (simp only [Act.put, List.setIfInBounds_toArray, List.set_cons_zero, List.set_cons_succ])) | (refine quiet_run ?_ rfl (fun w1 hw1 => ?_) ?_; rotate_left; (have r0 := hw1.b0; have r1 := hw1.b1; go_simp; try (with_reducible rfl)); (simp only [Act.put, List.setIfInBounds_toArray, List.set_cons_zero, List.set_cons_succ])))
  refine wpQuiet_nil ?_
  intro w2 hw2
  replace b1 := hw2.below
  clear hw1 w1
  by_cases g1 : h < h'
  · obtain rfl : c = -1 := by rw [HC.out, if_pos g1]
    clear HC
    go_wp2
    go_returns
    exact ⟨rfl, b1⟩
  by_cases g2 : h' < h
  · obtain rfl : c = 1 := by rw [HC.out, if_neg g1, if_pos g2]
    clear HC
    go_wp2
    go_returns
    exact ⟨rfl, b1⟩
  replace HC : Hid (c = if l < l' then -1 else if l' < l then 1 else 0) := by have := HC.out; rw [if_neg g1, if_neg g2] at this; exact this
  go_wp2
  refine region_all (Boxes w [#[.int .u64 h, .int .u64 l, .pointer (z.ptr k)], #[.int .u64 h', .int .u64 l', .pointer (z.ptr k)]]) (by kernel_rfl) (by kernel_rfl) (hw2.drew) ?_
  repeat (first | (refine quiet_skip rfl ?_; (simp only [Act.put, List.setIfInBounds_toArray, List.set_cons_zero, List.set_cons_succ])) | (refine quiet_run ?_ rfl (fun w1 hw1 => ?_) ?_; rotate_left; (have r0 := hw1.b0; have r1 := hw1.b1; go_simp; try (with_reducible rfl)); (simp only [Act.put, List.setIfInBounds_toArray, List.set_cons_zero, List.set_cons_succ])))
  refine wpQuiet_nil ?_
  intro w3 hw3
  replace b1 := hw3.below
  clear hw2 w2 g1 g2
  by_cases g1 : l < l'
  · obtain rfl : c = -1 := by rw [HC.out, if_pos g1]
    clear HC
    go_wp2
    go_returns
    exact ⟨rfl, b1⟩
  by_cases g2 : l' < l
  · obtain rfl : c = 1 := by rw [HC.out, if_neg g1, if_pos g2]
    clear HC
    go_wp2
    go_returns
    exact ⟨rfl, b1⟩
  obtain rfl : c = 0 := by rw [HC.out, if_neg g1, if_neg g2]
  clear HC
  have r0 := hw3.b0
  have r1 := hw3.b1
  go_wp2_with fail
  refine (is6_c _ _ _ z _ (hz.keep hw3.below)).mono ?_
  rintro e w4 ⟨rfl, hb4⟩
  have hw4 := hw3.keep hb4
  have b4 := hw4.below
  clear r0 r1 hb4 hw3 b1
  by_cases hk : k = some true
  · subst hk
    go_wp2
    refine region_all (Boxes w [#[.int .u64 h, .int .u64 l, .pointer (z.ptr (some true))], #[.int .u64 h', .int .u64 l', .pointer (z.ptr (some true))]]) (by kernel_rfl) (by kernel_rfl) (hw4.drew) ?_
    repeat (first | (refine quiet_skip rfl ?_; (simp only [Act.put, List.setIfInBounds_toArray, List.set_cons_zero, List.set_cons_succ])) | (refine quiet_run ?_ rfl (fun w1 hw1 => ?_) ?_; rotate_left; (have r0 := hw1.b0; have r1 := hw1.b1; go_simp; try (with_reducible rfl)); (simp only [Act.put, List.setIfInBounds_toArray, List.set_cons_zero, List.set_cons_succ])) | (refine quiet_call ?_ ?_ ?_ rfl (fun w1 hw1 => ?_) (fun w1 hw1 => ?_) ?_; rotate_left 3; (have r0 := hw1.b0; have r1 := hw1.b1; go_simp; refine ⟨?_, ?_⟩ <;> with_reducible rfl); (first | (go_at_call 69; (with_reducible refine (zone_c _ _ _ z w1 (hz.keep hw1.below)).mono ?_); rintro e w2 ⟨rfl, hb⟩; refine ⟨?_, hw1.keep hb⟩; with_reducible rfl) | (go_at_call 69; (refine (zone_c _ _ _ z w1 (hz.keep hw1.below)).mono ?_); rintro e w2 ⟨rfl, hb⟩; refine ⟨?_, hw1.keep hb⟩; with_reducible rfl)); (simp only [Act.put, List.setIfInBounds_toArray, List.set_cons_zero, List.set_cons_succ])))
    refine wpQuiet_nil ?_
    intro w5 hw5
    replace b4 := hw5.below
    go_wp2
    go_returns
    exact ⟨rfl, b4⟩
  · have hk' : (k == some true) = false := by simp [hk]
    go_wp2
    go_returns
    exact ⟨rfl, b4⟩
end Go.Proofs.YtckfgdohpmllmaaDoor
