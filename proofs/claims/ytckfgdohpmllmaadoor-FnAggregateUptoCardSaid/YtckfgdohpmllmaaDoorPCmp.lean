/-
  Contracts of netip.Prefix.Masked and Compare, impl.PrefixCompareEach, laws.compared.
-/
import Derived.Test.YtckfgdohpmllmaaDoorOvEach
import Derived.Test.YtckfgdohpmllmaaDoorFromPf
import Derived.Test.YtckfgdohpmllmaaDoorRoom
namespace Go.Proofs.YtckfgdohpmllmaaDoor
open Go Go.RowKit
theorem aPrefix2_c (bs : List UInt8) (b : Nat) (z : ZP) (w : World) (hz : Zs w z) (hl : isLen bs.length) (hb : b ≤ 8 * bs.length) :
    Calls Tryd.prog 44 #[.agg #[.int .u64 (adOf bs).h, .int .u64 (adOf bs).l, .pointer (z.ptr (adOf bs).k)], .int .i64 b] w fun e w' => e = .returned (.tuple #[.agg #[.int .u64 (adOf (wb bs b false)).h, .int .u64 (adOf (wb bs b false)).l, .pointer (z.ptr (adOf (wb bs b false)).k), .int .u8 ((b : Int) + 1)], .nilIface]) ∧ Below w.heap.size w w' := by
  have h := aPrefix_c bs b z w hz hl hb
  rw [(mask_ad bs b hl hb).2.2]
  push_cast at h
  exact h
set_option maxRecDepth 100000 in
theorem masked_c (bs : List UInt8) (k : Nat) (z : ZP) (w : World) (hz : Zs w z) (hl : isLen bs.length) (hk : k ≤ 8 * bs.length) :
    Calls Tryd.prog 51 #[.agg #[.int .u64 (adOf bs).h, .int .u64 (adOf bs).l, .pointer (z.ptr (adOf bs).k), .int .u8 ((k : Int) + 1)]] w fun e w' => e = .returned (.agg #[.int .u64 (adOf (wb bs k false)).h, .int .u64 (adOf (wb bs k false)).l, .pointer (z.ptr (adOf (wb bs k false)).k), .int .u8 ((k : Int) + 1)]) ∧ Below w.heap.size w w' := by
  have hk8 : k ≤ 128 := by unfold isLen at hl; omega
  have hp := fun w hz => aPrefix2_c bs k z w hz hl hk
  generalize (adOf (wb bs k false)).h = mh at *
  generalize (adOf (wb bs k false)).l = ml at *
  generalize (adOf (wb bs k false)).k = mk at *
  generalize (adOf bs).h = ah at *
  generalize (adOf bs).l = al at *
  generalize (adOf bs).k = kk at *
  go_enter Tryd.func51, Tryd.ntmps51
  go_wp2_with fail
  refine region_pick (Boxes w [#[.int .u64 ah, .int .u64 al, .pointer (z.ptr kk), .int .u8 ((k : Int) + 1)], #[.int .u64 0, .int .u64 0, .pointer none, .int .u8 0]]) [(0, false, none), (1, false, none), (2, false, none), (3, false, none), (4, false, none), (5, false, none), (6, false, none), (7, false, none), (8, true, none), (9, true, none), (10, false, none)] 11 (by kernel_rfl) (by kernel_rfl) (fun w1 w2 h hb => h.keep hb) ((boxes2 _ _ _).drew) ?_
  simp only [pickOps, List.getElem?_cons_zero, List.getElem?_cons_succ]
  repeat (first | (refine t_skip rfl ?_; (simp only [Act.put, List.setIfInBounds_toArray, List.set_cons_zero, List.set_cons_succ])) | (refine t_run ?_ rfl (fun w1 hw1 => ?_) ?_; rotate_left; (have r0 := hw1.b0; go_simp; try (with_reducible rfl)); (simp only [Act.put, List.setIfInBounds_toArray, List.set_cons_zero, List.set_cons_succ])) | (refine t_call ?_ ?_ ?_ rfl (fun w1 hw1 => ?_) (fun w1 hw1 => ?_) ?_; rotate_left 3; (have r0 := hw1.b0; go_simp; refine ⟨?_, ?_⟩ <;> with_reducible rfl); (first | (go_at_call 62; (with_reducible refine (pfBits2_c _ _ _ k hk8 w1).mono ?_); rintro e w2 ⟨rfl, hb⟩; refine ⟨?_, hb⟩; with_reducible rfl) | (go_at_call 44; (with_reducible refine (hp w1 (hz.keep hw1.below)).mono ?_); rintro e w2 ⟨rfl, hb⟩; refine ⟨?_, hb⟩; with_reducible rfl) | (go_at_call 62; (refine (pfBits2_c _ _ _ k hk8 w1).mono ?_); rintro e w2 ⟨rfl, hb⟩; refine ⟨?_, hb⟩; with_reducible rfl) | (go_at_call 44; (refine (hp w1 (hz.keep hw1.below)).mono ?_); rintro e w2 ⟨rfl, hb⟩; refine ⟨?_, hb⟩; with_reducible rfl)); (simp only [Act.put, List.setIfInBounds_toArray, List.set_cons_zero, List.set_cons_succ])))
  refine t_new (fun v w' => Room (w.heap.size + 2) 75 4 v w') (by rfl) (fun v w w' h hb => h.keep hb) (fun w1 hw1 => ?_) ?_
  refine ⟨?_, ?_, ?_, ?_, ?_⟩
  rotate_left 2
  (go_simp; first | (refine ⟨?_, ?_⟩ <;> with_reducible rfl) | with_reducible rfl)
  exact Room.new w1 _ _ #[.int .u64 0, .int .u64 0, .pointer none, .int .u8 0] hw1.size
  exact (Below.refl _ _).alloc (Nat.le_refl _) _
  rintro v9 ⟨-, -, g, -, rfl, -, -, -⟩
  (simp only [Act.put, List.setIfInBounds_toArray, List.set_cons_zero, List.set_cons_succ])
  refine t_store (fun w' => Blk w' g 75 #[.int .u64 mh, .int .u64 ml, .pointer (z.ptr mk), .int .u8 ((k : Int) + 1)]) (by rfl) (fun w w' h hb => h.below hb) (fun w1 hw1 => ?_) ?_
  · obtain ⟨cs, hBg, hsz, hblk⟩ := hw1.2.out
    obtain ⟨x0, x1, x2, x3, rfl⟩ := size4 hsz
    have r0 := hblk.cell
    have f0 := hblk.free
    have l0 := hblk.lt
    have hset := (((hblk.set 0 (.int .u64 mh)).set 1 (.int .u64 ml)).set 2 (.pointer (z.ptr mk))).set 3 (.int .u8 ((k : Int) + 1))
    simp only [List.setIfInBounds_toArray, List.set_cons_zero, List.set_cons_succ] at hset
    have hbx := (((hw1.1.setOther hBg 0 (.int .u64 mh)).setOther hBg 1 (.int .u64 ml)).setOther hBg 2 (.pointer (z.ptr mk))).setOther hBg 3 (.int .u8 ((k : Int) + 1))
    have HS := Lib.hid (And.intro hset hbx)
    clear hset hbx hblk hw1 hp
    refine ⟨_, ?_, HS.out.1, HS.out.2, g, _, rfl, hBg, rfl, HS.out.1⟩
    go_simp
  intro _
  (simp only [Act.put])
  repeat (first | (refine t_skip rfl ?_; (simp only [Act.put, List.setIfInBounds_toArray, List.set_cons_zero, List.set_cons_succ])) | (refine t_run ?_ rfl (fun w1 hw1 => ?_) ?_; rotate_left; (go_simp; try (with_reducible rfl)); (simp only [Act.put, List.setIfInBounds_toArray, List.set_cons_zero, List.set_cons_succ])))
  intro w1 ⟨⟨hw1, _⟩, hblk⟩
  simp only [List.drop_succ_cons, List.drop_zero]
  have bb := hw1.below
  have r1 := hw1.b1
  have f1 := hw1.f1
  have s1 : w.heap.size + 1 < w1.heap.size := by have := hw1.size; simp at this; omega
  have r2 := hblk.cell
  clear hp
  go_wp2
  refine bodyPost_ret (v := .agg #[.int .u64 mh, .int .u64 ml, .pointer (z.ptr mk), .int .u8 ((k : Int) + 1)]) (by simp [results, Tryd.results51, go_sem, r1]) rfl ?_
  exact ⟨rfl, by go_grown⟩
theorem isNaN_c (x : Int) (w : World) : Calls Tryd.prog 86 #[.int .i64 x] w fun e w' => e = .returned (.bool false) ∧ Below w.heap.size w w' := by
  go_enter Tryd.func86, Tryd.ntmps86
  go_wp2
  go_returns
  exact ⟨by simp, by go_grown⟩
theorem cmpInt_c (x y : Int) (w : World) : Calls Tryd.prog 80 #[.int .i64 x, .int .i64 y] w fun e w' => e = .returned (.int .i64 (cmpI x y)) ∧ Below w.heap.size w w' := by
  obtain ⟨c, hc⟩ : ∃ c, c = cmpI x y := ⟨_, rfl⟩
  rw [← hc]
  go_enter Tryd.func80, Tryd.ntmps80
  go_wp2_with fail
  refine (isNaN_c x _).mono ?_
  rintro e w1 ⟨rfl, hb1⟩
  go_wp2_with fail
  refine (isNaN_c y _).mono ?_
  rintro e w2 ⟨rfl, hb2⟩
  have bb := hb1.trans (hb2.mono hb1.size)
  clear hb1 hb2
  by_cases h1 : x < y
  · obtain rfl : c = -1 := by rw [hc, cmpI, if_pos h1]
    clear hc
    go_wp2
    go_returns
    exact ⟨rfl, bb⟩
  · by_cases h2 : y < x
    · obtain rfl : c = 1 := by rw [hc, cmpI, if_neg h1, if_pos h2]
      clear hc
      go_wp2
      go_returns
      exact ⟨rfl, bb⟩
    · obtain rfl : c = 0 := by rw [hc, cmpI, if_neg h1, if_neg h2]
      clear hc
      go_wp2
      go_returns
      exact ⟨rfl, bb⟩
/-- How two prefixes compare. -/
def cmpP (p : List UInt8) (k : Nat) (q : List UInt8) (j : Nat) : Int :=
  if cmpOf (wb p k false) (wb q j false) ≠ 0 then cmpOf (wb p k false) (wb q j false) else if cmpI k j ≠ 0 then cmpI k j else cmpOf p q
set_option maxRecDepth 100000 in
set_option maxHeartbeats 4000000 in
theorem pfCompare_c (p q : List UInt8) (k j : Nat) (z : ZP) (w : World) (hz : Zs w z) (hp : isLen p.length) (hk : k ≤ 8 * p.length) (hq : isLen q.length) (hj : j ≤ 8 * q.length) :
    Calls Tryd.prog 65 #[.agg #[.int .u64 (adOf p).h, .int .u64 (adOf p).l, .pointer (z.ptr (adOf p).k), .int .u8 ((k : Int) + 1)], .agg #[.int .u64 (adOf q).h, .int .u64 (adOf q).l, .pointer (z.ptr (adOf q).k), .int .u8 ((j : Int) + 1)]] w fun e w' => e = .returned (.int .i64 (cmpP p k q j)) ∧ Below w.heap.size w w' := by
  have hk8 : k ≤ 128 := by unfold isLen at hp; omega
  have hj8 : j ≤ 128 := by unfold isLen at hq; omega
  have m1 := fun w hz => masked_c p k z w hz hp hk
  have m2 := fun w hz => masked_c q j z w hz hq hj
  obtain ⟨C1, hC1⟩ : ∃ c, c = cmpOf (wb p k false) (wb q j false) := ⟨_, rfl⟩
  obtain ⟨C3, hC3⟩ : ∃ c, c = cmpOf p q := ⟨_, rfl⟩
  have c1 : ∀ w, Zs w z → Calls Tryd.prog 79 #[.agg #[.int .u64 (adOf (wb p k false)).h, .int .u64 (adOf (wb p k false)).l, .pointer (z.ptr (adOf (wb p k false)).k)], .agg #[.int .u64 (adOf (wb q j false)).h, .int .u64 (adOf (wb q j false)).l, .pointer (z.ptr (adOf (wb q j false)).k)]] w fun e w' => e = .returned (.int .i64 C1) ∧ Below w.heap.size w w' := fun w hz => by
    rw [hC1]; exact compare_c _ _ _ _ _ _ z w hz
  have c3 : ∀ w, Zs w z → Calls Tryd.prog 79 #[.agg #[.int .u64 (adOf p).h, .int .u64 (adOf p).l, .pointer (z.ptr (adOf p).k)], .agg #[.int .u64 (adOf q).h, .int .u64 (adOf q).l, .pointer (z.ptr (adOf q).k)]] w fun e w' => e = .returned (.int .i64 C3) ∧ Below w.heap.size w w' := fun w hz => by
    rw [hC3]; exact compare_c _ _ _ _ _ _ z w hz
  have hcp : cmpP p k q j = if C1 ≠ 0 then C1 else if cmpI k j ≠ 0 then cmpI k j else C3 := by rw [hC1, hC3]; rfl
  obtain ⟨c, hc⟩ : ∃ c, c = cmpP p k q j := ⟨_, rfl⟩
  rw [← hc]
  rw [hcp] at hc
  clear hC1 hC3 hcp hp hq hk hj
  generalize (adOf (wb p k false)).h = p1 at *
  generalize (adOf (wb p k false)).l = p2 at *
  generalize (adOf (wb p k false)).k = p3 at *
  generalize (adOf (wb q j false)).h = q1 at *
  generalize (adOf (wb q j false)).l = q2 at *
  generalize (adOf (wb q j false)).k = q3 at *
  generalize (adOf p).h = p4 at *
  generalize (adOf p).l = p5 at *
  generalize (adOf p).k = p6 at *
  generalize (adOf q).h = q4 at *
  generalize (adOf q).l = q5 at *
  generalize (adOf q).k = q6 at *
  have c2 := fun w => cmpInt_c k j w
  generalize cmpI k j = C2 at *
  have HC := Lib.hid hc
  clear hc
  go_enter Tryd.func65, Tryd.ntmps65
  go_wp2_with fail
  refine region_all (Boxes w [#[.int .u64 p4, .int .u64 p5, .pointer (z.ptr p6), .int .u8 ((k : Int) + 1)], #[.int .u64 q4, .int .u64 q5, .pointer (z.ptr q6), .int .u8 ((j : Int) + 1)]]) (by kernel_rfl) (by kernel_rfl) ((boxes2 _ _ _).drew) ?_
  repeat (first | (refine quiet_skip rfl ?_; (simp only [Act.put, List.setIfInBounds_toArray, List.set_cons_zero, List.set_cons_succ])) | (refine quiet_run ?_ rfl (fun w1 hw1 => ?_) ?_; rotate_left; (have r0 := hw1.b0; have r1 := hw1.b1; go_simp; try (with_reducible rfl)); (simp only [Act.put, List.setIfInBounds_toArray, List.set_cons_zero, List.set_cons_succ])) | (refine quiet_call ?_ ?_ ?_ rfl (fun w1 hw1 => ?_) (fun w1 hw1 => ?_) ?_; rotate_left 3; (have r0 := hw1.b0; have r1 := hw1.b1; go_simp; refine ⟨?_, ?_⟩ <;> with_reducible rfl); (first | (go_at_call 51; (with_reducible refine (m1 w1 (hz.keep hw1.below)).mono ?_); rintro e w2 ⟨rfl, hb⟩; refine ⟨?_, hw1.keep hb⟩; with_reducible rfl) | (go_at_call 51; (with_reducible refine (m2 w1 (hz.keep hw1.below)).mono ?_); rintro e w2 ⟨rfl, hb⟩; refine ⟨?_, hw1.keep hb⟩; with_reducible rfl) | (go_at_call 61; (with_reducible refine (pfAddr_c _ _ _ _ w1).mono ?_); rintro e w2 ⟨rfl, hb⟩; refine ⟨?_, hw1.keep hb⟩; with_reducible rfl) | (go_at_call 79; (with_reducible refine (c1 w1 (hz.keep hw1.below)).mono ?_); rintro e w2 ⟨rfl, hb⟩; refine ⟨?_, hw1.keep hb⟩; with_reducible rfl) | (go_at_call 51; (refine (m1 w1 (hz.keep hw1.below)).mono ?_); rintro e w2 ⟨rfl, hb⟩; refine ⟨?_, hw1.keep hb⟩; with_reducible rfl) | (go_at_call 51; (refine (m2 w1 (hz.keep hw1.below)).mono ?_); rintro e w2 ⟨rfl, hb⟩; refine ⟨?_, hw1.keep hb⟩; with_reducible rfl) | (go_at_call 61; (refine (pfAddr_c _ _ _ _ w1).mono ?_); rintro e w2 ⟨rfl, hb⟩; refine ⟨?_, hw1.keep hb⟩; with_reducible rfl) | (go_at_call 79; (refine (c1 w1 (hz.keep hw1.below)).mono ?_); rintro e w2 ⟨rfl, hb⟩; refine ⟨?_, hw1.keep hb⟩; with_reducible rfl)); (simp only [Act.put, List.setIfInBounds_toArray, List.set_cons_zero, List.set_cons_succ])))
  refine wpQuiet_nil ?_
  intro w1 hw1
  by_cases h1 : C1 ≠ 0
  · have h1' : (C1 != 0) = true := by simpa using h1
    obtain rfl : c = C1 := by rw [HC.out, if_pos h1]
    clear HC
    have bb := hw1.below
    go_wp2
    go_returns
    exact ⟨rfl, bb⟩
  · obtain rfl : C1 = 0 := by simpa using h1
    replace HC : Hid (c = if C2 ≠ 0 then C2 else C3) := by have := HC.out; rw [if_neg (by simp)] at this; exact this
    clear h1
    go_wp2_with fail
    refine region_all (Boxes w [#[.int .u64 p4, .int .u64 p5, .pointer (z.ptr p6), .int .u8 ((k : Int) + 1)], #[.int .u64 q4, .int .u64 q5, .pointer (z.ptr q6), .int .u8 ((j : Int) + 1)]]) (by kernel_rfl) (by kernel_rfl) (hw1.drew) ?_
    repeat (first | (refine quiet_skip rfl ?_; (simp only [Act.put, List.setIfInBounds_toArray, List.set_cons_zero, List.set_cons_succ])) | (refine quiet_run ?_ rfl (fun w1 hw1 => ?_) ?_; rotate_left; (have r0 := hw1.b0; have r1 := hw1.b1; go_simp; try (with_reducible rfl)); (simp only [Act.put, List.setIfInBounds_toArray, List.set_cons_zero, List.set_cons_succ])) | (refine quiet_call ?_ ?_ ?_ rfl (fun w1 hw1 => ?_) (fun w1 hw1 => ?_) ?_; rotate_left 3; (have r0 := hw1.b0; have r1 := hw1.b1; go_simp; refine ⟨?_, ?_⟩ <;> with_reducible rfl); (first | (go_at_call 62; (with_reducible refine (pfBits2_c p4 p5 (z.ptr p6) k hk8 w1).mono ?_); rintro e w2 ⟨rfl, hb⟩; refine ⟨?_, hw1.keep hb⟩; with_reducible rfl) | (go_at_call 62; (with_reducible refine (pfBits2_c q4 q5 (z.ptr q6) j hj8 w1).mono ?_); rintro e w2 ⟨rfl, hb⟩; refine ⟨?_, hw1.keep hb⟩; with_reducible rfl) | (go_at_call 80; (with_reducible refine (c2 w1).mono ?_); rintro e w2 ⟨rfl, hb⟩; refine ⟨?_, hw1.keep hb⟩; with_reducible rfl) | (go_at_call 62; (refine (pfBits2_c p4 p5 (z.ptr p6) k hk8 w1).mono ?_); rintro e w2 ⟨rfl, hb⟩; refine ⟨?_, hw1.keep hb⟩; with_reducible rfl) | (go_at_call 62; (refine (pfBits2_c q4 q5 (z.ptr q6) j hj8 w1).mono ?_); rintro e w2 ⟨rfl, hb⟩; refine ⟨?_, hw1.keep hb⟩; with_reducible rfl) | (go_at_call 80; (refine (c2 w1).mono ?_); rintro e w2 ⟨rfl, hb⟩; refine ⟨?_, hw1.keep hb⟩; with_reducible rfl)); (simp only [Act.put, List.setIfInBounds_toArray, List.set_cons_zero, List.set_cons_succ])))
    refine wpQuiet_nil ?_
    intro w2 hw2
    by_cases h2 : C2 ≠ 0
    · have h2' : (C2 != 0) = true := by simpa using h2
      obtain rfl : c = C2 := by rw [HC.out, if_pos h2]
      clear HC
      have bb := hw2.below
      go_wp2
      go_returns
      exact ⟨rfl, bb⟩
    · obtain rfl : C2 = 0 := by simpa using h2
      obtain rfl : c = C3 := by rw [HC.out, if_neg (by simp)]
      clear HC h2
      go_wp2_with fail
      refine region_all (Boxes w [#[.int .u64 p4, .int .u64 p5, .pointer (z.ptr p6), .int .u8 ((k : Int) + 1)], #[.int .u64 q4, .int .u64 q5, .pointer (z.ptr q6), .int .u8 ((j : Int) + 1)]]) (by kernel_rfl) (by kernel_rfl) (hw2.drew) ?_
      repeat (first | (refine quiet_skip rfl ?_; (simp only [Act.put, List.setIfInBounds_toArray, List.set_cons_zero, List.set_cons_succ])) | (refine quiet_run ?_ rfl (fun w1 hw1 => ?_) ?_; rotate_left; (have r0 := hw1.b0; have r1 := hw1.b1; go_simp; try (with_reducible rfl)); (simp only [Act.put, List.setIfInBounds_toArray, List.set_cons_zero, List.set_cons_succ])) | (refine quiet_call ?_ ?_ ?_ rfl (fun w1 hw1 => ?_) (fun w1 hw1 => ?_) ?_; rotate_left 3; (have r0 := hw1.b0; have r1 := hw1.b1; go_simp; refine ⟨?_, ?_⟩ <;> with_reducible rfl); (first | (go_at_call 61; (with_reducible refine (pfAddr_c _ _ _ _ w1).mono ?_); rintro e w2 ⟨rfl, hb⟩; refine ⟨?_, hw1.keep hb⟩; with_reducible rfl) | (go_at_call 79; (with_reducible refine (c3 w1 (hz.keep hw1.below)).mono ?_); rintro e w2 ⟨rfl, hb⟩; refine ⟨?_, hw1.keep hb⟩; with_reducible rfl) | (go_at_call 61; (refine (pfAddr_c _ _ _ _ w1).mono ?_); rintro e w2 ⟨rfl, hb⟩; refine ⟨?_, hw1.keep hb⟩; with_reducible rfl) | (go_at_call 79; (refine (c3 w1 (hz.keep hw1.below)).mono ?_); rintro e w2 ⟨rfl, hb⟩; refine ⟨?_, hw1.keep hb⟩; with_reducible rfl)); (simp only [Act.put, List.setIfInBounds_toArray, List.set_cons_zero, List.set_cons_succ])))
      refine wpQuiet_nil ?_
      intro w3 hw3
      have bb := hw3.below
      go_wp2
      go_returns
      exact ⟨rfl, bb⟩
def cmps (p : List UInt8) (k : Nat) (ps : List (List UInt8 × Nat)) : List Int := ps.map fun q => cmpP p k q.1 q.2
def intCells (l : List Int) : List Value := l.map (Value.int .i64)
theorem cmps_take (p : List UInt8) (k : Nat) (es : List Pf) (i : Nat) (e : Pf) (h : es[i]? = some e) : intCells (cmps p k ((es.map Pf.is).take (i + 1))) = intCells (cmps p k ((es.map Pf.is).take i)) ++ [.int .i64 (cmpP p k e.bs e.k)] := by
  rw [List.take_add_one, List.getElem?_map, h]
  simp [cmps, intCells, Pf.is]
set_option maxRecDepth 100000 in
set_option maxHeartbeats 8000000 in
theorem pcEach_c (A0 : Option Addr) (n0 c0 : Nat) (ps : List UInt8) (k0 : Nat) (g o : Nat) (n c : Nat) (es : List Pf) (z : ZP) (w : World) (hz : Zs w z) (hr : RB w A0 n0 ps) (hl0 : isLen ps.length) (hk0 : k0 ≤ 8 * ps.length) (hl : RP w (some ⟨g, o, none⟩) n es) (hv : ∀ e ∈ es, Vp e.is) (hn : n ≤ 1099511627776) :
    Calls Tryd.prog 48 #[.agg #[.slice A0 n0 c0, .string ⟨#[]⟩, .int .i64 k0], .slice (some ⟨g, o, none⟩) n c] w fun e w' => ∃ A' c', e = .returned (.slice A' n c') ∧ w'.ownsRow w.heap.size 3 1 (.slice A' n c') n (intCells (cmps ps k0 (es.map Pf.is))) ∧ Below w.heap.size w w' := by
  obtain ⟨i0, hi, hz0, hz1, hz2⟩ := info_parts infoI64
  go_enter Tryd.func48, Tryd.ntmps48
  go_wp2_with fail
  go_loopw [5, 10] (fun v i wr => ∃ k : Nat, k ≤ n ∧ i = .int .i64 k ∧ wr.ownsRow (w.heap.size + 1) 3 1 v k (intCells (cmps ps k0 ((es.map Pf.is).take k))) ∧ Boxes w [#[.slice A0 n0 c0, .string ⟨#[]⟩, .int .i64 k0]] wr) (fun _ i _ => n - (intOf i).toNat)
  case atStart => exact ⟨0, Nat.zero_le _, rfl, World.ownsRow_nil _ _ _ _, boxes1 _ _⟩
  case round =>
    obtain ⟨k, hk, rfl, hown, hbx⟩ := hrel
    by_cases hlt : k < n
    · obtain ⟨g', o', e, hA, hg, hek, hc0, hc1, hc2, hb⟩ := (hl.keep hbx.below).at hlt
      injection hA with hA
      injection hA with hA1 hA2
      subst hA1 hA2
      have hve := hv e (List.mem_of_getElem? hek)
      have HO := Lib.hid hown
      have HE := Lib.hid hek
      have HR := Lib.hid (own_row_ge hown)
      clear hown hek
      go_wp2_with fail
      refine region_mtail (Boxes wr [#[.slice e.a e.n e.c, .string ⟨#[]⟩, .int .i64 e.k]]) 5 (by kernel_rfl) (by kernel_rfl) ((boxes1 _ _).drew) ?_ (fun _ _ _ h => h) (Or.inl ⟨rfl, fun w1 => ?_⟩) ?_
      rotate_left
      (go_simp; with_reducible rfl)
      simp only [List.take_succ_cons, List.take_zero, List.drop_succ_cons, List.drop_zero, Act.put, List.setIfInBounds_toArray, List.set_cons_zero, List.set_cons_succ]
      repeat (first | (refine quiet_skip rfl ?_; (simp only [Act.put, List.setIfInBounds_toArray, List.set_cons_zero, List.set_cons_succ])) | (refine quiet_run ?_ rfl (fun w1 hw1 => ?_) ?_; rotate_left; (have r0 := hw1.b0; have r1 := (hbx.keep hw1.below).b0; go_simp; try (with_reducible rfl)); (simp only [Act.put, List.setIfInBounds_toArray, List.set_cons_zero, List.set_cons_succ])) | (refine quiet_call ?_ ?_ ?_ rfl (fun w1 hw1 => ?_) (fun w1 hw1 => ?_) ?_; rotate_left 3; (have r0 := hw1.b0; have r1 := (hbx.keep hw1.below).b0; go_simp; refine ⟨?_, ?_⟩ <;> with_reducible rfl); (first | (go_at_call 46; (with_reducible refine (prefix_c A0 n0 c0 ps k0 z w1 (hz.keep (hbx.keep hw1.below).below) (hr.keep (hbx.keep hw1.below).below) hl0 hk0).mono ?_); rintro e w2 ⟨rfl, hb⟩; refine ⟨?_, hw1.keep hb⟩; with_reducible rfl) | (go_at_call 46; (with_reducible refine (prefix_c e.a e.n e.c e.bs e.k z w1 (hz.keep (hbx.keep hw1.below).below) (hb.keep hw1.below) hve.1 hve.2).mono ?_); rintro e w2 ⟨rfl, hb⟩; refine ⟨?_, hw1.keep hb⟩; with_reducible rfl) | (go_at_call 65; (with_reducible refine (pfCompare_c ps e.bs k0 e.k z w1 (hz.keep (hbx.keep hw1.below).below) hl0 hk0 hve.1 hve.2).mono ?_); rintro e w2 ⟨rfl, hb⟩; refine ⟨?_, hw1.keep hb⟩; with_reducible rfl) | (go_at_call 46; (refine (prefix_c A0 n0 c0 ps k0 z w1 (hz.keep (hbx.keep hw1.below).below) (hr.keep (hbx.keep hw1.below).below) hl0 hk0).mono ?_); rintro e w2 ⟨rfl, hb⟩; refine ⟨?_, hw1.keep hb⟩; with_reducible rfl) | (go_at_call 46; (refine (prefix_c e.a e.n e.c e.bs e.k z w1 (hz.keep (hbx.keep hw1.below).below) (hb.keep hw1.below) hve.1 hve.2).mono ?_); rintro e w2 ⟨rfl, hb⟩; refine ⟨?_, hw1.keep hb⟩; with_reducible rfl) | (go_at_call 65; (refine (pfCompare_c ps e.bs k0 e.k z w1 (hz.keep (hbx.keep hw1.below).below) hl0 hk0 hve.1 hve.2).mono ?_); rintro e w2 ⟨rfl, hb⟩; refine ⟨?_, hw1.keep hb⟩; with_reducible rfl)); (simp only [Act.put, List.setIfInBounds_toArray, List.set_cons_zero, List.set_cons_succ])))
      refine wpQuiet_nil ?_
      intro w1 hw1
      have hown1 := own_below HO.out hw1.below
      have hbx1 := hbx.keep hw1.below
      have hs1 := hbx1.size
      clear hbx
      go_wp2_with ((at_builtin; refine append1 rfl _ _ 40 rfl (w.heap.size + 1) 3 i0 (.int .i64 0) 1 8 Tryd.underlying40 hi hz0 hz1 hz2 rfl (by decide) _ _ _ rfl (hown1) _ _ [.int .i64 (cmpP ps k0 e.bs e.k)] rfl (by simp) rfl rfl (by unfold maxLen; omega) (by omega) (by first | omega | (simp; omega)) ?_))
      intro v' w2 hown2 hgrow
      have hbx2 := (hbx1.alloc _).grown hgrow (by simp; exact HR.out)
      rw [← cmps_take ps k0 es k e HE.out] at hown2
      have HO2 := Lib.hid hown2
      clear hown1 hown2 hbx1 hgrow hw1
      go_wp2
      go_roundw
      case rel => exact ⟨k + 1, by omega, by go_num, HO2.out, hbx2⟩
      case measure => simp [intOf]; omega
    · have hkn : k = n := by omega
      subst hkn
      have hb := hbx.below
      have HO := Lib.hid hown
      clear hown
      go_wp2
      go_returns
      obtain ⟨A', c', rfl⟩ := own_slice HO.out
      refine ⟨A', c', rfl, ?_, hb⟩
      have := HO.out
      rw [List.take_of_length_le (by rw [List.length_map, hl.1]; omega)] at this
      exact own_mono this (by omega)
set_option maxRecDepth 100000 in
set_option maxHeartbeats 4000000 in
theorem compared_c (A B : Option Addr) (n m c d : Nat) (ps qs : List UInt8) (k j : Nat) (z : ZP) (w : World) (hz : Zs w z) (h1 : RB w A n ps) (h2 : RB w B m qs) (hl : isLen ps.length) (hk : k ≤ 8 * ps.length) (hl' : isLen qs.length) (hj : j ≤ 8 * qs.length) :
    Calls Tryd.prog 33 #[.agg #[.slice A n c, .string ⟨#[]⟩, .int .i64 k], .agg #[.slice B m d, .string ⟨#[]⟩, .int .i64 j]] w fun e w' => e = .returned (.int .i64 (cmpP ps k qs j)) ∧ Below w.heap.size w w' := by
  go_enter Tryd.func33, Tryd.ntmps33
  go_wp2_with fail
  have hbx := boxes3 (x0 := #[.slice A n c, .string ⟨#[]⟩, .int .i64 k]) (x1 := #[.slice B m d, .string ⟨#[]⟩, .int .i64 j]) (x2 := #[.slice B m d, .string ⟨#[]⟩, .int .i64 j]) w 29 29 29
  have hrp : RP (((w.alloc (.cells #[.slice A n c, .string ⟨#[]⟩, .int .i64 k] 29)).alloc (.cells #[.slice B m d, .string ⟨#[]⟩, .int .i64 j] 29)).alloc (.cells #[.slice B m d, .string ⟨#[]⟩, .int .i64 j] 29)) (some ⟨w.heap.size + 1 + 1, 0, none⟩) 1 [⟨B, m, d, qs, j⟩] := by
    refine ⟨rfl, fun _ => ⟨_, _, rfl, by simp, fun i u hi => ?_⟩, fun e he => ?_⟩
    · rw [hbx.b2]
      match i, hi with
      | 0, hi => simpa [pfCells, Pf.cells] using hi
      | 1, hi => simpa [pfCells, Pf.cells] using hi
      | 2, hi => simpa [pfCells, Pf.cells] using hi
    · simp at he; subst he; exact h2.keep hbx.below
  refine (pcEach_c A n c ps k _ _ 1 1 [⟨B, m, d, qs, j⟩] z _ (hz.keep hbx.below) (h1.keep hbx.below) hl hk hrp (fun e he => by simp at he; subst he; exact ⟨hl', hj⟩) (by omega)).mono ?_
  rintro e w1 ⟨A', c', rfl, hown, hb⟩
  obtain ⟨g, hA, hg, hc⟩ := own_some hown (by omega)
  subst hA
  have hc0 := hc 0 (.int .i64 (cmpP ps k qs j)) rfl
  have hbb := (hbx.keep hb).below
  clear hown hc hrp hbx hb
  go_wp2
  go_returns
  exact ⟨rfl, hbb⟩
end Go.Proofs.YtckfgdohpmllmaaDoor
