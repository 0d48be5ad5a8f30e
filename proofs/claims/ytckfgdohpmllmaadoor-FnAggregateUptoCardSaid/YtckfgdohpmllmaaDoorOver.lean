/-
  Contracts of Addr.Prefix and Prefix.Overlaps at valid prefixes.
-/
import Derived.Test.YtckfgdohpmllmaaDoorLeft
namespace Go.Proofs.YtckfgdohpmllmaaDoor
open Go Go.RowKit
theorem floor_split (C s v : Nat) (hC : ∃ D, C = D * 2 ^ s) : (C + v) / 2 ^ s * 2 ^ s = C + v / 2 ^ s * 2 ^ s := by
  obtain ⟨D, rfl⟩ := hC
  have hp := Nat.pow_pos (n := s) (show 0 < 2 by omega)
  rw [Nat.mul_comm D, Nat.mul_add_div hp, Nat.add_mul, Nat.mul_comm (2 ^ s) D]
theorem v_floor6 (N b : Nat) (hN : N < 2 ^ 128) (hb : b ≤ 128) :
    (N / 2 ^ (128 - b) * 2 ^ (128 - b)) / 2 ^ 64 = N / 2 ^ 64 / 2 ^ (64 - min b 64) * 2 ^ (64 - min b 64) ∧ (N / 2 ^ (128 - b) * 2 ^ (128 - b)) % 2 ^ 64 = N % 2 ^ 64 / 2 ^ (min (128 - b) 64) * 2 ^ (min (128 - b) 64) := by
  have p64 : 0 < 2 ^ 64 := Nat.pow_pos (by omega)
  by_cases hc : b ≤ 64
  · rw [Nat.min_eq_left hc, Nat.min_eq_right (by omega), show 128 - b = 64 + (64 - b) by omega, Nat.pow_add, ← Nat.div_div_eq_div_mul]
    have e : N / 2 ^ 64 / 2 ^ (64 - b) * (2 ^ 64 * 2 ^ (64 - b)) = (N / 2 ^ 64 / 2 ^ (64 - b) * 2 ^ (64 - b)) * 2 ^ 64 := by
      rw [Nat.mul_assoc, Nat.mul_comm (2 ^ (64 - b))]
    rw [e, Nat.mul_div_cancel _ p64, Nat.mul_mod_left]
    refine ⟨rfl, ?_⟩
    rw [Nat.div_eq_of_lt (Nat.mod_lt _ p64), Nat.zero_mul]
  · rw [Nat.min_eq_right (by omega), Nat.min_eq_left (by omega)]
    have hN2 := Nat.div_add_mod N (2 ^ 64)
    have hl := Nat.mod_lt N p64
    generalize N / 2 ^ 64 = h at *
    generalize N % 2 ^ 64 = l at *
    subst hN2
    rw [Nat.mul_comm (2 ^ 64) h, floor_split (h * 2 ^ 64) (128 - b) l ⟨h * 2 ^ (b - 64), by rw [Nat.mul_assoc, ← Nat.pow_add]; congr 2; omega⟩]
    have hle : l / 2 ^ (128 - b) * 2 ^ (128 - b) < 2 ^ 64 := Nat.lt_of_le_of_lt (Nat.div_mul_le_self _ _) hl
    generalize l / 2 ^ (128 - b) * 2 ^ (128 - b) = m at *
    rw [Nat.mul_comm h]
    refine ⟨?_, ?_⟩
    · rw [Nat.mul_add_div p64, Nat.div_eq_of_lt hle]; simp
    · rw [Nat.mul_add_mod, Nat.mod_eq_of_lt hle]
/-- Masked, an address is that of the bytes whose bits from there on are off. -/
theorem mask_ad (bs : List UInt8) (b : Nat) (hl : isLen bs.length) (hb : b ≤ 8 * bs.length) :
    bits .and .u64 ((adOf bs).h : Int) (mHi (b + if bs.length = 4 then 96 else 0)) = ((adOf (wb bs b false)).h : Int) ∧ bits .and .u64 ((adOf bs).l : Int) (mLo (b + if bs.length = 4 then 96 else 0)) = ((adOf (wb bs b false)).l : Int) ∧ (adOf (wb bs b false)).k = (adOf bs).k := by
  have hlt := beNat_lt bs
  have hwb := wb_beNat bs b false
  have hwl := wb_len bs b false
  unfold wbN at hwb
  simp only [Bool.false_eq_true, if_false, Nat.add_zero] at hwb
  rcases hl with h4 | h16
  · rw [h4] at hlt hwb hb hwl
    rw [ad4 h4, ad4 hwl, if_pos h4, hwb]
    refine ⟨?_, ?_, rfl⟩
    · rw [and64 _ _ (by simp) (mHi_lt _)]
      simp
    · simp only
      rw [and64 _ _ (by omega) (mLo_lt _)]
      congr 1
      have e : (281470681743360 + Lib.beNat bs) &&& mLo (b + 96) = (281470681743360 + Lib.beNat bs) / 2 ^ (min (128 - (b + 96)) 64) * 2 ^ (min (128 - (b + 96)) 64) := and_high _ _ (by omega) (by omega)
      rw [e, show min (128 - (b + 96)) 64 = 32 - b by omega, floor_split 281470681743360 (32 - b) _ ⟨65535 * 2 ^ b, by rw [Nat.mul_assoc, ← Nat.pow_add, show b + (32 - b) = 32 by omega]⟩]
  · rw [h16] at hlt hwb hb hwl
    rw [pow16] at hlt
    rw [ad16 h16, ad16 hwl, if_neg (by omega), hwb]
    obtain ⟨f1, f2⟩ := v_floor6 (Lib.beNat bs) b hlt hb
    have hh : Lib.beNat bs / 2 ^ 64 < 2 ^ 64 := by omega
    have hll : Lib.beNat bs % 2 ^ 64 < 2 ^ 64 := by omega
    refine ⟨?_, ?_, rfl⟩
    · simp only [Nat.add_zero]
      rw [and64 _ _ hh (mHi_lt _), show 8 * 16 - b = 128 - b by omega, f1]
      exact congrArg _ (and_high _ _ hh (by omega))
    · simp only [Nat.add_zero]
      rw [and64 _ _ hll (mLo_lt _), show 8 * 16 - b = 128 - b by omega, f2]
      exact congrArg _ (and_high _ _ hll (by omega))
theorem plainAt_alloc2 (w : World) (o0 o1 : Obj) (b : Nat) (h : plainAt w b = true) : plainAt ((w.alloc o0).alloc o1) b = true := plainAt_alloc _ _ _ (plainAt_alloc _ _ _ h)
/-- Two boxes known whole. -/
structure TwoB (w : World) (t0 t1 : TypeId) (x0 x1 : Array Value) (w' : World) : Prop where
  b0 : Blk w' w.heap.size t0 x0
  b1 : Blk w' (w.heap.size + 1) t1 x1
  below : Below w.heap.size w w'
theorem TwoB.keep {w : World} {t0 t1 : TypeId} {x0 x1 : Array Value} {w1 w2 : World} (h : TwoB w t0 t1 x0 x1 w1) (hb : Below w1.heap.size w1 w2) : TwoB w t0 t1 x0 x1 w2 := ⟨h.b0.below hb, h.b1.below hb, h.below.trans (hb.mono h.below.size)⟩
theorem TwoB.drew {w : World} {t0 t1 : TypeId} {x0 x1 : Array Value} {w1 : World} (h : TwoB w t0 t1 x0 x1 w1) : TwoB w t0 t1 x0 x1 w1.drew := ⟨h.b0, h.b1, h.below.drew⟩
theorem TwoB.set0 {w : World} {t0 t1 : TypeId} {x0 x1 : Array Value} {w1 : World} (h : TwoB w t0 t1 x0 x1 w1) (i : Nat) (u : Value) : TwoB w t0 t1 (x0.setIfInBounds i u) x1 (w1.setCell ⟨w.heap.size, i, none⟩ u) :=
  ⟨h.b0.set i u, (Below.heap_setCell _ _ _ _ (by show w.heap.size + 1 ≠ w.heap.size; omega)).trans h.b1, h.below.setCell (p := ⟨w.heap.size, i, none⟩) (Nat.le_refl _) u⟩
theorem TwoB.set1 {w : World} {t0 t1 : TypeId} {x0 x1 : Array Value} {w1 : World} (h : TwoB w t0 t1 x0 x1 w1) (i : Nat) (u : Value) : TwoB w t0 t1 x0 (x1.setIfInBounds i u) (w1.setCell ⟨w.heap.size + 1, i, none⟩ u) :=
  ⟨(Below.heap_setCell _ _ _ _ (by show w.heap.size ≠ w.heap.size + 1; omega)).trans h.b0, h.b1.set i u, h.below.setCell (p := ⟨w.heap.size + 1, i, none⟩) (by simp) u⟩
theorem twoB (w : World) (t0 t1 : TypeId) (x0 x1 : Array Value) : TwoB w t0 t1 x0 x1 ((w.alloc (.cells x0 t0)).alloc (.cells x1 t1)) :=
  ⟨(Below.heap_alloc _ _ _ (by simp)).trans (heap_alloc_new _ _), by have := heap_alloc_new (w.alloc (.cells x0 t0)) (.cells x1 t1); simpa [Blk] using this, (boxes2 w t0 t1).below⟩
set_option maxRecDepth 100000 in
set_option maxHeartbeats 8000000 in
theorem aPrefix_c (bs : List UInt8) (b : Nat) (z : ZP) (w : World) (hz : Zs w z) (hl : isLen bs.length) (hb : b ≤ 8 * bs.length) :
    Calls Tryd.prog 44 #[.agg #[.int .u64 (adOf bs).h, .int .u64 (adOf bs).l, .pointer (z.ptr (adOf bs).k)], .int .i64 b] w fun e w' => e = .returned (.tuple #[.agg #[.int .u64 (adOf (wb bs b false)).h, .int .u64 (adOf (wb bs b false)).l, .pointer (z.ptr (adOf bs).k), .int .u8 ((b + 1 : Nat) : Int)], .nilIface]) ∧ Below w.heap.size w w' := by
  obtain ⟨l1, l2⟩ := bl_len hl
  have l3 : (b : Int) ≤ bl (adOf bs).k := by rw [l2]; exact_mod_cast hb
  obtain ⟨e1, e2, -⟩ := mask_ad bs b hl hb
  have hkk : (adOf bs).k = if bs.length = 4 then some false else some true := by
    rcases hl with h | h
    · rw [ad4 h, if_pos h]
    · rw [ad16 h, if_neg (by omega)]
  have hb32 : bs.length = 4 → b ≤ 32 := fun h => by omega
  have hb128 : b ≤ 128 := by unfold isLen at hl; omega
  generalize (adOf (wb bs b false)).h = mh at *
  generalize (adOf (wb bs b false)).l = ml at *
  generalize (adOf bs).h = ah at *
  generalize (adOf bs).l = al at *
  generalize (adOf bs).k = kk at *
  obtain ⟨s0, s1, s2, q4, q6, h4, h6, h0, hne, hne', p4, p6⟩ := hz.lay
  by_cases hc : bs.length = 4
  · rw [if_pos hc] at e1 e2 hkk
    have hb3 := hb32 hc
    subst hkk
    obtain ⟨N, hN⟩ : ∃ N, N = b + 96 := ⟨_, rfl⟩
    rw [← hN] at e1 e2
    have hN2 : N ≤ 128 := by omega
    have HE := Lib.hid (And.intro e1 (And.intro e2 hN))
    clear e1 e2 hb32 hl hb hN
    have hT := twoB w 73 75 #[.int .u64 ah, .int .u64 al, .pointer (z.ptr (some false))] #[.int .u64 0, .int .u64 0, .pointer none, .int .u8 0]
    go_enter Tryd.func44, Tryd.ntmps44
    rw [ptr4]
    go_wp2_with fail
    rw [ptr4] at hT
    rw [show ((b : Int) + 96) = (N : Int) by have := HE.out.2.2; omega]
    refine region_tail (TwoB w 73 75 #[.int .u64 ah, .int .u64 al, .pointer (some ⟨z.b4, z.o4, none⟩)] #[.int .u64 0, .int .u64 0, .pointer none, .int .u8 0]) 6 (by kernel_rfl) (by kernel_rfl) (hT.drew) ?_
    simp only [List.take_succ_cons, List.take_zero, List.drop_succ_cons, List.drop_zero]
    repeat (first | (refine quiet_skip rfl ?_; (simp only [Act.put, List.setIfInBounds_toArray, List.set_cons_zero, List.set_cons_succ])) | (refine quiet_run ?_ rfl (fun w1 hw1 => ?_) ?_; rotate_left; (have r0 := hw1.b0.cell; have r1 := HE.out.1; have r2 := HE.out.2.1; go_simp; try (with_reducible rfl)); (simp only [Act.put, List.setIfInBounds_toArray, List.set_cons_zero, List.set_cons_succ])) | (refine quiet_call ?_ ?_ ?_ rfl (fun w1 hw1 => ?_) (fun w1 hw1 => ?_) ?_; rotate_left 3; (have r0 := hw1.b0.cell; have r1 := HE.out.1; have r2 := HE.out.2.1; go_simp; refine ⟨?_, ?_⟩ <;> with_reducible rfl); (first | (go_at_call 59; (with_reducible refine (mask6_c N hN2 w1).mono ?_); rintro e w2 ⟨rfl, hb⟩; refine ⟨?_, hw1.keep hb⟩; with_reducible rfl) | (go_at_call 58; (with_reducible refine (u128and_c _ _ _ _ w1).mono ?_); rintro e w2 ⟨rfl, hb⟩; refine ⟨?_, hw1.keep hb⟩; with_reducible rfl) | (go_at_call 59; (refine (mask6_c N hN2 w1).mono ?_); rintro e w2 ⟨rfl, hb⟩; refine ⟨?_, hw1.keep hb⟩; with_reducible rfl) | (go_at_call 58; (refine (u128and_c _ _ _ _ w1).mono ?_); rintro e w2 ⟨rfl, hb⟩; refine ⟨?_, hw1.keep hb⟩; with_reducible rfl)); (simp only [Act.put, List.setIfInBounds_toArray, List.set_cons_zero, List.set_cons_succ])))
    refine wpQuiet_nil ?_
    intro w5 hw5
    have c5 := hw5.b0.cell
    have f5 := hw5.b0.free
    have l5 := hw5.b0.lt
    have hT6 := (hw5.set0 0 (.int .u64 mh)).set0 1 (.int .u64 ml)
    simp only [List.setIfInBounds_toArray, List.set_cons_zero, List.set_cons_succ] at hT6
    have hz6 := hz.keep hT6.below
    have HE1 := HE.out.1
    have HE2 := HE.out.2.1
    go_wp2_with fail
    generalize (w5.setCell ⟨w.heap.size, 0, none⟩ (.int .u64 mh)).setCell ⟨w.heap.size, 1, none⟩ (.int .u64 ml) = w6 at *
    clear c5 f5 l5 hw5 hT HE1 HE2
    refine (pfFrom_c mh ml (some false) b z w6 hz6 l1 l3).mono ?_
    rintro e w7 ⟨rfl, hb7⟩
    have hT7 := hT6.keep hb7
    have c7 := hT7.b1.cell
    have f7 := hT7.b1.free
    have l7 := hT7.b1.lt
    have bb := hT7.below
    clear hT6 hb7
    go_wp2
    refine bodyPost_ret (v := .tuple #[.agg #[.int .u64 mh, .int .u64 ml, .pointer (some ⟨z.b4, z.o4, none⟩), .int .u8 ((b + 1 : Nat) : Int)], .nilIface]) (by simp [results, Tryd.results44, go_sem, c7 ,  ptr4]) rfl ?_
    exact ⟨rfl, (((bb.setCell (p := ⟨w.heap.size + 1, 0, none⟩) (by simp) _).setCell (p := ⟨w.heap.size + 1, 1, none⟩) (by simp) _).setCell (p := ⟨w.heap.size + 1, 2, none⟩) (by simp) _).setCell (p := ⟨w.heap.size + 1, 3, none⟩) (by simp) _⟩
  · rw [if_neg hc] at e1 e2 hkk
    subst hkk
    obtain ⟨N, hN⟩ : ∃ N, N = b + 0 := ⟨_, rfl⟩
    rw [← hN] at e1 e2
    have hN2 : N ≤ 128 := by omega
    have HE := Lib.hid (And.intro e1 (And.intro e2 hN))
    clear e1 e2 hb32 hl hb hN
    have hT := twoB w 73 75 #[.int .u64 ah, .int .u64 al, .pointer (z.ptr (some true))] #[.int .u64 0, .int .u64 0, .pointer none, .int .u8 0]
    go_enter Tryd.func44, Tryd.ntmps44
    rw [ptr6]
    have pp4 := plainAt_alloc2 w (.cells #[.int .u64 ah, .int .u64 al, .pointer (some ⟨z.b6, z.o6, none⟩)] 73) (.cells #[.int .u64 0, .int .u64 0, .pointer none, .int .u8 0] 75) z.b4 p4
    have pp6 := plainAt_alloc2 w (.cells #[.int .u64 ah, .int .u64 al, .pointer (some ⟨z.b6, z.o6, none⟩)] 73) (.cells #[.int .u64 0, .int .u64 0, .pointer none, .int .u8 0] 75) z.b6 p6
    go_wp2_with fail
    clear pp4 pp6
    rw [ptr6] at hT
    obtain rfl : b = N := HE.out.2.2.symm
    refine region_tail (TwoB w 73 75 #[.int .u64 ah, .int .u64 al, .pointer (some ⟨z.b6, z.o6, none⟩)] #[.int .u64 0, .int .u64 0, .pointer none, .int .u8 0]) 6 (by kernel_rfl) (by kernel_rfl) (hT.drew) ?_
    simp only [List.take_succ_cons, List.take_zero, List.drop_succ_cons, List.drop_zero]
    repeat (first | (refine quiet_skip rfl ?_; (simp only [Act.put, List.setIfInBounds_toArray, List.set_cons_zero, List.set_cons_succ])) | (refine quiet_run ?_ rfl (fun w1 hw1 => ?_) ?_; rotate_left; (have r0 := hw1.b0.cell; have r1 := HE.out.1; have r2 := HE.out.2.1; go_simp; try (with_reducible rfl)); (simp only [Act.put, List.setIfInBounds_toArray, List.set_cons_zero, List.set_cons_succ])) | (refine quiet_call ?_ ?_ ?_ rfl (fun w1 hw1 => ?_) (fun w1 hw1 => ?_) ?_; rotate_left 3; (have r0 := hw1.b0.cell; have r1 := HE.out.1; have r2 := HE.out.2.1; go_simp; refine ⟨?_, ?_⟩ <;> with_reducible rfl); (first | (go_at_call 59; (with_reducible refine (mask6_c b hN2 w1).mono ?_); rintro e w2 ⟨rfl, hb⟩; refine ⟨?_, hw1.keep hb⟩; with_reducible rfl) | (go_at_call 58; (with_reducible refine (u128and_c _ _ _ _ w1).mono ?_); rintro e w2 ⟨rfl, hb⟩; refine ⟨?_, hw1.keep hb⟩; with_reducible rfl) | (go_at_call 59; (refine (mask6_c b hN2 w1).mono ?_); rintro e w2 ⟨rfl, hb⟩; refine ⟨?_, hw1.keep hb⟩; with_reducible rfl) | (go_at_call 58; (refine (u128and_c _ _ _ _ w1).mono ?_); rintro e w2 ⟨rfl, hb⟩; refine ⟨?_, hw1.keep hb⟩; with_reducible rfl)); (simp only [Act.put, List.setIfInBounds_toArray, List.set_cons_zero, List.set_cons_succ])))
    refine wpQuiet_nil ?_
    intro w5 hw5
    have c5 := hw5.b0.cell
    have f5 := hw5.b0.free
    have l5 := hw5.b0.lt
    have hT6 := (hw5.set0 0 (.int .u64 mh)).set0 1 (.int .u64 ml)
    simp only [List.setIfInBounds_toArray, List.set_cons_zero, List.set_cons_succ] at hT6
    have hz6 := hz.keep hT6.below
    have HE1 := HE.out.1
    have HE2 := HE.out.2.1
    go_wp2_with fail
    generalize (w5.setCell ⟨w.heap.size, 0, none⟩ (.int .u64 mh)).setCell ⟨w.heap.size, 1, none⟩ (.int .u64 ml) = w6 at *
    clear c5 f5 l5 hw5 hT HE1 HE2
    refine (pfFrom_c mh ml (some true) b z w6 hz6 l1 l3).mono ?_
    rintro e w7 ⟨rfl, hb7⟩
    have hT7 := hT6.keep hb7
    have c7 := hT7.b1.cell
    have f7 := hT7.b1.free
    have l7 := hT7.b1.lt
    have bb := hT7.below
    clear hT6 hb7
    go_wp2
    refine bodyPost_ret (v := .tuple #[.agg #[.int .u64 mh, .int .u64 ml, .pointer (some ⟨z.b6, z.o6, none⟩), .int .u8 ((b + 1 : Nat) : Int)], .nilIface]) (by simp [results, Tryd.results44, go_sem, c7 ,  ptr6]) rfl ?_
    exact ⟨rfl, (((bb.setCell (p := ⟨w.heap.size + 1, 0, none⟩) (by simp) _).setCell (p := ⟨w.heap.size + 1, 1, none⟩) (by simp) _).setCell (p := ⟨w.heap.size + 1, 2, none⟩) (by simp) _).setCell (p := ⟨w.heap.size + 1, 3, none⟩) (by simp) _⟩
end Go.Proofs.YtckfgdohpmllmaaDoor
