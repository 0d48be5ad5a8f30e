/-
  Contracts: AddrFrom4, AddrFrom16, WithZone at the empty zone, address.
-/
import Derived.Test.YtaofindlomkbbaaDoorBe
namespace Go.Proofs.YtaofindlomkbbaaDoor
open Go.RowKit
theorem u64_join (i : Nat) (x y : Int) (hx0 : 0 ≤ x) (hx : x % 2 ^ i = 0) (hx1 : x < 18446744073709551616) (hy0 : 0 ≤ y) (hy : y < 2 ^ i) (hy1 : y < 18446744073709551616) : bits .or .u64 x y = x + y :=
  bits_join .u64 64 (by decide) wraps_u64 i x y hx0 hx (by simpa using hx1) hy0 hy (by simpa using hy1)
theorem join4 (a b c d : Nat) (ha : a < 256) (hb : b < 256) (hc : c < 256) (hd : d < 256) :
    bits .or .u64 (bits .or .u64 (bits .or .u64 (bits .or .u64 281470681743360 ((a : Int) * 16777216)) ((b : Int) * 65536)) ((c : Int) * 256)) (d : Int) = 281470681743360 + (a : Int) * 16777216 + (b : Int) * 65536 + (c : Int) * 256 + d := by
  rw [u64_join 32 281470681743360 ((a : Int) * 16777216) (by omega) (by decide) (by omega) (by omega) (by omega) (by omega),
    u64_join 24 _ ((b : Int) * 65536) (by omega) (by omega) (by omega) (by omega) (by omega) (by omega),
    u64_join 16 _ ((c : Int) * 256) (by omega) (by omega) (by omega) (by omega) (by omega) (by omega),
    u64_join 8 _ (d : Int) (by omega) (by omega) (by omega) (by omega) (by omega) (by omega)]
theorem from4_c (b0 b1 b2 b3 : UInt8) (z : ZP) (w : World) (hz : Zs w z) :
    Calls Tryd.prog 48 #[.agg #[.int .u8 b0.toNat, .int .u8 b1.toNat, .int .u8 b2.toNat, .int .u8 b3.toNat]] w fun e w' =>
      e = .returned (.agg #[.int .u64 0, .int .u64 ((281470681743360 + Lib.beNat [b0, b1, b2, b3] : Nat) : Int), .pointer (z.ptr (some false))]) ∧ Below w.heap.size w w' := by
  obtain ⟨s0, s1, s2, q4, q6, h4, h6, h0, hne, hne', p4, p6⟩ := hz.lay
  clear hz
  rw [ptr4]
  have e0 : b0.toNat < 256 := b0.toNat_lt
  have e1 : b1.toNat < 256 := b1.toNat_lt
  have e2 : b2.toNat < 256 := b2.toNat_lt
  have e3 : b3.toNat < 256 := b3.toNat_lt
  go_enter Tryd.func48, Tryd.ntmps48
  go_wp2
  go_returns
  refine ⟨?_, by go_grown⟩
  rw [join4 _ _ _ _ e0 e1 e2 e3]
  have hb : Lib.beNat [b0, b1, b2, b3] = b0.toNat * 16777216 + b1.toNat * 65536 + b2.toNat * 256 + b3.toNat := by
    simp only [Lib.beNat, Lib.beFrom]
    omega
  have hv : ((281470681743360 + Lib.beNat [b0, b1, b2, b3] : Nat) : Int) = 281470681743360 + (b0.toNat : Int) * 16777216 + (b1.toNat : Int) * 65536 + (b2.toNat : Int) * 256 + b3.toNat := by
    rw [hb]
    omega
  rw [hv]
set_option maxHeartbeats 4000000 in
theorem from16_c (b0 b1 b2 b3 b4 b5 b6 b7 b8 b9 b10 b11 b12 b13 b14 b15 : UInt8) (z : ZP) (w : World) (hz : Zs w z) :
    Calls Tryd.prog 49 #[.agg #[.int .u8 b0.toNat, .int .u8 b1.toNat, .int .u8 b2.toNat, .int .u8 b3.toNat, .int .u8 b4.toNat, .int .u8 b5.toNat, .int .u8 b6.toNat, .int .u8 b7.toNat, .int .u8 b8.toNat, .int .u8 b9.toNat, .int .u8 b10.toNat, .int .u8 b11.toNat, .int .u8 b12.toNat, .int .u8 b13.toNat, .int .u8 b14.toNat, .int .u8 b15.toNat]] w fun e w' =>
      e = .returned (.agg #[.int .u64 (Lib.beNat [b0, b1, b2, b3, b4, b5, b6, b7]), .int .u64 (Lib.beNat [b8, b9, b10, b11, b12, b13, b14, b15]), .pointer (z.ptr (some true))]) ∧ Below w.heap.size w w' := by
  rw [ptr6]
  go_enter Tryd.func49, Tryd.ntmps49
  go_wp2_with fail
  refine region_tail (Boxes w [#[.int .u8 b0.toNat, .int .u8 b1.toNat, .int .u8 b2.toNat, .int .u8 b3.toNat, .int .u8 b4.toNat, .int .u8 b5.toNat, .int .u8 b6.toNat, .int .u8 b7.toNat, .int .u8 b8.toNat, .int .u8 b9.toNat, .int .u8 b10.toNat, .int .u8 b11.toNat, .int .u8 b12.toNat, .int .u8 b13.toNat, .int .u8 b14.toNat, .int .u8 b15.toNat], #[.int .u64 0, .int .u64 0, .pointer none]]) 7 (by kernel_rfl) (by kernel_rfl) ((boxes2 _ _ _).drew) ?_
  simp only [List.take_succ_cons, List.take_zero, List.drop_succ_cons, List.drop_zero]
  repeat (first | (refine quiet_skip rfl ?_; (simp only [Act.put, List.setIfInBounds_toArray, List.set_cons_zero, List.set_cons_succ])) | (refine quiet_run ?_ rfl (fun w1 hw1 => ?_) ?_; rotate_left; (have r0 := (hz.keep hw1.below).z6; go_simp; try (with_reducible rfl)); (simp only [Act.put, List.setIfInBounds_toArray, List.set_cons_zero, List.set_cons_succ])) | (refine quiet_call ?_ ?_ ?_ rfl (fun w1 hw1 => ?_) (fun w1 hw1 => ?_) ?_; rotate_left 3; (have r0 := (hz.keep hw1.below).z6; go_simp; refine ⟨?_, ?_⟩ <;> with_reducible rfl); (first | (go_at_call 70; (with_reducible refine (be64_c w.heap.size _ _ _ _ _ _ _ _ _ _ _ w1 (by decide) (by rw [hw1.b0]; rfl) (by rw [hw1.b0]; rfl) (by rw [hw1.b0]; rfl) (by rw [hw1.b0]; rfl) (by rw [hw1.b0]; rfl) (by rw [hw1.b0]; rfl) (by rw [hw1.b0]; rfl) (by rw [hw1.b0]; rfl)).mono ?_); rintro e w2 ⟨rfl, hb⟩; refine ⟨?_, hw1.keep hb⟩; with_reducible rfl) | (go_at_call 70; (refine (be64_c w.heap.size _ _ _ _ _ _ _ _ _ _ _ w1 (by decide) (by rw [hw1.b0]; rfl) (by rw [hw1.b0]; rfl) (by rw [hw1.b0]; rfl) (by rw [hw1.b0]; rfl) (by rw [hw1.b0]; rfl) (by rw [hw1.b0]; rfl) (by rw [hw1.b0]; rfl) (by rw [hw1.b0]; rfl)).mono ?_); rintro e w2 ⟨rfl, hb⟩; refine ⟨?_, hw1.keep hb⟩; with_reducible rfl)); (simp only [Act.put, List.setIfInBounds_toArray, List.set_cons_zero, List.set_cons_succ])))
  refine wpQuiet_nil ?_
  intro w1 hw1
  have r1 := hw1.b1
  have f1 := hw1.f1
  have bb := hw1.below
  go_wp2
  refine bodyPost_ret (v := .agg #[.int .u64 (Lib.beNat [b0, b1, b2, b3, b4, b5, b6, b7]), .int .u64 (Lib.beNat [b8, b9, b10, b11, b12, b13, b14, b15]), .pointer (some ⟨z.b6, z.o6, none⟩)]) (by simp [results, Tryd.results49, go_sem, r1]) rfl ?_
  exact ⟨rfl, by go_grown⟩
theorem withZone_c (h l : Int) (k : Option Bool) (z : ZP) (w : World) (hz : Zs w z) :
    Calls Tryd.prog 50 #[.agg #[.int .u64 h, .int .u64 l, .pointer (z.ptr k)], .string ⟨#[]⟩] w fun e w' =>
      e = .returned (.agg #[.int .u64 h, .int .u64 l, .pointer (z.ptr k)]) ∧ Below w.heap.size w w' := by
  go_enter Tryd.func50, Tryd.ntmps50
  go_wp2_with fail
  refine (is6_c _ _ _ z _ (hz.keep (boxes2 _ _ _).below)).mono ?_
  rintro e w1 ⟨rfl, hb⟩
  have hw1 := (boxes2 _ _ _).keep hb
  have bb := hw1.below
  have r0 := hw1.b0
  have r1 := hw1.b1
  have f0 := hw1.f0
  have f1 := hw1.f1
  have z6 := (hz.keep bb).z6
  by_cases hk : k = some true
  · subst hk
    rw [ptr6] at r0 ⊢
    go_wp2
    refine bodyPost_ret (v := .agg #[.int .u64 h, .int .u64 l, .pointer (some ⟨z.b6, z.o6, none⟩)]) (by simp [results, Tryd.results50, go_sem, r1]) rfl ?_
    exact ⟨rfl, by go_grown⟩
  · have hk' : (k == some true) = false := by simp [hk]
    go_wp2
    refine bodyPost_ret (v := .agg #[.int .u64 h, .int .u64 l, .pointer (z.ptr k)]) (by simp [results, Tryd.results50, go_sem, r1]) rfl ?_
    exact ⟨rfl, by go_grown⟩
end Go.Proofs.YtaofindlomkbbaaDoor
