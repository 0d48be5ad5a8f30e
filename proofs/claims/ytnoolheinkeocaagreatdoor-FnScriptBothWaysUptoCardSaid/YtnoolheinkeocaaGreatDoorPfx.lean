/-
  Contracts of net/netip's prefixes: Bits, IsValid, isZero, withoutZone, PrefixFrom; impl.prefix.
-/
import Derived.Test.YtnoolheinkeocaaGreatDoorNum
import Derived.Test.YtnoolheinkeocaaGreatDoorRegion2
import Derived.Test.YtnoolheinkeocaaGreatDoorRegion3
import Derived.Test.YtnoolheinkeocaaGreatDoorPlain
import Derived.Test.YtnoolheinkeocaaGreatDoorPlaces
namespace Go.Proofs.YtnoolheinkeocaaGreatDoor
open Go Go.RowKit
theorem pfBits_c (h l : Int) (P : Option Addr) (b : Nat) (hb : b ≤ 128) (w : World) :
    Calls Tryz.prog 26 #[.agg #[.int .u64 h, .int .u64 l, .pointer P, .int .u8 ((b + 1 : Nat) : Int)]] w fun e w' => e = .returned (.int .i64 b) ∧ Below w.heap.size w w' := by
  go_enter Tryz.func26, Tryz.ntmps26
  go_wp2
  go_returns
  exact ⟨by simp, by go_grown⟩
theorem pfValid_c (h l : Int) (P : Option Addr) (b : Nat) (w : World) :
    Calls Tryz.prog 20 #[.agg #[.int .u64 h, .int .u64 l, .pointer P, .int .u8 ((b + 1 : Nat) : Int)]] w fun e w' => e = .returned (.bool true) ∧ Below w.heap.size w w' := by
  go_enter Tryz.func20, Tryz.ntmps20
  go_wp2
  go_returns
  exact ⟨by simp, by go_grown⟩
theorem aZero_c (h l : Int) (k : Option Bool) (z : ZP) (w : World) (hz : Zs w z) :
    Calls Tryz.prog 35 #[.agg #[.int .u64 h, .int .u64 l, .pointer (z.ptr k)]] w fun e w' => e = .returned (.bool (k == none)) ∧ Below w.heap.size w w' := by
  obtain ⟨s0, s1, s2, q4, q6, h4, h6, h0, hne, hne', p4, p6⟩ := hz.lay
  clear hz
  rcases k with _ | _ | _ <;> simp only [ptr0, ptr4, ptr6]
  all_goals
    go_enter Tryz.func35, Tryz.ntmps35
    go_wp2
    go_returns
    exact ⟨rfl, by go_grown⟩
theorem noZone_c (h l : Int) (k : Option Bool) (z : ZP) (w : World) (hz : Zs w z) :
    Calls Tryz.prog 28 #[.agg #[.int .u64 h, .int .u64 l, .pointer (z.ptr k)]] w fun e w' => e = .returned (.agg #[.int .u64 h, .int .u64 l, .pointer (z.ptr k)]) ∧ Below w.heap.size w w' := by
  go_enter Tryz.func28, Tryz.ntmps28
  go_wp2_with fail
  refine (is6_c _ _ _ z _ (hz.keep (boxes2 _ _ _).below)).mono ?_
  rintro e w1 ⟨rfl, hb⟩
  have hw1 := (boxes2 _ _ _).keep hb
  have bb := hw1.below
  have r0 := hw1.b0
  have r1 := hw1.b1
  have f0 := hw1.f0
  have f1 := hw1.f1
  have z6 := (hz.keep bb).z6
  by_cases hk : k = some true
  · subst hk
    rw [ptr6] at r0 ⊢
    go_wp2
    refine bodyPost_ret (v := .agg #[.int .u64 h, .int .u64 l, .pointer (some ⟨z.b6, z.o6, none⟩)]) (by simp [results, Tryz.results28, go_sem, r1]) rfl ?_
    exact ⟨rfl, by go_grown⟩
  · have hk' : (k == some true) = false := by simp [hk]
    go_wp2
    refine bodyPost_ret (v := .agg #[.int .u64 h, .int .u64 l, .pointer (z.ptr k)]) (by simp [results, Tryz.results28, go_sem, r1]) rfl ?_
    exact ⟨rfl, by go_grown⟩
set_option maxHeartbeats 4000000 in
theorem pfFrom_c (h l : Int) (k : Option Bool) (b : Nat) (z : ZP) (w : World) (hz : Zs w z) (hk : k ≠ none) (hb : (b : Int) ≤ bl k) :
    Calls Tryz.prog 18 #[.agg #[.int .u64 h, .int .u64 l, .pointer (z.ptr k)], .int .i64 b] w fun e w' => e = .returned (.agg #[.int .u64 h, .int .u64 l, .pointer (z.ptr k), .int .u8 ((b + 1 : Nat) : Int)]) ∧ Below w.heap.size w w' := by
  have hb2 : b ≤ 128 := by rcases k with _ | _ | _ <;> simp [bl] at hb <;> omega
  have hk0 : (k == none) = false := by cases k <;> simp_all
  have d0 : decide ((0 : Int) ≤ b) = true := by simp
  have d1 : decide ((b : Int) ≤ bl k) = true := by simpa using hb
  have u1 : IntKind.u8.wrap (b : Int) = b := by show (b : Int) % 256 = b; omega
  have u2 : IntKind.u8.wrap ((b : Int) + 1) = ((b + 1 : Nat) : Int) := by show ((b : Int) + 1) % 256 = _; omega
  go_enter Tryz.func18, Tryz.ntmps18
  go_wp2_with fail
  refine (aZero_c h l k z _ (hz.keep (boxes2 _ _ _).below)).mono ?_
  rintro e w1 ⟨rfl, hb1⟩
  have hw1 := (boxes2 _ _ _).keep hb1
  rw [hk0]
  have r0 := hw1.b0
  clear hb1
  go_wp2_with fail
  refine (bitLen_c h l k z w1 (hz.keep hw1.below)).mono ?_
  rintro e w2 ⟨rfl, hb2⟩
  have hw2 := hw1.keep hb2
  clear hb2 hw1
  replace r0 := hw2.b0
  go_wp2_with fail
  refine (noZone_c h l k z w2 (hz.keep hw2.below)).mono ?_
  rintro e w3 ⟨rfl, hb3⟩
  have hw3 := hw2.keep hb3
  clear hb3 hw2 r0
  have bb := hw3.below
  have r1 := hw3.b1
  have f1 := hw3.f1
  go_wp2
  refine bodyPost_ret (v := .agg #[.int .u64 h, .int .u64 l, .pointer (z.ptr k), .int .u8 ((b + 1 : Nat) : Int)]) (by simp [results, Tryz.results18, go_sem, r1]) rfl ?_
  exact ⟨rfl, by go_grown⟩
theorem ad4 {b : List UInt8} (h : b.length = 4) : adOf b = ⟨0, 281470681743360 + Lib.beNat b, some false⟩ := by unfold adOf; rw [if_pos h]
theorem ad16 {b : List UInt8} (h : b.length = 16) : adOf b = ⟨Lib.beNat b / 2 ^ 64, Lib.beNat b % 2 ^ 64, some true⟩ := by
  rw [adOf_len (Or.inr h)]; unfold adV; rw [if_neg (by omega)]
theorem pfBits2_c (h l : Int) (P : Option Addr) (b : Nat) (hb : b ≤ 128) (w : World) :
    Calls Tryz.prog 26 #[.agg #[.int .u64 h, .int .u64 l, .pointer P, .int .u8 ((b : Int) + 1)]] w fun e w' => e = .returned (.int .i64 b) ∧ Below w.heap.size w w' := by
  have := pfBits_c h l P b hb w
  rwa [Int.natCast_add] at this
theorem infoBool : (Tryz.prog.info? 4).map (fun i => (i.zero, i.size, i.bytes)) = some (some (.bool false), 1, 1) := by kernel_rfl
theorem bl_len {bs : List UInt8} (h : isLen bs.length) : (adOf bs).k ≠ none ∧ bl (adOf bs).k = ((8 * bs.length : Nat) : Int) := by
  rcases h with h | h
  · rw [ad4 h, h]; exact ⟨by simp, rfl⟩
  · rw [ad16 h, h]; exact ⟨by simp, rfl⟩
set_option maxRecDepth 100000 in
set_option maxHeartbeats 4000000 in
theorem prefix_c (A : Option Addr) (n c : Nat) (bs : List UInt8) (k : Nat) (z : ZP) (w : World) (hz : Zs w z) (hr : RB w A n bs) (hl : isLen bs.length) (hk : k ≤ 8 * bs.length) :
    Calls Tryz.prog 11 #[.agg #[.slice A n c, .string ⟨#[]⟩, .int .i64 k]] w fun e w' => e = .returned (.agg #[.int .u64 (adOf bs).h, .int .u64 (adOf bs).l, .pointer (z.ptr (adOf bs).k), .int .u8 ((k + 1 : Nat) : Int)]) ∧ Below w.heap.size w w' := by
  obtain ⟨l1, l2⟩ := bl_len hl
  have l3 : (k : Int) ≤ bl (adOf bs).k := by rw [l2]; exact_mod_cast hk
  go_enter Tryz.func11, Tryz.ntmps11
  go_wp2_with fail
  refine region_tail (Boxes w [#[.slice A n c, .string ⟨#[]⟩, .int .i64 k], #[.int .u64 0, .int .u64 0, .pointer none, .int .u8 0]]) 6 (by kernel_rfl) (by kernel_rfl) ((boxes2 _ _ _).drew) ?_
  simp only [List.take_succ_cons, List.take_zero, List.drop_succ_cons, List.drop_zero]
  repeat (first | (refine quiet_skip rfl ?_; (simp only [Act.put, List.setIfInBounds_toArray, List.set_cons_zero, List.set_cons_succ])) | (refine quiet_run ?_ rfl (fun w1 hw1 => ?_) ?_; rotate_left; (have r0 := hw1.b0; go_simp; try (with_reducible rfl)); (simp only [Act.put, List.setIfInBounds_toArray, List.set_cons_zero, List.set_cons_succ])) | (refine quiet_call ?_ ?_ ?_ rfl (fun w1 hw1 => ?_) (fun w1 hw1 => ?_) ?_; rotate_left 3; (have r0 := hw1.b0; go_simp; refine ⟨?_, ?_⟩ <;> with_reducible rfl); (first | (go_at_call 19; (with_reducible refine (address_c A n c bs z w1 (hz.keep hw1.below) (hr.keep hw1.below)).mono ?_); rintro e w2 ⟨rfl, hb⟩; refine ⟨?_, hw1.keep hb⟩; with_reducible rfl) | (go_at_call 18; (with_reducible refine (pfFrom_c _ _ _ k z w1 (hz.keep hw1.below) l1 l3).mono ?_); rintro e w2 ⟨rfl, hb⟩; refine ⟨?_, hw1.keep hb⟩; with_reducible rfl) | (go_at_call 19; (refine (address_c A n c bs z w1 (hz.keep hw1.below) (hr.keep hw1.below)).mono ?_); rintro e w2 ⟨rfl, hb⟩; refine ⟨?_, hw1.keep hb⟩; with_reducible rfl) | (go_at_call 18; (refine (pfFrom_c _ _ _ k z w1 (hz.keep hw1.below) l1 l3).mono ?_); rintro e w2 ⟨rfl, hb⟩; refine ⟨?_, hw1.keep hb⟩; with_reducible rfl)); (simp only [Act.put, List.setIfInBounds_toArray, List.set_cons_zero, List.set_cons_succ])))
  refine wpQuiet_nil ?_
  intro w1 hw1
  have bb := hw1.below
  have r1 := hw1.b1
  have f1 := hw1.f1
  go_wp2
  refine bodyPost_ret (v := .agg #[.int .u64 (adOf bs).h, .int .u64 (adOf bs).l, .pointer (z.ptr (adOf bs).k), .int .u8 ((k + 1 : Nat) : Int)]) (by simp [results, Tryz.results11, go_sem, r1]) rfl ?_
  exact ⟨rfl, by go_grown⟩
/-- A row that a literal has laid. -/
theorem own_lit (w : World) (cs : Array Value) (t : TypeId) (size n B : Nat) (hB : B ≤ w.heap.size) (hs : cs.size = n * size) (hn : n ≤ 1000) : (w.alloc (.cells cs t)).ownsRow B t size (.slice (some ⟨w.heap.size, 0, none⟩) n n) n cs.toList :=
  ⟨by simp [hs], .inr ⟨w.heap.size, n, cs, rfl, hB, heap_alloc_new w _, Nat.le_refl _, by unfold maxLen; omega, hs, by rw [← hs, ← Array.length_toList, List.take_length]⟩⟩
/-- A row that a literal has laid, as a lasting fact. -/
def LitRow (B : Nat) (t : TypeId) (size n : Nat) (cs : List Value) (v : Value) (w : World) : Prop := ∃ g, v = .slice (some ⟨g, 0, none⟩) n n ∧ w.ownsRow B t size (.slice (some ⟨g, 0, none⟩) n n) n cs
theorem LitRow.keep {B : Nat} {t : TypeId} {size n : Nat} {cs : List Value} {v : Value} {w w' : World} (h : LitRow B t size n cs v w) (hb : Below w.heap.size w w') : LitRow B t size n cs v w' := by
  obtain ⟨g, h1, h2⟩ := h
  exact ⟨g, h1, own_below h2 hb⟩
theorem LitRow.own {B : Nat} {t : TypeId} {size n g : Nat} {cs : List Value} {w : World} (h : LitRow B t size n cs (.slice (some ⟨g, 0, none⟩) n n) w) : w.ownsRow B t size (.slice (some ⟨g, 0, none⟩) n n) n cs := by
  obtain ⟨g', h1, h2⟩ := h
  injection h1 with h1
  injection h1 with h1
  injection h1 with h1
  subst h1
  exact h2
end Go.Proofs.YtnoolheinkeocaaGreatDoor
