/-
  Contract of impl.address at the empty zone.
-/
import Derived.Test.YtaofindlomkbbaaDoorAddr
import Derived.Laws.Cover3
namespace Go.Proofs.YtaofindlomkbbaaDoor
open Go.RowKit
@[go_sem] theorem arr4 (a : Option Addr) (c : Nat) (w : World) : (Instr.arrayAt 92 (.slice a 4 c)).run Tryd.prog w = .ok (.pointer a) w :=
  run_arrayAt w 92 _ 4 a 4 c Tryd.underlying92 (Nat.le_refl _)
@[go_sem] theorem arr16 (a : Option Addr) (c : Nat) (w : World) : (Instr.arrayAt 94 (.slice a 16 c)).run Tryd.prog w = .ok (.pointer a) w :=
  run_arrayAt w 94 _ 16 a 16 c Tryd.underlying94 (Nat.le_refl _)
theorem address4 (g o c : Nat) (b0 b1 b2 b3 : UInt8) (z : ZP) (w : World) (hz : Zs w z) (hg : g < w.heap.size) (c0 : w.cell? ⟨g, o, none⟩ = some (.int .u8 b0.toNat)) (c1 : w.cell? ⟨g, o + 1, none⟩ = some (.int .u8 b1.toNat)) (c2 : w.cell? ⟨g, o + 2, none⟩ = some (.int .u8 b2.toNat)) (c3 : w.cell? ⟨g, o + 3, none⟩ = some (.int .u8 b3.toNat)) :
    Calls Tryd.prog 34 #[.agg #[.slice (some ⟨g, o, none⟩) 4 c, .string ⟨#[]⟩]] w fun e w' =>
      e = .returned (.agg #[.int .u64 0, .int .u64 ((281470681743360 + Lib.beNat [b0, b1, b2, b3] : Nat) : Int), .pointer (z.ptr (some false))]) ∧ Below w.heap.size w w' := by
  go_enter Tryd.func34, Tryd.ntmps34
  go_wp2_with fail
  refine (from4_c b0 b1 b2 b3 z _ (hz.keep (boxes2 _ _ _).below)).mono ?_
  rintro e w1 ⟨rfl, hb⟩
  have hw1 := (boxes2 _ _ _).keep hb
  have bb := hw1.below
  have r1 := hw1.b1
  have f1 := hw1.f1
  clear hb c0 c1 c2 c3
  go_wp2
  refine bodyPost_ret (v := .agg #[.int .u64 0, .int .u64 ((281470681743360 + Lib.beNat [b0, b1, b2, b3] : Nat) : Int), .pointer (z.ptr (some false))]) (by simp [results, Tryd.results34, go_sem, r1]) rfl ?_
  exact ⟨rfl, by go_grown⟩
set_option maxHeartbeats 4000000 in
theorem address16 (g o c : Nat) (b0 b1 b2 b3 b4 b5 b6 b7 b8 b9 b10 b11 b12 b13 b14 b15 : UInt8) (z : ZP) (w : World) (hz : Zs w z) (hg : g < w.heap.size) (c0 : w.cell? ⟨g, o, none⟩ = some (.int .u8 b0.toNat)) (c1 : w.cell? ⟨g, o + 1, none⟩ = some (.int .u8 b1.toNat)) (c2 : w.cell? ⟨g, o + 2, none⟩ = some (.int .u8 b2.toNat)) (c3 : w.cell? ⟨g, o + 3, none⟩ = some (.int .u8 b3.toNat)) (c4 : w.cell? ⟨g, o + 4, none⟩ = some (.int .u8 b4.toNat)) (c5 : w.cell? ⟨g, o + 5, none⟩ = some (.int .u8 b5.toNat)) (c6 : w.cell? ⟨g, o + 6, none⟩ = some (.int .u8 b6.toNat)) (c7 : w.cell? ⟨g, o + 7, none⟩ = some (.int .u8 b7.toNat)) (c8 : w.cell? ⟨g, o + 8, none⟩ = some (.int .u8 b8.toNat)) (c9 : w.cell? ⟨g, o + 9, none⟩ = some (.int .u8 b9.toNat)) (c10 : w.cell? ⟨g, o + 10, none⟩ = some (.int .u8 b10.toNat)) (c11 : w.cell? ⟨g, o + 11, none⟩ = some (.int .u8 b11.toNat)) (c12 : w.cell? ⟨g, o + 12, none⟩ = some (.int .u8 b12.toNat)) (c13 : w.cell? ⟨g, o + 13, none⟩ = some (.int .u8 b13.toNat)) (c14 : w.cell? ⟨g, o + 14, none⟩ = some (.int .u8 b14.toNat)) (c15 : w.cell? ⟨g, o + 15, none⟩ = some (.int .u8 b15.toNat)) :
    Calls Tryd.prog 34 #[.agg #[.slice (some ⟨g, o, none⟩) 16 c, .string ⟨#[]⟩]] w fun e w' =>
      e = .returned (.agg #[.int .u64 (Lib.beNat [b0, b1, b2, b3, b4, b5, b6, b7]), .int .u64 (Lib.beNat [b8, b9, b10, b11, b12, b13, b14, b15]), .pointer (z.ptr (some true))]) ∧ Below w.heap.size w w' := by
  go_enter Tryd.func34, Tryd.ntmps34
  go_wp2_with fail
  refine region_tail (Boxes w [#[.slice (some ⟨g, o, none⟩) 16 c, .string ⟨#[]⟩], #[.int .u64 0, .int .u64 0, .pointer none]]) 8 (by kernel_rfl) (by kernel_rfl) ((boxes2 _ _ _).drew) ?_
  simp only [List.take_succ_cons, List.take_zero, List.drop_succ_cons, List.drop_zero]
  repeat (first | (refine quiet_skip rfl ?_; (simp only [Act.put, List.setIfInBounds_toArray, List.set_cons_zero, List.set_cons_succ])) | (refine quiet_run ?_ rfl (fun w1 hw1 => ?_) ?_; rotate_left; (have r0 := hw1.b0; have r1 := (hw1.below.cell (p := ⟨g, o, none⟩) hg).trans c0; have r2 := (hw1.below.cell (p := ⟨g, o + 1, none⟩) hg).trans c1; have r3 := (hw1.below.cell (p := ⟨g, o + 2, none⟩) hg).trans c2; have r4 := (hw1.below.cell (p := ⟨g, o + 3, none⟩) hg).trans c3; have r5 := (hw1.below.cell (p := ⟨g, o + 4, none⟩) hg).trans c4; have r6 := (hw1.below.cell (p := ⟨g, o + 5, none⟩) hg).trans c5; have r7 := (hw1.below.cell (p := ⟨g, o + 6, none⟩) hg).trans c6; have r8 := (hw1.below.cell (p := ⟨g, o + 7, none⟩) hg).trans c7; have r9 := (hw1.below.cell (p := ⟨g, o + 8, none⟩) hg).trans c8; have r10 := (hw1.below.cell (p := ⟨g, o + 9, none⟩) hg).trans c9; have r11 := (hw1.below.cell (p := ⟨g, o + 10, none⟩) hg).trans c10; have r12 := (hw1.below.cell (p := ⟨g, o + 11, none⟩) hg).trans c11; have r13 := (hw1.below.cell (p := ⟨g, o + 12, none⟩) hg).trans c12; have r14 := (hw1.below.cell (p := ⟨g, o + 13, none⟩) hg).trans c13; have r15 := (hw1.below.cell (p := ⟨g, o + 14, none⟩) hg).trans c14; have r16 := (hw1.below.cell (p := ⟨g, o + 15, none⟩) hg).trans c15; go_simp; try (with_reducible rfl)); (simp only [Act.put, List.setIfInBounds_toArray, List.set_cons_zero, List.set_cons_succ])) | (refine quiet_call ?_ ?_ ?_ rfl (fun w1 hw1 => ?_) (fun w1 hw1 => ?_) ?_; rotate_left 3; (have r0 := hw1.b0; have r1 := (hw1.below.cell (p := ⟨g, o, none⟩) hg).trans c0; have r2 := (hw1.below.cell (p := ⟨g, o + 1, none⟩) hg).trans c1; have r3 := (hw1.below.cell (p := ⟨g, o + 2, none⟩) hg).trans c2; have r4 := (hw1.below.cell (p := ⟨g, o + 3, none⟩) hg).trans c3; have r5 := (hw1.below.cell (p := ⟨g, o + 4, none⟩) hg).trans c4; have r6 := (hw1.below.cell (p := ⟨g, o + 5, none⟩) hg).trans c5; have r7 := (hw1.below.cell (p := ⟨g, o + 6, none⟩) hg).trans c6; have r8 := (hw1.below.cell (p := ⟨g, o + 7, none⟩) hg).trans c7; have r9 := (hw1.below.cell (p := ⟨g, o + 8, none⟩) hg).trans c8; have r10 := (hw1.below.cell (p := ⟨g, o + 9, none⟩) hg).trans c9; have r11 := (hw1.below.cell (p := ⟨g, o + 10, none⟩) hg).trans c10; have r12 := (hw1.below.cell (p := ⟨g, o + 11, none⟩) hg).trans c11; have r13 := (hw1.below.cell (p := ⟨g, o + 12, none⟩) hg).trans c12; have r14 := (hw1.below.cell (p := ⟨g, o + 13, none⟩) hg).trans c13; have r15 := (hw1.below.cell (p := ⟨g, o + 14, none⟩) hg).trans c14; have r16 := (hw1.below.cell (p := ⟨g, o + 15, none⟩) hg).trans c15; go_simp; refine ⟨?_, ?_⟩ <;> with_reducible rfl); (first | (go_at_call 49; (with_reducible refine (from16_c b0 b1 b2 b3 b4 b5 b6 b7 b8 b9 b10 b11 b12 b13 b14 b15 z w1 (hz.keep hw1.below)).mono ?_); rintro e w2 ⟨rfl, hb⟩; refine ⟨?_, hw1.keep hb⟩; with_reducible rfl) | (go_at_call 50; (with_reducible refine (withZone_c _ _ _ z w1 (hz.keep hw1.below)).mono ?_); rintro e w2 ⟨rfl, hb⟩; refine ⟨?_, hw1.keep hb⟩; with_reducible rfl) | (go_at_call 49; (refine (from16_c b0 b1 b2 b3 b4 b5 b6 b7 b8 b9 b10 b11 b12 b13 b14 b15 z w1 (hz.keep hw1.below)).mono ?_); rintro e w2 ⟨rfl, hb⟩; refine ⟨?_, hw1.keep hb⟩; with_reducible rfl) | (go_at_call 50; (refine (withZone_c _ _ _ z w1 (hz.keep hw1.below)).mono ?_); rintro e w2 ⟨rfl, hb⟩; refine ⟨?_, hw1.keep hb⟩; with_reducible rfl)); (simp only [Act.put, List.setIfInBounds_toArray, List.set_cons_zero, List.set_cons_succ])))
  refine wpQuiet_nil ?_
  intro w1 hw1
  have bb := hw1.below
  have r1 := hw1.b1
  have f1 := hw1.f1
  go_wp2
  refine bodyPost_ret (v := .agg #[.int .u64 (Lib.beNat [b0, b1, b2, b3, b4, b5, b6, b7]), .int .u64 (Lib.beNat [b8, b9, b10, b11, b12, b13, b14, b15]), .pointer (z.ptr (some true))]) (by simp [results, Tryd.results34, go_sem, r1]) rfl ?_
  exact ⟨rfl, by go_grown⟩
theorem address0 (A : Option Addr) (n c : Nat) (z : ZP) (w : World) (h4 : n ≠ 4) (h16 : n ≠ 16) :
    Calls Tryd.prog 34 #[.agg #[.slice A n c, .string ⟨#[]⟩]] w fun e w' =>
      e = .returned (.agg #[.int .u64 0, .int .u64 0, .pointer (z.ptr none)]) ∧ Below w.heap.size w w' := by
  have e4 : ((n : Int) == 4) = false := beq_eq_false_iff_ne.2 (by omega)
  have e16 : ((n : Int) == 16) = false := beq_eq_false_iff_ne.2 (by omega)
  clear h4 h16
  go_enter Tryd.func34, Tryd.ntmps34
  go_wp2
  go_returns
  exact ⟨rfl, by go_grown⟩
end Go.Proofs.YtaofindlomkbbaaDoor
