/-
  Contract: strconv.Atoi at the empty text.
-/
import Derived.Test.YtnoolheinkeocaaGreatDoorAtoi
import Derived.Test.YtnoolheinkeocaaGreatDoorBase
import Derived.Test.YtnoolheinkeocaaGreatDoorRegion2
namespace Go.Proofs.YtnoolheinkeocaaGreatDoor
open Go Go.RowKit
set_option maxRecDepth 100000 in
set_option maxHeartbeats 4000000 in
theorem parseInt0_c (w : World) :
    Calls Tryz.prog 67 #[.string ⟨#[]⟩, .int .i64 10, .int .i64 0] w fun e w' => e = .returned (.tuple #[.int .i64 0, .iface 120 (.int .i64 2)]) ∧ Below w.heap.size w w' := by
  go_enter Tryz.func67, Tryz.ntmps67
  go_wp2
  go_returns
  exact ⟨rfl, Below.refl _ _⟩
set_option maxRecDepth 100000 in
set_option maxHeartbeats 4000000 in
theorem atoiIn0_c (w : World) :
    Calls Tryz.prog 59 #[.string ⟨#[]⟩] w fun e w' => e = .returned (.tuple #[.int .i64 0, .iface 120 (.int .i64 2)]) ∧ Below w.heap.size w w' := by
  go_enter Tryz.func59, Tryz.ntmps59
  go_wp2_with fail
  refine (parseInt0_c w).mono ?_
  rintro e w1 ⟨rfl, hb⟩
  go_wp2
  go_returns
  exact ⟨rfl, hb⟩
set_option maxRecDepth 100000 in
set_option maxHeartbeats 4000000 in
theorem clone0_c (w : World) :
    Calls Tryz.prog 75 #[.string ⟨#[]⟩] w fun e w' => e = .returned (.string ⟨#[]⟩) ∧ Below w.heap.size w w' := by
  go_enter Tryz.func75, Tryz.ntmps75
  go_wp2
  go_returns
  exact ⟨rfl, Below.refl _ _⟩
set_option maxRecDepth 100000 in
set_option maxHeartbeats 4000000 in
theorem syntax0_c (f : ByteArray) (ev : Value) (w : World) (hv : w.cell? ⟨4, 0, none⟩ = some ev) (hev : ev = .nilIface ∨ ∃ t p, ev = .iface t p) (hg : 4 < w.heap.size) :
    Calls Tryz.prog 68 #[.string f, .string ⟨#[]⟩] w fun e w' => (∃ p, e = .returned (.pointer p)) ∧ Below w.heap.size w w' := by
  go_enter Tryz.func68, Tryz.ntmps68
  go_wp2_with fail
  refine region_tail (Boxes w []) 4 (by kernel_rfl) (by kernel_rfl) ((Boxes.nil _).drew) ?_
  simp only [List.take_succ_cons, List.take_zero, List.drop_succ_cons, List.drop_zero]
  repeat (first | (refine quiet_skip rfl ?_; (simp only [Act.put, List.setIfInBounds_toArray, List.set_cons_zero, List.set_cons_succ])) | (refine quiet_run ?_ rfl (fun w1 hw1 => ?_) ?_; rotate_left; (have r0 := (hw1.below.cell (p := ⟨4, 0, none⟩) hg).trans hv; go_simp; try (with_reducible rfl)); (simp only [Act.put, List.setIfInBounds_toArray, List.set_cons_zero, List.set_cons_succ])) | (refine quiet_call ?_ ?_ ?_ rfl (fun w1 hw1 => ?_) (fun w1 hw1 => ?_) ?_; rotate_left 3; (have r0 := (hw1.below.cell (p := ⟨4, 0, none⟩) hg).trans hv; go_simp; refine ⟨?_, ?_⟩ <;> with_reducible rfl); (first | (go_at_call 75; (with_reducible refine (clone0_c w1).mono ?_); rintro e w2 ⟨rfl, hb⟩; refine ⟨?_, hw1.keep hb⟩; with_reducible rfl) | (go_at_call 75; (refine (clone0_c w1).mono ?_); rintro e w2 ⟨rfl, hb⟩; refine ⟨?_, hw1.keep hb⟩; with_reducible rfl)); (simp only [Act.put, List.setIfInBounds_toArray, List.set_cons_zero, List.set_cons_succ])))
  refine wpQuiet_nil ?_
  intro w1 hw1
  have hb := hw1.below
  rcases hev with rfl | ⟨te, pe, rfl⟩
  · go_wp2
    go_returns
    exact ⟨⟨_, rfl⟩, hb.alloc hb.size _⟩
  · go_wp2
    go_returns
    exact ⟨⟨_, rfl⟩, hb.alloc hb.size _⟩
set_option maxRecDepth 100000 in
set_option maxHeartbeats 4000000 in
theorem toErr0_c (f : ByteArray) (ev : Value) (w : World) (hv : w.cell? ⟨4, 0, none⟩ = some ev) (hev : ev = .nilIface ∨ ∃ t p, ev = .iface t p) (hg : 4 < w.heap.size) :
    Calls Tryz.prog 60 #[.string f, .string ⟨#[]⟩, .int .i64 0, .int .i64 0, .iface 120 (.int .i64 2)] w fun e w' => (∃ p, e = .returned (.iface 123 (.pointer p))) ∧ Below w.heap.size w w' := by
  have HC := Lib.hid (syntax0_c f ev w hv hev hg)
  have heq : ∀ w, (binOp .eql 58 (.iface 120 (.int .i64 2)) (.iface 120 (.int .i64 2))).run Tryz.prog w = .ok (.bool true) w := fun w => by kernel_rfl
  go_enter Tryz.func60, Tryz.ntmps60
  go_wp2_with fail
  refine HC.out.mono ?_
  rintro e w1 ⟨⟨p, rfl⟩, hb⟩
  go_wp2
  go_returns
  exact ⟨⟨_, rfl⟩, hb⟩
set_option maxRecDepth 100000 in
set_option maxHeartbeats 4000000 in
theorem atoi0_c (ev : Value) (w : World) (hv : w.cell? ⟨4, 0, none⟩ = some ev) (hev : ev = .nilIface ∨ ∃ t p, ev = .iface t p) (hg : 4 < w.heap.size) :
    Calls Tryz.prog 50 #[.string ⟨#[]⟩] w fun e w' => (∃ p, e = .returned (.tuple #[.int .i64 0, .iface 123 (.pointer p)])) ∧ Below w.heap.size w w' := by
  go_enter Tryz.func50, Tryz.ntmps50
  go_wp2_with fail
  refine (atoiIn0_c w).mono ?_
  rintro e w1 ⟨rfl, hb⟩
  have hv1 := (hb.cell (p := ⟨4, 0, none⟩) hg).trans hv
  have HC := Lib.hid (fun f => toErr0_c f ev w1 hv1 hev (Nat.lt_of_lt_of_le hg hb.size))
  have HB := Lib.hid hb
  clear hv hv1 hb
  go_wp2_with fail
  refine (HC.out _).mono ?_
  rintro e w2 ⟨⟨p, rfl⟩, hb2⟩
  have hb3 := HB.out.trans (hb2.mono HB.out.size)
  clear hb2
  go_wp2
  go_returns
  exact ⟨⟨_, rfl⟩, hb3⟩
end Go.Proofs.YtnoolheinkeocaaGreatDoor
