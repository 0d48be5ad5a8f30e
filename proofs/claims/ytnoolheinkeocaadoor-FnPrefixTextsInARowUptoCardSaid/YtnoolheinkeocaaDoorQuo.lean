/-
  Contract: strconv.Quote at the empty text.
-/
import Derived.Test.YtnoolheinkeocaaDoorStr
namespace Go.Proofs.YtnoolheinkeocaaDoor
open Go Go.RowKit
set_option maxRecDepth 100000 in
set_option maxHeartbeats 8000000 in
theorem quoted0_c (B : Nat) (A : Option Addr) (W0 W1 w : World) (hb : TB B W0 W1 w (.slice A 0 0) []) :
    Calls Tryd.prog 70 #[.slice A 0 0, .string ⟨#[]⟩, .int .u8 34, .bool false, .bool false] w fun e w' => ∃ v', e = .returned v' ∧ TB B W0 W1 w' v' [34, 34] := by
  obtain ⟨i0, hi, hz0, hz1, hz2⟩ := info_parts infoU8
  go_enter Tryd.func70, Tryd.ntmps70
  go_wp2_with (at_builtin; (refine app_byte i0 hi hz0 hz1 hz2 rfl _ _ rfl rfl 34 _ rfl (by assumption) rfl (by simp) ?_; intro _ _ hb))
  go_loopw [0, 1] (fun v0 v1 wr => v1 = .string ⟨#[]⟩ ∧ TB B W0 W1 wr v0 [34]) (fun _ _ _ => 0)
  case atStart => exact ⟨rfl, by assumption⟩
  case round =>
    obtain ⟨rfl, hb⟩ := hrel
    go_wp2_with (at_builtin; (refine app_byte i0 hi hz0 hz1 hz2 rfl _ _ rfl rfl 34 _ rfl (by assumption) rfl (by simp) ?_; intro _ _ hb))
    go_returns
    exact ⟨_, rfl, by assumption⟩
set_option maxRecDepth 100000 in
set_option maxHeartbeats 8000000 in
theorem quote0_c (w : World) :
    Calls Tryd.prog 37 #[.string ⟨#[]⟩] w fun e w' => e = .returned (.string ⟨#[34, 34]⟩) ∧ Below w.heap.size w w' := by
  obtain ⟨i0, hi, hz0, hz1, hz2⟩ := info_parts infoU8
  have hq : Calls Tryd.prog 57 #[.string ⟨#[]⟩, .int .u8 34, .bool false, .bool false] w fun e w' => e = .returned (.string ⟨#[34, 34]⟩) ∧ Below w.heap.size w w' := by
    go_enter Tryd.func57, Tryd.ntmps57
    go_wp2_with (first | (at_make; refine wpList_make_own _ rfl _ _ 22 rfl w.heap.size 5 i0 (.int .u8 0) 1 Tryd.underlying22 hi hz0 hz1 _ _ _ 0 rfl rfl rfl (by omega) (by unfold maxLen; omega) (Nat.le_refl _) ?_; intro w3 hown hgr; have b3 : Below w.heap.size w w3 := (Below.refl _ _).grown hgr (Nat.le_refl _) (by intro x hx; cases hx); have h3 : TB w.heap.size w w3 w3 (.slice (some ⟨w.heap.size, 0, none⟩) 0 0) [] := TB.start hown b3 b3.size; clear hown hgr))
    refine (quoted0_c w.heap.size _ w w3 w3 h3).mono ?_
    rintro e w4 ⟨v4, rfl, h4⟩
    have hcv := h4.str (by simp)
    have H4 := Lib.hid h4
    clear h3 h4
    go_wp2
    go_returns
    exact ⟨rfl, H4.out.low⟩
  have HQ := Lib.hid hq
  clear hq
  go_enter Tryd.func37, Tryd.ntmps37
  go_wp2_with fail
  refine HQ.out.mono ?_
  rintro e w4 ⟨rfl, hb⟩
  go_wp2
  go_returns
  exact ⟨rfl, hb⟩
end Go.Proofs.YtnoolheinkeocaaDoor
