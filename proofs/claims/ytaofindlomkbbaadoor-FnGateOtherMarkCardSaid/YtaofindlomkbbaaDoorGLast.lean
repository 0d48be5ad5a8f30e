/-
  Contract: laws.lastColon.
-/
import Derived.Test.YtaofindlomkbbaaDoorGRead
namespace Go.Proofs.YtaofindlomkbbaaDoor
open Go Go.RowKit
set_option maxRecDepth 100000 in
set_option maxHeartbeats 4000000 in
theorem lastColon_c (s : ByteArray) (w : World) (hs : s.size ≤ 4611686018427387904) :
    Calls Tryd.prog 10 #[.string s] w fun e w' => e = .returned (.int .i64 (lix s.data.toList 58 s.size)) ∧ w' = w := by
  go_enter Tryd.func10, Tryd.ntmps10
  go_wp2_with fail
  go_loopw [3] (fun v5 wr => wr = w ∧ ∃ k : Nat, v5 = .int .i64 ((k : Int) - 1) ∧ k ≤ s.size ∧ Hid (lix s.data.toList 58 s.size = lix s.data.toList 58 k)) (fun v5 _ => (intOf v5 + 1).toNat)
  case atStart => exact ⟨rfl, s.size, rfl, Nat.le_refl _, Lib.hid rfl⟩
  case round =>
    obtain ⟨rfl, k, rfl, hk, hl⟩ := hrel
    cases k with
    | zero =>
      have hlt : ¬ (((0 : Nat) : Int) - 1 ≥ 0) := by omega
      go_wp2
      go_returns
      exact ⟨by rw [hl.out]; rfl, rfl⟩
    | succ k =>
      have hge : (((k + 1 : Nat) : Int) - 1 ≥ 0) := by omega
      have hlt : k < s.size := by omega
      obtain ⟨x, hx⟩ : ∃ x, x = (s[k]'hlt).toNat := ⟨_, rfl⟩
      have hx' : (s[k]'hlt).toNat = x := hx.symm
      have hg : s.data.toList.getD k 0 = s[k]'hlt := by
        have := at_list s k hlt
        rw [List.getD_eq_getElem?_getD, show s.data.toList[k]? = (s.data.toList.drop k)[0]? by rw [List.getElem?_drop, Nat.add_zero], this]; rfl
      have hl2 := hl.out
      rw [show lix s.data.toList 58 (k + 1) = if s.data.toList.getD k 0 = 58 then (k : Int) else lix s.data.toList 58 k from rfl, hg] at hl2
      clear hx
      by_cases h : (s[k]'hlt) = 58
      · rw [if_pos h] at hl2
        have hb : ((x : Int) == 58) = true := by rw [← hx', h]; rfl
        have HL := Lib.hid hl2
        clear hl2 hl h hg
        go_wp2
        go_returns
        exact ⟨by rw [HL.out]; exact congrArg (fun i => Ending.returned (.int .i64 i)) (show ((k + 1 : Nat) : Int) - 1 = k by omega), rfl⟩
      · rw [if_neg h] at hl2
        have hb : ((x : Int) == 58) = false := by
          rw [beq_eq_false_iff_ne]
          intro e
          apply h
          rw [← UInt8.toNat_inj, hx']
          show x = 58
          omega
        have HL := Lib.hid hl2
        clear hl2 hl h hg
        go_wp2
        go_roundw
        case rel => exact ⟨by first | trivial | rfl, k, by first | trivial | (congr 1; omega), by omega, HL⟩
        case measure => simp [intOf]
end Go.Proofs.YtaofindlomkbbaaDoor
