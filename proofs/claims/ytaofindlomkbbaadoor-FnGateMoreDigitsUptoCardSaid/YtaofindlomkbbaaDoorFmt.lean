/-
  Contracts: the bytes and groups of an address; appendDecimal, appendHex.
-/
import Derived.Test.YtaofindlomkbbaaDoorBuf
import Derived.Test.YtaofindlomkbbaaDoorRegion3
namespace Go.Proofs.YtaofindlomkbbaaDoor
open Go Go.RowKit
theorem digits_at (d : Nat) (h : d < 16) (q : d < (⟨#[48, 49, 50, 51, 52, 53, 54, 55, 56, 57, 97, 98, 99, 100, 101, 102]⟩ : ByteArray).size) : (⟨#[48, 49, 50, 51, 52, 53, 54, 55, 56, 57, 97, 98, 99, 100, 101, 102]⟩ : ByteArray)[d]'q = Tx.hdig d := by
  revert q
  have : ∀ d : Fin 16, ∀ q : d.1 < (⟨#[48, 49, 50, 51, 52, 53, 54, 55, 56, 57, 97, 98, 99, 100, 101, 102]⟩ : ByteArray).size, (⟨#[48, 49, 50, 51, 52, 53, 54, 55, 56, 57, 97, 98, 99, 100, 101, 102]⟩ : ByteArray)[d.1]'q = Tx.hdig d.1 := by decide
  exact this ⟨d, h⟩
theorem digits_at10 (d : Nat) (h : d < 10) (q : d < (⟨#[48, 49, 50, 51, 52, 53, 54, 55, 56, 57, 97, 98, 99, 100, 101, 102]⟩ : ByteArray).size) : (⟨#[48, 49, 50, 51, 52, 53, 54, 55, 56, 57, 97, 98, 99, 100, 101, 102]⟩ : ByteArray)[d]'q = Tx.dig d := by
  rw [digits_at d (by omega)]
  unfold Tx.hdig Tx.dig
  rw [if_pos h]
theorem dec3 {x : Nat} (h : 100 ≤ (x : Int)) : Tx.decT x = [Tx.dig (x / 100), Tx.dig (x / 10 % 10), Tx.dig (x % 10)] := by unfold Tx.decT; rw [if_pos (by omega), if_pos (by omega)]; rfl
theorem dec2 {x : Nat} (h : (x : Int) < 100) (h1 : 10 ≤ (x : Int)) : Tx.decT x = [Tx.dig (x / 10 % 10), Tx.dig (x % 10)] := by unfold Tx.decT; rw [if_neg (by omega), if_pos (by omega)]; rfl
theorem dec1 {x : Nat} (h : (x : Int) < 10) : Tx.decT x = [Tx.dig (x % 10)] := by unfold Tx.decT; rw [if_neg (by omega), if_neg (by omega)]; rfl
theorem hex4 {x : Nat} (h : 4096 ≤ (x : Int)) : Tx.hexT x = [Tx.hdig (x / 4096), Tx.hdig (x / 256 % 16), Tx.hdig (x / 16 % 16), Tx.hdig (x % 16)] := by unfold Tx.hexT; rw [if_pos (by omega), if_pos (by omega), if_pos (by omega)]; rfl
theorem hex3 {x : Nat} (h : (x : Int) < 4096) (h1 : 256 ≤ (x : Int)) : Tx.hexT x = [Tx.hdig (x / 256 % 16), Tx.hdig (x / 16 % 16), Tx.hdig (x % 16)] := by unfold Tx.hexT; rw [if_neg (by omega), if_pos (by omega), if_pos (by omega)]; rfl
theorem hex2 {x : Nat} (h : (x : Int) < 256) (h1 : 16 ≤ (x : Int)) : Tx.hexT x = [Tx.hdig (x / 16 % 16), Tx.hdig (x % 16)] := by unfold Tx.hexT; rw [if_neg (by omega), if_neg (by omega), if_pos (by omega)]; rfl
theorem hex1 {x : Nat} (h : (x : Int) < 16) : Tx.hexT x = [Tx.hdig (x % 16)] := by unfold Tx.hexT; rw [if_neg (by omega), if_neg (by omega), if_neg (by omega)]; rfl
set_option maxRecDepth 100000 in
set_option maxHeartbeats 4000000 in
theorem decimal_c (B : Nat) (v : Value) (l : List UInt8) (x : Nat) (W0 W1 w : World) (hb : TB B W0 W1 w v l) (hlen : l.length + 3 ≤ 140737488355328) (hx : x < 256) :
    Calls Tryd.prog 51 #[v, .int .u8 x] w fun e w' => ∃ v', e = .returned v' ∧ TB B W0 W1 w' v' (l ++ Tx.decT x) := by
  obtain ⟨i0, hi, hz0, hz1, hz2⟩ := info_parts infoU8
  go_enter Tryd.func51, Tryd.ntmps51
  go_wp2_with (at_builtin; (refine app_byte i0 hi hz0 hz1 hz2 rfl _ _ rfl rfl _ _ rfl (by assumption) rfl (by first | omega | (simp; omega)) ?_; intro _ _ hb))
  all_goals go_ret
  all_goals refine ⟨_, rfl, ?_⟩
  all_goals simp (disch := omega) only [digits_at10] at hb
  · rw [dec3 (by assumption)]; simpa using hb
  · rw [dec2 (by assumption) (by assumption)]; simpa using hb
  · rw [dec1 (by assumption)]; simpa using hb
theorem u16_and15 (x : Int) (h0 : 0 ≤ x) (h1 : x < 65536) : bits .and .u16 x 15 = x % 16 := bits_mask .u16 16 (by decide) wraps_u16 4 (by decide) x h0 h1
set_option maxRecDepth 100000 in
set_option maxHeartbeats 4000000 in
theorem hex_c (B : Nat) (v : Value) (l : List UInt8) (x : Nat) (W0 W1 w : World) (hb : TB B W0 W1 w v l) (hlen : l.length + 4 ≤ 140737488355328) (hx : x < 65536) :
    Calls Tryd.prog 55 #[v, .int .u16 x] w fun e w' => ∃ v', e = .returned v' ∧ TB B W0 W1 w' v' (l ++ Tx.hexT x) := by
  obtain ⟨i0, hi, hz0, hz1, hz2⟩ := info_parts infoU8
  have a1 : bits .and .u16 ((x : Int) / 256) 15 = (x : Int) / 256 % 16 := u16_and15 _ (by omega) (by omega)
  have a2 : bits .and .u16 ((x : Int) / 16) 15 = (x : Int) / 16 % 16 := u16_and15 _ (by omega) (by omega)
  have a3 : bits .and .u16 (x : Int) 15 = (x : Int) % 16 := u16_and15 _ (by omega) (by omega)
  go_enter Tryd.func55, Tryd.ntmps55
  go_wp2_with (at_builtin; (refine app_byte i0 hi hz0 hz1 hz2 rfl _ _ rfl rfl _ _ rfl (by assumption) rfl (by first | omega | (simp; omega)) ?_; intro _ _ hb))
  all_goals go_ret
  all_goals refine ⟨_, rfl, ?_⟩
  all_goals simp (disch := omega) only [digits_at] at hb
  · rw [hex4 (by assumption)]; simpa using hb
  · rw [hex3 (by assumption) (by assumption)]; simpa using hb
  · rw [hex2 (by assumption) (by assumption)]; simpa using hb
  · rw [hex1 (by assumption)]; simpa using hb
/-- The bytes of an IPv4 address, the groups of an IPv6 address. -/
def v4n (l i : Nat) : Nat := l / 2 ^ (8 * (3 - i)) % 256
def v6n (h l i : Nat) : Nat := (if i < 4 then h else l) / 2 ^ (16 * (3 - i % 4)) % 65536
theorem v4_c (h l : Nat) (k : Option Addr) (i : Nat) (hi : i < 4) (w : World) :
    Calls Tryd.prog 52 #[.agg #[.int .u64 h, .int .u64 l, .pointer k], .int .u8 i] w fun e w' => e = .returned (.int .u8 (v4n l i)) ∧ Below w.heap.size w w' := by
  match i, hi with
  | 0, _ =>
    rw [show ((v4n l 0 : Nat) : Int) = (l : Int) / 16777216 % 256 by unfold v4n; omega]
    go_enter Tryd.func52, Tryd.ntmps52
    go_wp2
    go_returns
    exact ⟨rfl, by go_grown⟩
  | 1, _ =>
    rw [show ((v4n l 1 : Nat) : Int) = (l : Int) / 65536 % 256 by unfold v4n; omega]
    go_enter Tryd.func52, Tryd.ntmps52
    go_wp2
    go_returns
    exact ⟨rfl, by go_grown⟩
  | 2, _ =>
    rw [show ((v4n l 2 : Nat) : Int) = (l : Int) / 256 % 256 by unfold v4n; omega]
    go_enter Tryd.func52, Tryd.ntmps52
    go_wp2
    go_returns
    exact ⟨rfl, by go_grown⟩
  | 3, _ =>
    rw [show ((v4n l 3 : Nat) : Int) = (l : Int) % 256 by unfold v4n; omega]
    go_enter Tryd.func52, Tryd.ntmps52
    go_wp2
    go_returns
    exact ⟨rfl, by go_grown⟩
theorem halves_c (g o : Nat) (w : World) :
    Calls Tryd.prog 72 #[.pointer (some ⟨g, o, none⟩)] w fun e w' => e = .returned (.agg #[.pointer (some ⟨g, o, none⟩), .pointer (some ⟨g, o + 1, none⟩)]) ∧ Below w.heap.size w w' := by
  go_enter Tryd.func72, Tryd.ntmps72
  go_wp2_with fail
  refine region_tail (Boxes w [#[.pointer none, .pointer none]]) 7 (by kernel_rfl) (by kernel_rfl) ((boxes1 _ _).drew) ?_
  simp only [List.take_succ_cons, List.take_zero, List.drop_succ_cons, List.drop_zero]
  repeat (first | (refine quiet_skip rfl ?_; (simp only [Act.put, List.setIfInBounds_toArray, List.set_cons_zero, List.set_cons_succ])) | (refine quiet_run ?_ rfl (fun w1 hw1 => ?_) ?_; rotate_left; (go_simp; try (with_reducible rfl)); (simp only [Act.put, List.setIfInBounds_toArray, List.set_cons_zero, List.set_cons_succ])))
  refine wpQuiet_nil ?_
  intro w1 hw1
  have bb := hw1.below
  have r0 := hw1.b0
  have f0 := hw1.f0
  go_wp2
  refine bodyPost_ret (v := .agg #[.pointer (some ⟨g, o, none⟩), .pointer (some ⟨g, o + 1, none⟩)]) (by simp [results, Tryd.results72, go_sem, r0]) rfl ?_
  exact ⟨rfl, by go_grown⟩
end Go.Proofs.YtaofindlomkbbaaDoor
