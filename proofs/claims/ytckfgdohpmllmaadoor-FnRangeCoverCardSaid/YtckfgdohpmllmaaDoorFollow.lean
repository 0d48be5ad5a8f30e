/-
  Contract of laws.following.
-/
import Derived.Test.YtckfgdohpmllmaaDoorLess
namespace Go.Proofs.YtckfgdohpmllmaaDoor
open Go Go.RowKit
/-- The bytes while the end is carried: those from t on are 0. -/
def carried (bs : List UInt8) (t : Nat) : List UInt8 := bs.take t ++ List.replicate (bs.length - t) 0
theorem carried_len (bs : List UInt8) (t : Nat) (ht : t ≤ bs.length) : (carried bs t).length = bs.length := by unfold carried; simp; omega
theorem carried_all (bs : List UInt8) : carried bs bs.length = bs := by unfold carried; simp
theorem carried_at (bs : List UInt8) (t : Nat) (ht : t < bs.length) : (carried bs (t + 1)).getD t 0 = bs.getD t 0 := by
  unfold carried
  rw [List.getD, List.getD, List.getElem?_append_left (by simp; omega), List.getElem?_take_of_lt (by omega)]
theorem beNat_zeros (m : Nat) : Lib.beNat (List.replicate m (0 : UInt8)) = 0 := by
  induction m with
  | zero => rfl
  | succ m ih =>
    have := beNat_append [0] (List.replicate m (0 : UInt8))
    rw [List.singleton_append] at this
    rw [List.replicate_succ, this, ih]
    simp [Lib.beNat, Lib.beFrom]
theorem take_snoc (bs : List UInt8) (t : Nat) (ht : t < bs.length) : bs.take (t + 1) = bs.take t ++ [bs.getD t 0] := by
  rw [List.take_add_one, List.getElem?_eq_getElem ht]; simp [List.getD, ht]
theorem carried_set (bs : List UInt8) (t : Nat) (y : UInt8) (ht : t < bs.length) : (carried bs (t + 1)).set t y = bs.take t ++ y :: List.replicate (bs.length - (t + 1)) 0 := by
  unfold carried
  have hm : (bs.take t).length = t := by rw [List.length_take]; omega
  rw [take_snoc bs t ht, List.append_assoc, List.set_append_right _ _ (by omega), hm, Nat.sub_self]
  rfl
theorem carried_set0 (bs : List UInt8) (t : Nat) (ht : t < bs.length) : (carried bs (t + 1)).set t 0 = carried bs t := by
  rw [carried_set bs t 0 ht]
  unfold carried
  rw [show bs.length - t = bs.length - (t + 1) + 1 by omega, List.replicate_succ]
theorem beNat_take (bs : List UInt8) (t : Nat) (ht : t < bs.length) : Lib.beNat (bs.take (t + 1)) = Lib.beNat (bs.take t) * 256 + (bs.getD t 0).toNat := by
  rw [take_snoc bs t ht, beNat_append]
  simp [Lib.beNat, Lib.beFrom]
/-- The byte that is not the greatest one ends it. -/
theorem carried_end (bs : List UInt8) (t x : Nat) (ht : t < bs.length) (hx : (bs.getD t 0).toNat = x) (h255 : x + 1 < 256) (hc : Lib.beNat bs + 1 = (Lib.beNat (bs.take (t + 1)) + 1) * 256 ^ (bs.length - (t + 1))) :
    (carried bs (t + 1)).set t (x + 1).toUInt8 = Lib.beBytes bs.length (Lib.beNat bs + 1) := by
  have hlen : ((carried bs (t + 1)).set t (x + 1).toUInt8).length = bs.length := by rw [List.length_set, carried_len _ _ (by omega)]
  have hform := carried_set bs t (x + 1).toUInt8 ht
  have hnum : Lib.beNat ((carried bs (t + 1)).set t (x + 1).toUInt8) = Lib.beNat bs + 1 := by
    rw [hform, hc, beNat_take bs t ht, hx, ← List.singleton_append, ← List.append_assoc, beNat_append, beNat_append, beNat_zeros, List.length_replicate]
    have : Lib.beNat [(x + 1).toUInt8] = x + 1 := by simp [Lib.beNat, Lib.beFrom, Nat.toUInt8, UInt8.toNat_ofNat']; omega
    rw [this]
    simp only [List.length_singleton, Nat.pow_one, Nat.add_zero]
    rw [Nat.add_assoc]
  have := beBytes_beNat ((carried bs (t + 1)).set t (x + 1).toUInt8)
  rw [hlen, hnum] at this
  exact this.symm
set_option maxRecDepth 100000 in
set_option maxHeartbeats 8000000 in
theorem following_c (g0 o0 n c : Nat) (bs : List UInt8) (w : World) (hr : RB w (some ⟨g0, o0, none⟩) n bs) (hl : isLen n) (hmax : Lib.beNat bs + 1 < 256 ^ n) :
    Calls Tryd.prog 39 #[.slice (some ⟨g0, o0, none⟩) n c] w fun e w' => ∃ v, e = .returned v ∧ OwnB w.heap.size n (Lib.beBytes n (Lib.beNat bs + 1)) v w' ∧ Below w.heap.size w w' := by
  obtain ⟨i0, hi, hz0, hz1, hz2⟩ := info_parts infoU8
  have hlen := hr.1
  have hbl := byteCells_len bs
  have hn16 : 0 < n ∧ n ≤ 16 := by unfold isLen at hl; omega
  obtain ⟨g1, o1, hA, hg0, hc0⟩ := hr.2 (by omega)
  injection hA with hA
  injection hA with hA1 hA2
  subst hA1 hA2
  have hnews : ∀ (j : Nat) (u : Value), (Lib.byteCells bs)[j]? = some u → w.cell? ⟨g0, o0 + j, none⟩ = some u := by
    intro j u hj
    have hj' : j < bs.length := by have := (List.getElem?_eq_some_iff.1 hj).1; omega
    rw [byteCells_get bs j hj'] at hj
    injection hj with hj
    subst hj
    exact hc0 j (by omega)
  have HN := Lib.hid hnews
  have HMX := Lib.hid (And.intro hmax hlen)
  clear hnews hc0 hr hmax
  go_enter Tryd.func39, Tryd.ntmps39
  go_wp2_with (at_builtin; refine wpList_append_own _ rfl _ _ 22 rfl w.heap.size 5 i0 (.int .u8 0) 1 1 Tryd.underlying22 hi hz0 hz1 hz2 rfl (by decide) _ 0 [] rfl (World.ownsRow_nil _ _ _ _) ⟨g0, o0, none⟩ n c (Lib.byteCells bs) rfl ?c0 ?c1 ?c2 ?c3 ?c4 ?c5 ?_)
  case c1 => exact HN.out
  case c2 => intro u hu; simp [Lib.byteCells] at hu; obtain ⟨b, _, rfl⟩ := hu; rfl
  case c3 => unfold maxLen; omega
  case c4 => omega
  intro v1 w1 hown hgrow _
  have hb1 : Below w.heap.size w w1 := below_grown hgrow (Nat.le_refl _) (by intro g hg; cases hg)
  try simp only [Nat.zero_add, List.nil_append] at hown
  obtain ⟨A1, c1, rfl⟩ := own_slice hown
  obtain ⟨g, rfl, -, -⟩ := own_some hown (by omega)
  have HO := Lib.hid hown
  clear hown hgrow HN hbl hlen
  go_wp2_with fail
  go_loopw [4] (fun i wr => ∃ (t : Nat), t ≤ n ∧ i = .int .i64 ((t : Int) - 1) ∧ wr.ownsRow w.heap.size 5 1 (.slice (some ⟨g, 0, none⟩) n c1) n (Lib.byteCells (carried bs t)) ∧ Lib.beNat bs + 1 = (Lib.beNat (bs.take t) + 1) * 256 ^ (bs.length - t) ∧ Below w.heap.size w wr) (fun i _ => ((intOf i) + 1).toNat)
  case atStart => exact ⟨n, Nat.le_refl _, by go_num, by rw [← HMX.out.2, carried_all]; rw [HMX.out.2]; exact HO.out, by rw [← HMX.out.2]; simp, hb1⟩
  case round =>
    obtain ⟨t, ht, rfl, hown, hcar, hbb⟩ := hrel
    have HC := Lib.hid hcar
    clear HO hb1 hcar
    cases t with
    | zero =>
      exfalso
      have h1 := HC.out
      have h2 := HMX.out.1
      rw [← HMX.out.2] at h2
      simp [Lib.beNat, Lib.beFrom] at h1 h2
      omega
    | succ t =>
      have hrd : (carried bs (t + 1)).length = n := by rw [carried_len _ _ (by rw [HMX.out.2]; exact ht)]; exact HMX.out.2
      obtain ⟨g', hg', hltg, hcell⟩ := own_some hown (by omega)
      injection hg' with hg'
      injection hg' with hg'
      subst hg'
      obtain ⟨cur, hblk, -, -, -, hBg⟩ := own_rowBlk hown
      have f0 := hblk.free
      have x0 := hcell t _ (byteCells_get (carried bs (t + 1)) t (by omega))
      rw [carried_at bs t (by rw [HMX.out.2]; omega)] at x0
      have hx256 : (bs.getD t 0).toNat < 256 := (bs.getD t 0).toBitVec.isLt
      obtain ⟨x, hx⟩ : ∃ x, x = (bs.getD t 0).toNat := ⟨_, rfl⟩
      rw [← hx] at x0 hx256
      have HXV := Lib.hid hx
      clear hx
      have q1 : ((((t + 1 : Nat) : Int)) - 1) = (t : Int) := by omega
      rw [q1]
      clear q1
      by_cases h255 : x + 1 < 256
      · have hO2 := own_put hown t (.int .u8 ((x + 1 : Nat) : Int))
        rw [byteCells_set _ _ _ h255, carried_end bs t x (by rw [HMX.out.2]; omega) HXV.out.symm h255 HC.out, HMX.out.2] at hO2
        have hb2 := hbb.setCell (p := ⟨g, t, none⟩) hBg (.int .u8 ((x + 1 : Nat) : Int))
        have w1' : IntKind.u8.wrap ((x : Int) + 1) = (x : Int) + 1 := by rw [IntKind.wrap_u8]; omega
        have hne0 : ((x : Int) + 1 == 0) = false := by simp; omega
        have G1 := Lib.hid hO2
        have G2 := Lib.hid hb2
        clear hO2 hb2 hcell hown hblk
        go_wp2
        go_returns
        exact ⟨_, rfl, ⟨g, c1, rfl, G1.out⟩, G2.out⟩
      · obtain rfl : x = 255 := by omega
        have hO2 := own_put hown t (.int .u8 ((0 : Nat) : Int))
        rw [byteCells_set _ _ _ (by omega), show (0 : Nat).toUInt8 = 0 by rfl, carried_set0 bs t (by rw [HMX.out.2]; omega)] at hO2
        have hb2 := hbb.setCell (p := ⟨g, t, none⟩) hBg (.int .u8 ((0 : Nat) : Int))
        have hc2 : Lib.beNat bs + 1 = (Lib.beNat (bs.take t) + 1) * 256 ^ (bs.length - t) := by
          rw [HC.out, beNat_take bs t (by rw [HMX.out.2]; omega), ← HXV.out, show bs.length - t = bs.length - (t + 1) + 1 by rw [HMX.out.2]; omega, Nat.pow_succ, ← Nat.mul_assoc, Nat.mul_right_comm]
          congr 1
          omega
        have G1 := Lib.hid hO2
        have G2 := Lib.hid hb2
        have G3 := Lib.hid hc2
        clear hO2 hb2 hcell hown hblk hc2
        go_wp2
        go_roundw
        case rel => exact ⟨t, by omega, by go_num, G1.out, G3.out, G2.out⟩
        case measure => simp [intOf]
end Go.Proofs.YtckfgdohpmllmaaDoor
