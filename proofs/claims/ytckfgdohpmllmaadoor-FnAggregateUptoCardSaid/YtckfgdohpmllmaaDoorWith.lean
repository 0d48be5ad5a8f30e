/-
  Contracts of laws.hasBit, withBits, firstOf, lastOf.
-/
import Derived.Test.YtckfgdohpmllmaaDoorBit
import Derived.Test.YtckfgdohpmllmaaDoorBlk
import Derived.Test.YtckfgdohpmllmaaDoorContains
namespace Go.Proofs.YtckfgdohpmllmaaDoor
open Go Go.RowKit
theorem hasBit_c (A : Option Addr) (n c : Nat) (bs : List UInt8) (k : Nat) (w : World) (hr : RB w A n bs) (hk : k < 8 * n) (hn : n ≤ 1000) :
    Calls Tryd.prog 18 #[.slice A n c, .int .i64 k] w fun e w' => e = .returned (.bool (bitAt bs k)) ∧ Below w.heap.size w w' := by
  obtain ⟨g, o, rfl, hg, hc⟩ := hr.2 (by omega)
  have hc0 := hc (k / 8) (by omega)
  have hb := bitAt_byte bs k (by rw [hr.1]; exact hk)
  have hx : (bs.getD (k / 8) 0).toNat < 256 := (bs.getD (k / 8) 0).toBitVec.isLt
  have hv := and1_u8 _ (7 - k % 8) hx
  rw [← hb] at hv
  generalize (bs.getD (k / 8) 0).toNat = x at *
  generalize bitAt bs k = q at *
  clear hb hc hr
  have i4 : k / 8 < n := by omega
  go_enter Tryd.func18, Tryd.ntmps18
  go_wp2
  go_returns
  exact ⟨rfl, by go_grown⟩
/-- Own bytes. -/
def OwnB (B : Nat) (n : Nat) (bs : List UInt8) (v : Value) (w : World) : Prop := ∃ g c, v = .slice (some ⟨g, 0, none⟩) n c ∧ w.ownsRow B 5 1 (.slice (some ⟨g, 0, none⟩) n c) n (Lib.byteCells bs)
theorem byteCells_set (bs : List UInt8) (i x : Nat) (hx : x < 256) : (Lib.byteCells bs).set i (.int .u8 x) = Lib.byteCells (bs.set i x.toUInt8) := by
  unfold Lib.byteCells
  rw [List.map_set]
  congr 2
  simp [Nat.toUInt8, UInt8.toNat_ofNat']
  omega
set_option maxRecDepth 100000 in
set_option maxHeartbeats 8000000 in
theorem withBits_c (A : Option Addr) (n c : Nat) (bs : List UInt8) (f : Nat) (on : Bool) (w : World) (hr : RB w A n bs) (hl : isLen n) (hf : f ≤ 8 * n) :
    Calls Tryd.prog 36 #[.slice A n c, .int .i64 f, .bool on] w fun e w' => ∃ v, e = .returned v ∧ OwnB w.heap.size n (wb bs f on) v w' ∧ Below w.heap.size w w' := by
  obtain ⟨i0, hi, hz0, hz1, hz2⟩ := info_parts infoU8
  have hlen := hr.1
  have hbl := byteCells_len bs
  have hn16 : 0 < n ∧ n ≤ 16 := by unfold isLen at hl; omega
  obtain ⟨g0, o0, rfl, hg0, hc0⟩ := hr.2 (by omega)
  have hnews : ∀ (j : Nat) (u : Value), (Lib.byteCells bs)[j]? = some u → w.cell? ((⟨g0, o0, none⟩ : Addr).add j) = some u := by
    intro j u hj
    have hj' : j < bs.length := by have := (List.getElem?_eq_some_iff.1 hj).1; omega
    rw [byteCells_get bs j hj'] at hj
    injection hj with hj
    subst hj
    have ha : (⟨g0, o0, none⟩ : Addr).add j = ⟨g0, o0 + j, none⟩ := by unfold Addr.add; split <;> simp_all
    rw [ha]
    exact hc0 j (by omega)
  have HN := Lib.hid hnews
  clear hnews hc0 hr
  go_enter Tryd.func36, Tryd.ntmps36
  go_wp2_with (at_builtin; refine wpList_append_own _ rfl _ _ 22 rfl w.heap.size 5 i0 (.int .u8 0) 1 1 Tryd.underlying22 hi hz0 hz1 hz2 rfl (by decide) _ 0 [] rfl (World.ownsRow_nil _ _ _ _) ⟨g0, o0, none⟩ n c (Lib.byteCells bs) rfl ?c0 ?c1 ?c2 ?c3 ?c4 ?c5 ?_)
  case c0 => omega
  case c1 => exact HN.out
  case c2 => intro u hu; simp [Lib.byteCells] at hu; obtain ⟨b, _, rfl⟩ := hu; rfl
  case c3 => unfold maxLen; omega
  case c4 => omega
  case c5 => exact Nat.le_refl _
  intro v1 w1 hown hgrow _
  have hb1 : Below w.heap.size w w1 := below_grown hgrow (Nat.le_refl _) (by intro g hg; cases hg)
  try simp only [Nat.zero_add, List.nil_append] at hown
  obtain ⟨A1, c1, rfl⟩ := own_slice hown
  obtain ⟨g, rfl, -, -⟩ := own_some hown (by omega)
  have HO := Lib.hid hown
  clear hown hgrow HN
  go_wp2_with fail
  go_loopw [8] (fun i wr => ∃ (k : Nat) (cs : List UInt8), f ≤ k ∧ k ≤ 8 * n ∧ i = .int .i64 k ∧ cs.length = n ∧ wr.ownsRow w.heap.size 5 1 (.slice (some ⟨g, 0, none⟩) n c1) n (Lib.byteCells cs) ∧ (∀ p, p < 8 * n → (Lib.beNat cs).testBit p = if 8 * n - k ≤ p ∧ p < 8 * n - f then on else (Lib.beNat bs).testBit p) ∧ Below w.heap.size w wr) (fun i _ => 8 * n - (intOf i).toNat)
  case atStart => exact ⟨f, bs, Nat.le_refl _, hf, rfl, hlen, HO.out, fun p hp => by rw [if_neg (by omega)], hb1⟩
  case round =>
    obtain ⟨k, cs, hk1, hk2, rfl, hcl, hown, hbits, hbb⟩ := hrel
    by_cases hkn : k < 8 * n
    · have hrb := RB.of_own hown
      have HW := Lib.hid hown
      have HB := Lib.hid hbits
      clear hown hbits HO
      go_wp2_with fail
      refine (hasBit_c _ n c1 cs k wr hrb hkn (by omega)).mono ?_
      rintro e w2 ⟨rfl, hb2⟩
      have hO2 := own_below HW.out hb2
      have hbb2 := hbb.trans (hb2.mono hbb.size)
      obtain ⟨cur, hblk, -, hcs, -, hbg⟩ := own_rowBlk hO2
      have hfree := hblk.free
      have hltg := hblk.lt
      obtain ⟨g', hg', -, hcell⟩ := own_some hO2 (by omega)
      injection hg' with hg'
      injection hg' with hg'
      subst hg'
      have hcb := hcell (k / 8) _ (byteCells_get cs (k / 8) (by omega))
      have hbq : bitAt cs k = (Lib.beNat bs).testBit (8 * n - 1 - k) := by
        unfold bitAt
        rw [hcl, HB.out _ (by omega), if_neg (by omega)]
      have hbyte := bitAt_byte cs k (by omega)
      by_cases hq : bitAt cs k = on
      · have q1 : (bitAt cs k != on) = false := by simp [hq]
        have hn2 : ∀ p, p < 8 * n → (Lib.beNat cs).testBit p = if 8 * n - (k + 1) ≤ p ∧ p < 8 * n - f then on else (Lib.beNat bs).testBit p := fun p hp => by
          rw [HB.out p hp]
          by_cases hpk : p = 8 * n - 1 - k
          · subst hpk
            rw [if_neg (by omega), if_pos (by omega), ← hbq, hq]
          · by_cases h2 : 8 * n - k ≤ p ∧ p < 8 * n - f
            · rw [if_pos h2, if_pos (by omega)]
            · rw [if_neg h2, if_neg (by omega)]
        have HN2 := Lib.hid hn2
        have HO2 := Lib.hid hO2
        clear hn2 hO2 hcell hblk hbyte hbq HB HW
        go_wp2_with fail
        go_roundw
        case rel => exact ⟨k + 1, cs, by omega, by omega, by go_num, hcl, HO2.out, HN2.out, hbb2⟩
        case measure => simp [intOf]; omega
      · have q1 : (bitAt cs k != on) = true := by simpa using hq
        have q2 : (bitAt cs k == on) = false := by simpa using hq
        have q3 : (!bitAt cs k == on) = true := by cases on <;> cases h : bitAt cs k <;> simp_all
        have hx : (cs.getD (k / 8) 0).toNat < 256 := (cs.getD (k / 8) 0).toBitVec.isLt
        obtain ⟨x1, x2⟩ := xor_u8 _ (7 - k % 8) hx (by omega)
        have hq' : on = !bitAt cs k := by cases on <;> cases h : bitAt cs k <;> simp_all
        have hn2 : ∀ p, p < 8 * n → (Lib.beNat (putB cs k ((cs.getD (k / 8) 0).toNat ^^^ 2 ^ (7 - k % 8)))).testBit p = if 8 * n - (k + 1) ≤ p ∧ p < 8 * n - f then on else (Lib.beNat bs).testBit p := fun p hp => by
          rw [putB_bit cs k _ (by omega) x2 p (by omega), hcl]
          by_cases hbk : (8 * n - 1 - p) / 8 = k / 8
          · rw [if_pos hbk, Nat.testBit_xor, Nat.testBit_two_pow]
            have hpb := beNat_bit cs p (by omega)
            rw [hcl, show n - 1 - p / 8 = k / 8 by omega] at hpb
            rw [← hpb]
            by_cases hpk : p = 8 * n - 1 - k
            · subst hpk
              rw [if_pos (by omega), show decide (7 - k % 8 = (8 * n - 1 - k) % 8) = true by simp; omega, hq']
              unfold bitAt
              rw [hcl]
              simp
            · rw [show decide (7 - k % 8 = p % 8) = false by simp; omega, Bool.xor_false, HB.out p hp]
              by_cases h2 : 8 * n - k ≤ p ∧ p < 8 * n - f
              · rw [if_pos h2, if_pos (by omega)]
              · rw [if_neg h2, if_neg (by omega)]
          · rw [if_neg hbk, HB.out p hp]
            by_cases h2 : 8 * n - k ≤ p ∧ p < 8 * n - f
            · rw [if_pos h2, if_pos (by omega)]
            · rw [if_neg h2, if_neg (by intro h3; apply hbk; omega)]
        have HN2 := Lib.hid hn2
        clear hn2 HB hbq hbyte hcell hfree hq' hq
        have x3 := byteCells_set cs (k / 8) _ x2
        have hputl := putB_len cs k ((cs.getD (k / 8) 0).toNat ^^^ 2 ^ (7 - k % 8))
        have hput : putB cs k ((cs.getD (k / 8) 0).toNat ^^^ 2 ^ (7 - k % 8)) = cs.set (k / 8) ((cs.getD (k / 8) 0).toNat ^^^ 2 ^ (7 - k % 8)).toUInt8 := rfl
        rw [← hput] at x3
        clear hput
        generalize putB cs k ((cs.getD (k / 8) 0).toNat ^^^ 2 ^ (7 - k % 8)) = cs2 at *
        generalize (cs.getD (k / 8) 0).toNat ^^^ 2 ^ (7 - k % 8) = y at *
        generalize (cs.getD (k / 8) 0).toNat = x at *
        have x1' := x1
        rw [Int.one_mul] at x1'
        have j3 : IntKind.i64.wrap (7 - (k : Int) % 8) = 7 - (k : Int) % 8 := by rw [IntKind.wrap_i64]; omega
        have j4 : (0 : Int) ≤ (k : Int) / 8 ∧ (k : Int) / 8 < n := by omega
        have j5 : IntKind.i64.wrap ((k : Int) / 8) = (k : Int) / 8 := by rw [IntKind.wrap_i64]; omega
        have j6 : IntKind.i64.wrap ((k : Int) % 8) = (k : Int) % 8 := by rw [IntKind.wrap_i64]; omega
        have HJ := Lib.hid (And.intro x1 (And.intro x1' (And.intro j3 (And.intro j4 (And.intro j5 (And.intro j6 (And.intro (show ((k : Int) / 8).toNat = k / 8 by omega) (And.intro (show (7 - (k : Int) % 8).toNat = 7 - k % 8 by omega) (show (k : Int).tmod 8 = (k : Int) % 8 from Int.tmod_eq_emod_of_nonneg (by omega))))))))))
        clear x1 x1' j3 j4 j5 j6
        have hdr : Below w2.heap.size w2 w2.drew := ⟨rfl, rfl, rfl, Nat.le_refl _, fun _ _ => rfl⟩
        go_wp2_with fail
        refine region_tail (Below w2.heap.size w2) 11 (by kernel_rfl) (by kernel_rfl) (hdr) ?_
        simp only [List.take_succ_cons, List.take_zero, List.drop_succ_cons, List.drop_zero]
        repeat (first | (refine quiet_skip rfl ?_; (simp only [Act.put, List.setIfInBounds_toArray, List.set_cons_zero, List.set_cons_succ])) | (refine quiet_run ?_ rfl (fun w1 hw1 => ?_) ?_; rotate_left; (have r0 := HJ.out.1; have r1 := HJ.out.2.1; have r2 := HJ.out.2.2.1; have r3 := HJ.out.2.2.2.1; have r4 := HJ.out.2.2.2.2.1; have r5 := HJ.out.2.2.2.2.2.1; have r6 := HJ.out.2.2.2.2.2.2.1; have r7 := HJ.out.2.2.2.2.2.2.2.1; have r8 := HJ.out.2.2.2.2.2.2.2.2; have r9 := (hw1.cell (p := ⟨g, k / 8, none⟩) hltg).trans hcb; go_simp; try (with_reducible rfl)); (simp only [Act.put, List.setIfInBounds_toArray, List.set_cons_zero, List.set_cons_succ])))
        refine wpQuiet_nil ?_
        intro w5 hw5
        have hO5 := own_below hO2 hw5
        have hk5 := hblk.below hw5
        have hf5 := hk5.free
        have hl5 := hk5.lt
        have hc5 := (hw5.cell (p := ⟨g, k / 8, none⟩) hltg).trans hcb
        have hO6 := own_put hO5 (k / 8) (.int .u8 y)
        rw [x3] at hO6
        have hb6 := (hbb2.trans (hw5.mono hbb2.size)).setCell (p := ⟨g, k / 8, none⟩) hbg (.int .u8 y)
        have HO6 := Lib.hid hO6
        have HB6 := Lib.hid hb6
        clear hO6 hb6 hO5 hk5 hO2 hblk x3
        go_wp2
        go_roundw
        case rel => exact ⟨k + 1, cs2, by omega, by omega, by go_num, by rw [hputl, hcl], HO6.out, HN2.out, HB6.out⟩
        case measure => simp [intOf]; omega
    · have hkn' : k = 8 * n := by omega
      subst hkn'
      have hfin : cs = wb bs f on := wb_of bs cs f on (by omega) (fun p hp => by
        rw [hlen] at hp ⊢
        rw [hbits p hp]
        by_cases h2 : p < 8 * n - f
        · rw [if_pos (by omega), if_pos h2]
        · rw [if_neg (by omega), if_neg h2])
      rw [hfin] at hown
      have HW := Lib.hid hown
      clear hown hbits HO hfin
      go_wp2
      go_returns
      exact ⟨_, rfl, ⟨g, c1, rfl, HW.out⟩, hbb⟩
end Go.Proofs.YtckfgdohpmllmaaDoor
