/-
  Contract: ParseAddr at texts without a percent sign.
-/
import Derived.Test.YtaofindlomkbbaaDoorP6
namespace Go.Proofs.YtaofindlomkbbaaDoor
open Go Go.RowKit
/-- What the two results of a parser of addresses are. -/
def AddrIs (z : ZP) (R : Option (List UInt8)) (a b c x : Value) : Prop :=
  match R with
  | none => a = .int .u64 0 ∧ b = .int .u64 0 ∧ c = .pointer none ∧ ∃ y, x = .iface 89 y
  | some bs => (bs.length = 4 ∨ bs.length = 16) ∧ a = .int .u64 (adOf bs).h ∧ b = .int .u64 (adOf bs).l ∧ c = .pointer (z.ptr (adOf bs).k) ∧ x = .nilIface
theorem AddrPost.is {w w' : World} {z : ZP} {R : Option (List UInt8)} {e : Ending} (h : AddrPost w z R e w') : Below w.heap.size w w' ∧ ∃ (a b : Int) (c : Option Addr) (x : Value), e = .returned (.tuple #[.agg #[.int .u64 a, .int .u64 b, .pointer c], x]) ∧ AddrIs z R (.int .u64 a) (.int .u64 b) (.pointer c) x := by
  cases R with
  | none => obtain ⟨hb, x, rfl⟩ := h; exact ⟨hb, _, _, _, _, rfl, rfl, rfl, rfl, x, rfl⟩
  | some bs => obtain ⟨hb, hl, rfl⟩ := h; exact ⟨hb, _, _, _, _, rfl, hl, rfl, rfl, rfl, rfl⟩
theorem AddrPost.of {w w' : World} {z : ZP} {R : Option (List UInt8)} {a b c x : Value} (hb : Below w.heap.size w w') (h : AddrIs z R a b c x) : AddrPost w z R (.returned (.tuple #[.agg #[a, b, c], x])) w' := by
  cases R with
  | none => obtain ⟨rfl, rfl, rfl, y, rfl⟩ := h; exact ⟨hb, y, rfl⟩
  | some bs => obtain ⟨hl, rfl, rfl, rfl, rfl⟩ := h; exact ⟨hb, hl, rfl⟩
theorem ret35 {w wr : World} {z : ZP} {R : Option (List UInt8)} {v0 v1 x a b c : Value} {rest : List Value} (hb : Blk wr w.heap.size 54 #[.int .u64 0, .int .u64 0, .pointer none]) (hl : Below w.heap.size w wr) (h : AddrIs z R a b c x) :
    bodyPost Tryd.prog Tryd.f27 (AddrPost w z R) .ret ⟨(v0 :: v1 :: .pointer (some ⟨w.heap.size, 0, none⟩) :: x :: rest).toArray, []⟩ (((wr.setCell ⟨w.heap.size, 0, none⟩ a).setCell ⟨w.heap.size, 1, none⟩ b).setCell ⟨w.heap.size, 2, none⟩ c) :=
  bodyPost_ret (ret_addr Tryd.results27 _ _ _ _ _ _ _ _ _ (zero_put hb)) rfl (AddrPost.of (low_put hl (Nat.le_refl _)) h)
/-- What is read of a text whose first point or colon lies in the part r. -/
def pAx (l r : List UInt8) : Option (List UInt8) :=
  match r.find? Tx.special with
  | some c => if c = 46 then Tx.p4 l 0 0 [] else if c = 58 then Tx.p6 l else none
  | none => none
set_option maxRecDepth 100000 in
set_option maxHeartbeats 8000000 in
theorem parseAddr_c (s : ByteArray) (z : ZP) (w : World) (hz : Zs w z) (hs : s.size ≤ 4611686018427387904) (h37 : (37 : UInt8) ∉ s.data.toList) :
    Calls Tryd.prog 27 #[.string s] w (AddrPost w z (Tx.pA s.data.toList)) := by
  obtain ⟨R, hR⟩ : ∃ R, R = pAx s.data.toList s.data.toList := ⟨_, rfl⟩
  rw [show Tx.pA s.data.toList = R from hR.symm]
  have HR := Lib.hid hR
  have HZ := Lib.hid hz
  clear hR hz
  go_enter Tryd.func27, Tryd.ntmps27
  go_wp2_with fail
  go_loopw [4] (fun v4 wr => Hid (Blk wr w.heap.size 54 #[.int .u64 0, .int .u64 0, .pointer none] ∧ Below w.heap.size w wr) ∧ ∃ i : Nat, v4 = .int .i64 i ∧ i ≤ s.size ∧ Hid (R = pAx s.data.toList (s.data.toList.drop i))) (fun v4 _ => s.size - (intOf v4).toNat)
  case atStart => exact ⟨⟨heap_alloc_new w _, (Below.refl _ _).alloc (Nat.le_refl _) _⟩, 0, rfl, Nat.zero_le _, HR⟩
  case round =>
    obtain ⟨hw, i, rfl, hi, hr⟩ := hrel
    have hb0 := hw.out.1
    have r0 := hb0.cell
    have f0 := hb0.free
    by_cases hlt : i < s.size
    · have hlt' : (i : Int) < (s.size : Int) := by omega
      have hr1 := hr.out
      rw [at_list s i hlt] at hr1
      unfold pAx at hr1
      rw [List.find?_cons] at hr1
      obtain ⟨x, hx⟩ : ∃ x, x = (s[i]'hlt).toNat := ⟨_, rfl⟩
      have hx' : (s[i]'hlt).toNat = x := hx.symm
      have hx256 : x < 256 := by rw [hx]; exact UInt8.toNat_lt _
      have hck : ∀ c : Nat, c < 256 → ((s[i]'hlt) = c.toUInt8 ↔ x = c) := fun c hc => by
        rw [← UInt8.toNat_inj, hx']
        simp [Nat.mod_eq_of_lt hc]
      have hne37 : x ≠ 37 := fun h => h37 (by rw [← show (s[i]'hlt) = 37 from (hck 37 (by decide)).2 h]; exact Array.getElem_mem_toList _)
      have hs37 : ¬ (s[i]'hlt) = 37 := fun h => hne37 ((hck 37 (by decide)).1 h)
      by_cases h46 : x = 46
      · have e := (hck 46 (by decide)).2 h46
        rw [show (s[i]'hlt) = 46 from e] at hr1
        have hrr : R = Tx.p4 s.data.toList 0 0 [] := hr1
        have HRR := Lib.hid hrr
        have hx1 : ((x : Int) == 46) = true := by simp [h46]
        clear hr1 hrr e hck hx hr h46
        go_wp2_with fail
        refine (parse4_c s z wr (HZ.out.keep hw.out.2) hs).mono ?_
        intro e w2 hp
        rw [← HRR.out] at hp
        obtain ⟨hb2, a, b, c, y, rfl, his⟩ := hp.is
        have hbw := hw.out.2.trans (hb2.mono hw.out.2.size)
        have hb3 := hb0.below hb2
        have r1 := hb3.cell
        have f1 := hb3.free
        have HB := Lib.hid (And.intro hb3 (And.intro hbw his))
        clear hb2 hbw hb3 his r0 f0 hp
        go_wp2_with (with_reducible exact ret35 HB.out.1 HB.out.2.1 HB.out.2.2)
      · have e46 : ¬ (s[i]'hlt) = 46 := fun h => h46 ((hck 46 (by decide)).1 h)
        have hx1 : ((x : Int) == 46) = false := by rw [beq_eq_false_iff_ne]; omega
        by_cases h58 : x = 58
        · have e := (hck 58 (by decide)).2 h58
          rw [show (s[i]'hlt) = 58 from e] at hr1
          have hrr : R = Tx.p6 s.data.toList := hr1
          have HRR := Lib.hid hrr
          have hx2 : ((x : Int) == 58) = true := by simp [h58]
          clear hr1 hrr e hck hx hr h46 h58 e46
          go_wp2_with fail
          refine (parse6_c s z wr (HZ.out.keep hw.out.2) hs h37).mono ?_
          intro e w2 hp
          rw [← HRR.out] at hp
          obtain ⟨hb2, a, b, c, y, rfl, his⟩ := hp.is
          have hbw := hw.out.2.trans (hb2.mono hw.out.2.size)
          have hb3 := hb0.below hb2
          have r1 := hb3.cell
          have f1 := hb3.free
          have HB := Lib.hid (And.intro hb3 (And.intro hbw his))
          clear hb2 hbw hb3 his r0 f0 hp
          go_wp2_with (with_reducible exact ret35 HB.out.1 HB.out.2.1 HB.out.2.2)
        · have e58 : ¬ (s[i]'hlt) = 58 := fun h => h58 ((hck 58 (by decide)).1 h)
          have hx2 : ((x : Int) == 58) = false := by rw [beq_eq_false_iff_ne]; omega
          have hx3 : ((x : Int) == 37) = false := by rw [beq_eq_false_iff_ne]; omega
          have hsp : Tx.special (s[i]'hlt) = false := by simp [Tx.special, e46, e58, hs37]
          rw [hsp] at hr1
          have HRR := Lib.hid (show R = pAx s.data.toList (s.data.toList.drop (i + 1)) from hr1)
          clear hr1 hck hx hr h46 h58 e46 e58 hsp hs37 hne37
          go_wp2
          go_roundw
          case rel => exact ⟨hw, i + 1, by go_num, by omega, HRR⟩
          case measure => simp [intOf]; omega
    · have hge : ¬ (i : Int) < (s.size : Int) := by omega
      have hrn : R = none := by rw [hr.out, List.drop_eq_nil_of_le (by rw [str_len]; omega)]; rfl
      have HIS : ∀ y, Hid (AddrIs z R (.int .u64 0) (.int .u64 0) (.pointer none) (.iface 89 y)) := fun y => Lib.hid (show AddrIs z R _ _ _ _ from hrn.symm ▸ (⟨rfl, rfl, rfl, y, rfl⟩ : AddrIs z none _ _ _ _))
      clear hrn hr
      go_wp2_with (with_reducible exact ret35 hw.out.1 hw.out.2 (HIS _).out)
end Go.Proofs.YtaofindlomkbbaaDoor
