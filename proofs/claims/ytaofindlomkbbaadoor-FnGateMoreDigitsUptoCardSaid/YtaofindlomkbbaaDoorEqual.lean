/-
  Contracts of laws.equal, isAddress, steps, sameAddress.
-/
import Derived.Test.YtaofindlomkbbaaDoorMem
namespace Go.Proofs.YtaofindlomkbbaaDoor
open Go Go.RowKit
theorem equal_len (A B : Option Addr) (n m c d : Nat) (w : World) (hne : n ≠ m) :
    Calls Tryd.prog 19 #[.slice A n c, .slice B m d] w fun e w' => e = .returned (.bool false) ∧ Below w.heap.size w w' := by
  have h1 : ((n : Int) != m) = true := by simp; omega
  have h2 : (n != m) = true := by simpa using hne
  clear hne
  go_enter Tryd.func19, Tryd.ntmps19
  go_wp2
  go_returns
  exact ⟨rfl, Below.refl _ _⟩
theorem equal_zero (A B : Option Addr) (c d : Nat) (w : World) :
    Calls Tryd.prog 19 #[.slice A 0 c, .slice B 0 d] w fun e w' => e = .returned (.bool true) ∧ Below w.heap.size w w' := by
  go_enter Tryd.func19, Tryd.ntmps19
  go_wp2_with fail
  refine wp_loop_rounds 1 ?_
  rw [rounds_succ]
  go_wp2
  go_returns
  exact ⟨rfl, Below.refl _ _⟩
set_option maxHeartbeats 4000000 in
theorem equal_some (g o g' o' n c d : Nat) (bs cs : List UInt8) (w : World) (h1 : RB w (some ⟨g, o, none⟩) n bs) (h2 : RB w (some ⟨g', o', none⟩) n cs) (hn : n ≤ 9223372036854775807) :
    Calls Tryd.prog 19 #[.slice (some ⟨g, o, none⟩) n c, .slice (some ⟨g', o', none⟩) n d] w fun e w' => e = .returned (.bool (decide (bs = cs))) ∧ Below w.heap.size w w' := by
  obtain ⟨r, hr⟩ : ∃ r, r = decide (bs = cs) := ⟨_, rfl⟩
  have HR := Lib.hid hr
  rw [← hr]
  clear hr
  go_enter Tryd.func19, Tryd.ntmps19
  go_wp2_with fail
  go_loopw [13] (fun i wr => ∃ k : Nat, k ≤ n ∧ i = .int .i64 k ∧ (∀ j, j < k → bs.getD j 0 = cs.getD j 0) ∧ Below w.heap.size w wr) (fun i _ => n - (intOf i).toNat)
  case atStart => exact ⟨0, Nat.zero_le _, rfl, fun j hj => absurd hj (by omega), Below.refl _ _⟩
  case round =>
    obtain ⟨k, hk, rfl, heq, hb⟩ := hrel
    have HE := Lib.hid heq
    clear heq
    by_cases hlt : k < n
    · obtain ⟨ga, oa, ea, hga, ca⟩ := (h1.keep hb).2 (by omega)
      injection ea with ea
      injection ea with e1 e2
      subst e1 e2
      obtain ⟨gb, ob, eb, hgb, cb⟩ := (h2.keep hb).2 (by omega)
      injection eb with eb
      injection eb with e1 e2
      subst e1 e2
      have ck1 := ca k hlt
      have ck2 := cb k hlt
      have HL1 := h1.1
      have HL2 := h2.1
      have hu1 : (bs.getD k 0).toNat < 256 := (bs.getD k 0).toNat_lt
      have hu2 : (cs.getD k 0).toNat < 256 := (cs.getD k 0).toNat_lt
      have hkI : (k : Int) < (n : Int) := by omega
      clear ca cb
      obtain ⟨x, hx⟩ : ∃ x, x = bs.getD k 0 := ⟨_, rfl⟩
      obtain ⟨y, hy⟩ : ∃ y, y = cs.getD k 0 := ⟨_, rfl⟩
      rw [← hx] at ck1 hu1
      rw [← hy] at ck2 hu2
      have HX := Lib.hid hx
      have HY := Lib.hid hy
      have HLa := Lib.hid HL1
      have HLb := Lib.hid HL2
      clear hx hy HL1 HL2
      by_cases hxy : x = y
      · subst hxy
        go_wp2_with fail
        go_quiet (fail)
        go_wp2
        go_roundw
        case rel =>
          refine ⟨k + 1, by omega, by go_num, fun j hj => ?_, hb.trans ⟨rfl, rfl, rfl, Nat.le_refl _, fun _ _ => rfl⟩⟩
          by_cases hjk : j = k
          · subst hjk; rw [← HX.out, ← HY.out]
          · exact HE.out j (by omega)
        case measure => simp [intOf]; omega
      · have hne : ((x.toNat : Int) != y.toNat) = true := by
          simp
          intro e
          exact hxy (UInt8.toNat_inj.1 (by omega))
        have hne2 : (x.toNat != y.toNat) = true := by
          simp
          intro e
          exact hxy (UInt8.toNat_inj.1 e)
        obtain rfl : r = false := by
          rw [HR.out]
          simp
          intro e
          subst e
          exact hxy (HX.out.trans HY.out.symm)
        clear hxy
        go_wp2_with fail
        go_quiet (fail)
        go_wp2
        go_returns
        exact ⟨rfl, hb.trans ⟨rfl, rfl, rfl, Nat.le_refl _, fun _ _ => rfl⟩⟩
    · have hkn : k = n := by omega
      subst hkn
      obtain rfl : r = true := by
        rw [HR.out]
        simp
        apply List.ext_getElem (by rw [h1.1, h2.1])
        intro j hj1 hj2
        have := HE.out j (by rw [← h1.1]; exact hj1)
        simpa [List.getD, hj1, hj2] using this
      go_wp2
      go_returns
      exact ⟨rfl, hb⟩
theorem equal_c (A B : Option Addr) (n m c d : Nat) (bs cs : List UInt8) (w : World) (h1 : RB w A n bs) (h2 : RB w B m cs) (hn : n ≤ 9223372036854775807) :
    Calls Tryd.prog 19 #[.slice A n c, .slice B m d] w fun e w' => e = .returned (.bool (decide (bs = cs))) ∧ Below w.heap.size w w' := by
  by_cases hnm : n = m
  · subst hnm
    by_cases h0 : n = 0
    · subst h0
      obtain rfl : bs = [] := List.eq_nil_of_length_eq_zero h1.1
      obtain rfl : cs = [] := List.eq_nil_of_length_eq_zero h2.1
      exact equal_zero A B c d w
    · obtain ⟨g, o, rfl, _⟩ := h1.2 (by omega)
      obtain ⟨g', o', rfl, _⟩ := h2.2 (by omega)
      exact equal_some g o g' o' n c d bs cs w h1 h2 hn
  · have : decide (bs = cs) = false := by
      simp
      intro e
      subst e
      exact hnm (h1.1.symm.trans h2.1)
    rw [this]
    exact equal_len A B n m c d w hnm
theorem isAddress_c (A : Option Addr) (n c : Nat) (w : World) :
    Calls Tryd.prog 7 #[.slice A n c] w fun e w' => e = .returned (.bool (n == 4 || n == 16)) ∧ Below w.heap.size w w' := by
  by_cases h4 : n = 4
  · subst h4
    go_enter Tryd.func7, Tryd.ntmps7
    go_wp2
    go_returns
    exact ⟨rfl, Below.refl _ _⟩
  · have e4 : ((n : Int) == 4) = false := beq_eq_false_iff_ne.2 (by omega)
    by_cases h16 : n = 16
    · subst h16
      go_enter Tryd.func7, Tryd.ntmps7
      go_wp2
      go_returns
      exact ⟨rfl, Below.refl _ _⟩
    · have e16 : ((n : Int) == 16) = false := beq_eq_false_iff_ne.2 (by omega)
      have hr : (n == 4 || n == 16) = false := by simp [h4, h16]
      rw [hr]
      clear hr
      go_enter Tryd.func7, Tryd.ntmps7
      go_wp2
      go_returns
      exact ⟨rfl, Below.refl _ _⟩
end Go.Proofs.YtaofindlomkbbaaDoor
