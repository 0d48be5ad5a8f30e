/-
  Contracts of laws.steps, sameAddress, samePlaces, weighed.
-/
import Derived.Test.YtocckokbdacdfaaDoorEqual
import Derived.Test.YtocckokbdacdfaaDoorCmpEach
import Derived.Test.YtocckokbdacdfaaDoorApp
namespace Go.Proofs.YtocckokbdacdfaaDoor
open Go Go.RowKit
theorem i64_and1023 (n : Int) : bits .and .i64 n 1023 = n % 1024 := by
  have h1023 : (BitVec.ofInt 64 1023).toNat = 2 ^ 10 - 1 := by decide
  have key : (BitVec.ofInt 64 n &&& BitVec.ofInt 64 1023).toNat = (n % ((2 ^ 64 : Nat) : Int)).toNat % 2 ^ 10 := by
    rw [BitVec.toNat_and, BitVec.toNat_ofInt, h1023, Nat.and_two_pow_sub_one_eq_mod]
  show IntKind.i64.wrap ((BitVec.ofInt 64 n &&& BitVec.ofInt 64 1023).toNat : Nat) = n % 1024
  rw [key, IntKind.wrap_i64]
  omega
def stepsN (n : Int) : Nat := (n % 1024).toNat
theorem stepsN_lt (n : Int) : stepsN n < 1024 := by unfold stepsN; omega
theorem steps_c (n : Int) (w : World) : Calls Tryd.prog 13 #[.int .i64 n] w fun e w' => e = .returned (.int .i64 (stepsN n)) ∧ Below w.heap.size w w' := by
  have h : bits .and .i64 n 1023 = (stepsN n : Int) := by rw [i64_and1023]; unfold stepsN; omega
  generalize stepsN n = m at *
  go_enter Tryd.func13, Tryd.ntmps13
  go_wp2
  go_returns
  exact ⟨rfl, Below.refl _ _⟩
theorem sameAddr_c (A B : Option Addr) (n m c d : Nat) (bs cs : List UInt8) (w : World) (h1 : RB w A n bs) (h2 : RB w B m cs) (hn : n ≤ 9223372036854775807) :
    Calls Tryd.prog 20 #[.agg #[.slice A n c, .string ⟨#[]⟩], .agg #[.slice B m d, .string ⟨#[]⟩]] w fun e w' => e = .returned (.bool (decide (bs = cs))) ∧ Below w.heap.size w w' := by
  have hbx : Boxes w [#[.slice A n c, .string ⟨#[]⟩], #[.slice B m d, .string ⟨#[]⟩]] ((w.alloc (.cells #[.slice A n c, .string ⟨#[]⟩] 28)).alloc (.cells #[.slice B m d, .string ⟨#[]⟩] 28)) := boxes2 _ _ _
  go_enter Tryd.func20, Tryd.ntmps20
  go_wp2_with fail
  refine (equal_c A B n m c d bs cs _ (h1.keep hbx.below) (h2.keep hbx.below) hn).mono ?_
  rintro e w1 ⟨rfl, hb⟩
  have hw1 := hbx.keep hb
  have r0 := hw1.b0
  have r1 := hw1.b1
  have bb := hw1.below
  clear hbx hb
  by_cases hbc : bs = cs
  · rw [show decide (bs = cs) = true by simpa using hbc]
    go_wp2
    go_returns
    exact ⟨by simp [hbc], bb⟩
  · rw [show decide (bs = cs) = false by simpa using hbc]
    go_wp2
    go_returns
    exact ⟨by simp [hbc], bb⟩
set_option maxHeartbeats 4000000 in
theorem weighed_c (A B : Option Addr) (n m c d : Nat) (bs cs : List UInt8) (z : ZP) (w : World) (hz : Zs w z) (h1 : RB w A n bs) (h2 : RB w B m cs) :
    Calls Tryd.prog 22 #[.agg #[.slice A n c, .string ⟨#[]⟩], .agg #[.slice B m d, .string ⟨#[]⟩]] w fun e w' => e = .returned (.int .i64 (cmpOf bs cs)) ∧ Below w.heap.size w w' := by
  go_enter Tryd.func22, Tryd.ntmps22
  go_wp2_with fail
  have hbx := boxes3 (x0 := #[.slice A n c, .string ⟨#[]⟩]) (x1 := #[.slice B m d, .string ⟨#[]⟩]) (x2 := #[.slice B m d, .string ⟨#[]⟩]) w 28 28 28
  have hra : RA (((w.alloc (.cells #[.slice A n c, .string ⟨#[]⟩] 28)).alloc (.cells #[.slice B m d, .string ⟨#[]⟩] 28)).alloc (.cells #[.slice B m d, .string ⟨#[]⟩] 28)) (some ⟨w.heap.size + 1 + 1, 0, none⟩) 1 [⟨B, m, d, cs⟩] := by
    refine ⟨rfl, fun _ => ⟨_, _, rfl, by simp, fun i u hi => ?_⟩, fun e he => ?_⟩
    · rw [hbx.b2]
      match i, hi with
      | 0, hi => simpa [enCells, En.cells] using hi
      | 1, hi => simpa [enCells, En.cells] using hi
    · simp at he; subst he; exact h2.keep hbx.below
  refine (cmpEach_c A n c bs _ 1 1 [⟨B, m, d, cs⟩] z _ (hz.keep hbx.below) (h1.keep hbx.below) hra (by omega)).mono ?_
  rintro e w1 ⟨A', c', rfl, hown, hb⟩
  obtain ⟨g, hA, hg, hc⟩ := own_some hown (by omega)
  subst hA
  have hc0 := hc 0 _ (by simp [signs]; rfl)
  have hbb := (hbx.keep hb).below
  clear hown hc hra hbx hb
  go_wp2
  go_returns
  exact ⟨rfl, hbb⟩
end Go.Proofs.YtocckokbdacdfaaDoor
