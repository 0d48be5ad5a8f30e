/-
  Contracts: Prefix.isZero, Prefix.AppendTo at valid prefixes.
-/
import Derived.Test.YtnoolheinkeocaaGreatDoorStr2
namespace Go.Proofs.YtnoolheinkeocaaGreatDoor
open Go Go.RowKit
theorem pfStr_c (bs : List UInt8) (k : Nat) (z : ZP) (w : World) (hz : Zs w z) (hl : isLen bs.length) (hk : k ≤ 8 * bs.length) :
    Calls Tryz.prog 12 #[.agg #[.int .u64 (adOf bs).h, .int .u64 (adOf bs).l, .pointer (z.ptr (adOf bs).k), .int .u8 ((k : Int) + 1)]] w fun e w' => e = .returned (.string ⟨(Tx.adT bs ++ 47 :: Tx.decT k).toArray⟩) ∧ Below w.heap.size w w' := by
  have hk128 : k ≤ 128 := by unfold isLen at hl; omega
  rw [← ipT_ad hl]
  rcases hl with hl | hl
  · have e : (adOf bs).k = some false := by rw [ad4 hl]
    rw [e]
    exact pfStr4 _ _ k z w hz hk128
  · have e : (adOf bs).k = some true := by rw [ad16 hl]
    rw [e]
    unfold ipT
    simp only
    by_cases h : (adOf bs).h = 0 ∧ (adOf bs).l / 4294967296 = 65535
    · rw [if_pos h]; exact pfStr46 _ _ k z w hz hk128 h.1 h.2
    · rw [if_neg h]; exact pfStr6 _ _ k z w hz hk128 h
end Go.Proofs.YtnoolheinkeocaaGreatDoor
