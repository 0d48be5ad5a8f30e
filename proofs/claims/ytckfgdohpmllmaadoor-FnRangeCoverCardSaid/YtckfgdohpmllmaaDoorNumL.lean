/-
  Addresses of a prefix by their numbers. Plain.
-/
import Derived.Test.YtckfgdohpmllmaaDoorOrd
namespace Go.Proofs.YtckfgdohpmllmaaDoor
open Go Go.RowKit
theorem div_iff (v q T : Nat) (hT : 0 < T) : v / T = q ↔ q * T ≤ v ∧ v < q * T + T := by
  constructor
  · rintro rfl
    have h1 := Nat.div_mul_le_self v T
    have h2 := Nat.lt_div_mul_add (a := v) hT
    exact ⟨h1, h2⟩
  · rintro ⟨h1, h2⟩
    exact Nat.div_eq_of_lt_le h1 (by rw [Nat.add_mul, Nat.one_mul]; exact h2)
theorem in_num {p : Pf} {n v : Nat} (hl : p.bs.length = n) (hv : v < 256 ^ n) : inP p.bs p.k (Lib.beBytes n v) = true ↔ fN p.is ≤ v ∧ v < fN p.is + 2 ^ (8 * n - p.k) := by
  rw [inP_iff, Lib.beBytes_length, beNat_beBytes n v hv, hl, div_iff _ _ _ (Nat.pow_pos (by omega)), fN_eq]
  simp only [Pf.is, hl]
  constructor
  · rintro ⟨-, h⟩; exact h
  · intro h; exact ⟨trivial, h⟩
theorem last_num (p : List UInt8) (k : Nat) : Lib.beNat (wb p k true) + 1 = fN (p, k) + 2 ^ (8 * p.length - k) := by
  rw [fN_eq, wb_beNat]
  unfold wbN
  have := Nat.pow_pos (n := 8 * p.length - k) (show 0 < 2 by omega)
  simp only [if_true]
  omega
theorem fN_lt (p : List UInt8 × Nat) : fN p < 256 ^ p.1.length := by have := beNat_lt (wb p.1 p.2 false); rw [wb_len] at this; exact this
end Go.Proofs.YtckfgdohpmllmaaDoor
