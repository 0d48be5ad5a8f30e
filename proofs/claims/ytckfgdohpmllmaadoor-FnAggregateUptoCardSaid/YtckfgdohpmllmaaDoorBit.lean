/-
  Bits of addresses, in plain Lean.
-/
import Derived.Test.YtckfgdohpmllmaaDoorBits
namespace Go.Proofs.YtckfgdohpmllmaaDoor
open Go
theorem beNat_cons (x : UInt8) (xs : List UInt8) : Lib.beNat (x :: xs) = x.toNat * 256 ^ xs.length + Lib.beNat xs := by
  have := beNat_append [x] xs
  simpa [Lib.beNat, Lib.beFrom] using this
theorem pow256 (n : Nat) : 256 ^ n = 2 ^ (8 * n) := by rw [Nat.pow_mul]
/-- The bit p, from the right, of the number of some bytes. -/
theorem beNat_bit (bs : List UInt8) : ∀ p, p < 8 * bs.length → (Lib.beNat bs).testBit p = ((bs.getD (bs.length - 1 - p / 8) 0).toNat).testBit (p % 8) := by
  induction bs with
  | nil => intro p hp; simp at hp
  | cons x xs ih =>
    intro p hp
    rw [beNat_cons, pow256, Nat.mul_comm]
    have hlt := beNat_lt xs
    rw [pow256] at hlt
    simp only [List.length_cons] at hp ⊢
    rw [Nat.testBit_two_pow_mul_add _ hlt]
    by_cases h : p < 8 * xs.length
    · rw [if_pos h, ih p h, show xs.length + 1 - 1 - p / 8 = (xs.length - 1 - p / 8) + 1 by omega]
      rfl
    · rw [if_neg h, show xs.length + 1 - 1 - p / 8 = 0 by omega, show p - 8 * xs.length = p % 8 by omega]
      rfl
theorem beNat_no_bit (bs : List UInt8) (p : Nat) (hp : 8 * bs.length ≤ p) : (Lib.beNat bs).testBit p = false := by
  have := beNat_lt bs
  rw [pow256] at this
  exact Nat.testBit_lt_two_pow (Nat.lt_of_lt_of_le this (Nat.pow_le_pow_right (by omega) hp))
/-- Bit k, from the left, of an address. -/
def bitAt (bs : List UInt8) (k : Nat) : Bool := (Lib.beNat bs).testBit (8 * bs.length - 1 - k)
theorem bitAt_byte (bs : List UInt8) (k : Nat) (hk : k < 8 * bs.length) : bitAt bs k = ((bs.getD (k / 8) 0).toNat).testBit (7 - k % 8) := by
  unfold bitAt
  rw [beNat_bit bs _ (by omega), show bs.length - 1 - (8 * bs.length - 1 - k) / 8 = k / 8 by omega, show (8 * bs.length - 1 - k) % 8 = 7 - k % 8 by omega]
theorem and1_u8 (x j : Nat) (hx : x < 256) : (bits .and .u8 ((x : Int) / 2 ^ j) 1 == 1) = x.testBit j := by
  have e : (x : Int) / 2 ^ j = ((x / 2 ^ j : Nat) : Int) := by rw [Int.natCast_ediv]; rfl
  have hq : x / 2 ^ j < 256 := Nat.lt_of_le_of_lt (Nat.div_le_self _ _) hx
  rw [e, Nat.testBit_eq_decide_div_mod_eq]
  generalize x / 2 ^ j = q at *
  have h1 : (BitVec.ofInt 8 1).toNat = 2 ^ 1 - 1 := by decide
  have h2 : (BitVec.ofInt 8 (q : Int)).toNat = q := by rw [BitVec.toNat_ofInt]; show ((q : Int) % 256).toNat = q; omega
  have h3 : bits .and .u8 (q : Int) 1 = ((q % 2 : Nat) : Int) := by
    show IntKind.u8.wrap ((BitVec.ofInt 8 (q : Int) &&& BitVec.ofInt 8 1).toNat : Nat) = _
    rw [BitVec.toNat_and, h1, h2, Nat.and_two_pow_sub_one_eq_mod]
    show ((q % 2 ^ 1 : Nat) : Int) % 256 = _
    omega
  rw [h3, Bool.eq_iff_iff]
  simp only [beq_iff_eq, decide_eq_true_eq]
  omega
/-- The byte with one bit turned. -/
theorem xor_u8 (x j : Nat) (hx : x < 256) (hj : j < 8) : bits .xor .u8 (x : Int) (IntKind.u8.wrap (1 * 2 ^ j)) = ((x ^^^ 2 ^ j : Nat) : Int) ∧ x ^^^ 2 ^ j < 256 := by
  have hp : 2 ^ j < 2 ^ 8 := Nat.pow_lt_pow_right (by omega) hj
  have hx' : x < 2 ^ 8 := hx
  have hxx := Nat.xor_lt_two_pow hx' hp
  refine ⟨?_, hxx⟩
  have e1 : (1 * 2 ^ j : Int) = ((2 ^ j : Nat) : Int) := by rw [Int.one_mul]; norm_cast
  rw [e1]
  generalize 2 ^ j = q at *
  have e2 : IntKind.u8.wrap (q : Int) = q := by show (q : Int) % 256 = q; omega
  rw [e2]
  have h2 : ∀ q : Nat, q < 256 → (BitVec.ofInt 8 (q : Int)).toNat = q := fun q hq => by rw [BitVec.toNat_ofInt]; show ((q : Int) % 256).toNat = q; omega
  show IntKind.u8.wrap ((BitVec.ofInt 8 (x : Int) ^^^ BitVec.ofInt 8 (q : Int)).toNat : Nat) = _
  rw [BitVec.toNat_xor, h2 x hx, h2 q (by omega)]
  show ((x ^^^ q : Nat) : Int) % 256 = _
  omega
theorem or_u8 (x j : Nat) (hx : x < 256) (hj : j < 8) : bits .or .u8 (x : Int) (IntKind.u8.wrap (1 * 2 ^ j)) = ((x ||| 2 ^ j : Nat) : Int) ∧ x ||| 2 ^ j < 256 := by
  have hp : 2 ^ j < 2 ^ 8 := Nat.pow_lt_pow_right (by omega) hj
  have hx' : x < 2 ^ 8 := hx
  have hxx := Nat.or_lt_two_pow hx' hp
  refine ⟨?_, hxx⟩
  have e1 : (1 * 2 ^ j : Int) = ((2 ^ j : Nat) : Int) := by rw [Int.one_mul]; norm_cast
  rw [e1]
  generalize 2 ^ j = q at *
  have e2 : IntKind.u8.wrap (q : Int) = q := by show (q : Int) % 256 = q; omega
  rw [e2]
  have h2 : ∀ q : Nat, q < 256 → (BitVec.ofInt 8 (q : Int)).toNat = q := fun q hq => by rw [BitVec.toNat_ofInt]; show ((q : Int) % 256).toNat = q; omega
  show IntKind.u8.wrap ((BitVec.ofInt 8 (x : Int) ||| BitVec.ofInt 8 (q : Int)).toNat : Nat) = _
  rw [BitVec.toNat_or, h2 x hx, h2 q (by omega)]
  show ((x ||| q : Nat) : Int) % 256 = _
  omega
/-- One byte set anew. -/
def putB (bs : List UInt8) (k : Nat) (x : Nat) : List UInt8 := bs.set (k / 8) x.toUInt8
theorem putB_len (bs : List UInt8) (k x : Nat) : (putB bs k x).length = bs.length := by simp [putB]
theorem putB_bit (bs : List UInt8) (k x : Nat) (hk : k < 8 * bs.length) (hx : x < 256) (p : Nat) (hp : p < 8 * bs.length) :
    (Lib.beNat (putB bs k x)).testBit p = if (8 * bs.length - 1 - p) / 8 = k / 8 then x.testBit (p % 8) else (Lib.beNat bs).testBit p := by
  rw [beNat_bit _ p (by rw [putB_len]; exact hp), putB_len]
  unfold putB
  have e : bs.length - 1 - p / 8 = (8 * bs.length - 1 - p) / 8 := by omega
  by_cases h : (8 * bs.length - 1 - p) / 8 = k / 8
  · rw [if_pos h, e, h]
    have hi : k / 8 < bs.length := by omega
    simp [List.getD, hi]
    rw [Nat.mod_eq_of_lt hx]
  · rw [if_neg h, beNat_bit bs p hp]
    have : k / 8 ≠ bs.length - 1 - p / 8 := by omega
    simp [List.getD, this]
/-- The bits from 'f' on all off, or all on. -/
def wbN (W f : Nat) (on : Bool) (v : Nat) : Nat := v / 2 ^ (W - f) * 2 ^ (W - f) + if on then 2 ^ (W - f) - 1 else 0
theorem wbN_bit (W f : Nat) (on : Bool) (v p : Nat) : (wbN W f on v).testBit p = if p < W - f then on else v.testBit p := by
  unfold wbN
  have hlt : (if on then 2 ^ (W - f) - 1 else 0) < 2 ^ (W - f) := by
    have := Nat.pow_pos (n := W - f) (show 0 < 2 by omega)
    cases on <;> simp <;> omega
  rw [Nat.mul_comm, Nat.testBit_two_pow_mul_add _ hlt, Nat.testBit_div_two_pow]
  by_cases h : p < W - f
  · rw [if_pos h, if_pos h]
    cases on
    · simp
    · simp only [if_true, Nat.testBit_two_pow_sub_one, h, decide_true]
  · rw [if_neg h, if_neg h, show p - (W - f) + (W - f) = p by omega]
def wb (bs : List UInt8) (f : Nat) (on : Bool) : List UInt8 := Lib.beBytes bs.length (wbN (8 * bs.length) f on (Lib.beNat bs))
theorem wb_len (bs : List UInt8) (f : Nat) (on : Bool) : (wb bs f on).length = bs.length := Lib.beBytes_length _ _
theorem wbN_lt (bs : List UInt8) (f : Nat) (on : Bool) : wbN (8 * bs.length) f on (Lib.beNat bs) < 256 ^ bs.length := by
  rw [pow256]
  apply Nat.lt_pow_two_of_testBit
  intro i hi
  rw [wbN_bit, if_neg (by omega), beNat_no_bit bs i hi]
theorem wb_beNat (bs : List UInt8) (f : Nat) (on : Bool) : Lib.beNat (wb bs f on) = wbN (8 * bs.length) f on (Lib.beNat bs) := beNat_beBytes _ _ (wbN_lt bs f on)
theorem wb_of (bs cs : List UInt8) (f : Nat) (on : Bool) (hl : cs.length = bs.length) (h : ∀ p, p < 8 * bs.length → (Lib.beNat cs).testBit p = if p < 8 * bs.length - f then on else (Lib.beNat bs).testBit p) : cs = wb bs f on := by
  apply beNat_inj bs.length _ _ hl (wb_len _ _ _)
  rw [wb_beNat]
  apply Nat.eq_of_testBit_eq
  intro p
  rw [wbN_bit]
  by_cases hp : p < 8 * bs.length
  · exact h p hp
  · rw [if_neg (by omega), beNat_no_bit cs p (by omega), beNat_no_bit bs p (by omega)]
end Go.Proofs.YtckfgdohpmllmaaDoor
