/-
  Bit operations on numbers of 64 bits, in plain Lean.
-/
import Derived.Test.YtckfgdohpmllmaaDoorNum
import Derived.Laws.Shifts
namespace Go.Proofs.YtckfgdohpmllmaaDoor
open Go
theorem and_high (x s : Nat) (hx : x < 2 ^ 64) (hs : s ≤ 64) : x &&& (2 ^ 64 - 2 ^ s) = x / 2 ^ s * 2 ^ s := by
  have e : 2 ^ 64 - 2 ^ s = 2 ^ s * (2 ^ (64 - s) - 1) := by
    rw [Nat.mul_sub, ← Nat.pow_add, show s + (64 - s) = 64 by omega, Nat.mul_one]
  rw [e, Nat.mul_comm (x / 2 ^ s)]
  apply Nat.eq_of_testBit_eq
  intro i
  rw [Nat.testBit_and, Nat.testBit_two_pow_mul, Nat.testBit_two_pow_mul, Nat.testBit_two_pow_sub_one, Nat.testBit_div_two_pow]
  by_cases h : s ≤ i
  · simp only [ge_iff_le, h, decide_true, Bool.true_and, show i - s + s = i by omega]
    by_cases h2 : i < 64
    · simp [show i - s < 64 - s by omega]
    · have : x.testBit i = false := Nat.testBit_lt_two_pow (Nat.lt_of_lt_of_le hx (Nat.pow_le_pow_right (by omega) (by omega)))
      simp [this]
  · simp [h]
theorem bv_toNat64 (x : Nat) (hx : x < 2 ^ 64) : (BitVec.ofInt 64 (x : Int)).toNat = x := by
  rw [BitVec.toNat_ofInt]
  have : ((x : Int) % ((2 ^ 64 : Nat) : Int)).toNat = x := by
    have : (x : Int) < ((2 ^ 64 : Nat) : Int) := by exact_mod_cast hx
    omega
  exact this
theorem wrap64 (x : Nat) (hx : x < 2 ^ 64) : IntKind.u64.wrap (x : Int) = x := by
  show (x : Int) % 18446744073709551616 = x
  omega
theorem xor64 (a b : Nat) (ha : a < 2 ^ 64) (hb : b < 2 ^ 64) : bits .xor .u64 (a : Int) (b : Int) = ((a ^^^ b : Nat) : Int) := by
  show IntKind.u64.wrap ((BitVec.ofInt 64 (a : Int) ^^^ BitVec.ofInt 64 (b : Int)).toNat : Nat) = _
  rw [BitVec.toNat_xor, bv_toNat64 a ha, bv_toNat64 b hb, wrap64 _ (Nat.xor_lt_two_pow ha hb)]
theorem and64 (a b : Nat) (ha : a < 2 ^ 64) (hb : b < 2 ^ 64) : bits .and .u64 (a : Int) (b : Int) = ((a &&& b : Nat) : Int) := by
  show IntKind.u64.wrap ((BitVec.ofInt 64 (a : Int) &&& BitVec.ofInt 64 (b : Int)).toNat : Nat) = _
  rw [BitVec.toNat_and, bv_toNat64 a ha, bv_toNat64 b hb, wrap64 _ (Nat.lt_of_le_of_lt Nat.and_le_left ha)]
theorem or64 (a b : Nat) (ha : a < 2 ^ 64) (hb : b < 2 ^ 64) : bits .or .u64 (a : Int) (b : Int) = ((a ||| b : Nat) : Int) := by
  show IntKind.u64.wrap ((BitVec.ofInt 64 (a : Int) ||| BitVec.ofInt 64 (b : Int)).toNat : Nat) = _
  rw [BitVec.toNat_or, bv_toNat64 a ha, bv_toNat64 b hb, wrap64 _ (Nat.or_lt_two_pow ha hb)]
theorem xor_zero (a b : Nat) : a ^^^ b = 0 ↔ a = b := by
  constructor
  · intro h
    apply Nat.eq_of_testBit_eq
    intro i
    have := congrArg (fun x => Nat.testBit x i) h
    simp only [Nat.testBit_xor, Nat.zero_testBit] at this
    revert this
    cases a.testBit i <;> cases b.testBit i <;> simp
  · rintro rfl; exact Nat.xor_self a
theorem xor_div_eq (a b s : Nat) : (a ^^^ b) / 2 ^ s = 0 ↔ a / 2 ^ s = b / 2 ^ s := by
  rw [← Nat.shiftRight_eq_div_pow, Nat.shiftRight_xor_distrib, Nat.shiftRight_eq_div_pow, Nat.shiftRight_eq_div_pow, xor_zero]
/-- The masks of mask6. -/
def mHi (n : Nat) : Nat := 2 ^ 64 - 2 ^ (64 - min n 64)
def mLo (n : Nat) : Nat := 2 ^ 64 - 2 ^ (min (128 - n) 64)
theorem pow_le64 (s : Nat) (h : s ≤ 64) : 2 ^ s ≤ 2 ^ 64 := Nat.pow_le_pow_right (by omega) h
theorem mHi_lt (n : Nat) : mHi n < 2 ^ 64 := by unfold mHi; have := Nat.pow_pos (n := 64 - min n 64) (show 0 < 2 by omega); omega
theorem mLo_lt (n : Nat) : mLo n < 2 ^ 64 := by unfold mLo; have := Nat.pow_pos (n := min (128 - n) 64) (show 0 < 2 by omega); omega
/-- The number of 128 bits. -/
def v128 (h l : Nat) : Nat := h * 2 ^ 64 + l
theorem top128 (h l h' l' n : Nat) (hl : l < 2 ^ 64) (hl' : l' < 2 ^ 64) (hn : n ≤ 128) :
    (h / 2 ^ (64 - min n 64) = h' / 2 ^ (64 - min n 64) ∧ l / 2 ^ (min (128 - n) 64) = l' / 2 ^ (min (128 - n) 64)) ↔ v128 h l / 2 ^ (128 - n) = v128 h' l' / 2 ^ (128 - n) := by
  unfold v128
  by_cases hc : n ≤ 64
  · rw [Nat.min_eq_left hc, Nat.min_eq_right (by omega), show 128 - n = 64 + (64 - n) by omega, Nat.pow_add, ← Nat.div_div_eq_div_mul, ← Nat.div_div_eq_div_mul]
    have q : ∀ h l : Nat, l < 2 ^ 64 → (h * 2 ^ 64 + l) / 2 ^ 64 = h := fun h l hl => by
      rw [Nat.mul_comm, Nat.mul_add_div (Nat.pow_pos (by omega)), Nat.div_eq_of_lt hl, Nat.add_zero]
    rw [q h l hl, q h' l' hl', Nat.div_eq_of_lt hl, Nat.div_eq_of_lt hl']
    simp
  · rw [Nat.min_eq_right (by omega), Nat.min_eq_left (by omega)]
    have e : 2 ^ 64 = 2 ^ (128 - n) * 2 ^ (n - 64) := by rw [← Nat.pow_add]; congr 1; omega
    have q1 : ∀ h l, (h * 2 ^ 64 + l) / 2 ^ (128 - n) = h * 2 ^ (n - 64) + l / 2 ^ (128 - n) := fun h l => by
      rw [e, Nat.mul_left_comm, Nat.mul_add_div (Nat.pow_pos (by omega))]
    have r1 : ∀ l : Nat, l < 2 ^ 64 → l / 2 ^ (128 - n) < 2 ^ (n - 64) := fun l hl => by
      rw [Nat.div_lt_iff_lt_mul (Nat.pow_pos (by omega)), Nat.mul_comm, ← e]; exact hl
    rw [q1, q1, show 64 - 64 = 0 by rfl, Nat.pow_zero, Nat.div_one, Nat.div_one]
    have a1 := r1 l hl
    have a2 := r1 l' hl'
    generalize l / 2 ^ (128 - n) = x at *
    generalize l' / 2 ^ (128 - n) = y at *
    generalize 2 ^ (n - 64) = M at *
    constructor
    · rintro ⟨rfl, rfl⟩; rfl
    · intro h0
      have hh : h = h' := by
        rcases Nat.lt_trichotomy h h' with g | g | g
        · have := Nat.mul_le_mul_right M (show h + 1 ≤ h' from g)
          rw [Nat.add_mul] at this
          omega
        · exact g
        · have := Nat.mul_le_mul_right M (show h' + 1 ≤ h from g)
          rw [Nat.add_mul] at this
          omega
      subst hh
      exact ⟨rfl, by omega⟩
/-- What Contains computes, for 128 bits. -/
theorem mask128 (h l h' l' n : Nat) (hh : h < 2 ^ 64) (hl : l < 2 ^ 64) (hh' : h' < 2 ^ 64) (hl' : l' < 2 ^ 64) (hn : n ≤ 128) :
    (bits .or .u64 (bits .and .u64 (bits .xor .u64 (h : Int) h') (mHi n)) (bits .and .u64 (bits .xor .u64 (l : Int) l') (mLo n)) == 0) = decide (v128 h l / 2 ^ (128 - n) = v128 h' l' / 2 ^ (128 - n)) := by
  have x1 := Nat.xor_lt_two_pow hh hh'
  have x2 := Nat.xor_lt_two_pow hl hl'
  rw [xor64 h h' hh hh', xor64 l l' hl hl', and64 _ _ x1 (mHi_lt n), and64 _ _ x2 (mLo_lt n)]
  have e1 : (h ^^^ h') &&& mHi n = (h ^^^ h') / 2 ^ (64 - min n 64) * 2 ^ (64 - min n 64) := and_high _ _ x1 (by omega)
  have e2 : (l ^^^ l') &&& mLo n = (l ^^^ l') / 2 ^ (min (128 - n) 64) * 2 ^ (min (128 - n) 64) := and_high _ _ x2 (by omega)
  rw [or64 _ _ (Nat.lt_of_le_of_lt Nat.and_le_left x1) (Nat.lt_of_le_of_lt Nat.and_le_left x2)]
  rw [Bool.eq_iff_iff]
  simp only [beq_iff_eq, decide_eq_true_eq]
  rw [← top128 h l h' l' n hl hl' hn, show ((0 : Int)) = ((0 : Nat) : Int) from rfl, Int.ofNat_inj, Nat.or_eq_zero_iff, e1, e2, ← xor_div_eq, ← xor_div_eq]
  have p1 := Nat.pow_pos (n := 64 - min n 64) (show 0 < 2 by omega)
  have p2 := Nat.pow_pos (n := min (128 - n) 64) (show 0 < 2 by omega)
  rw [Nat.mul_eq_zero, Nat.mul_eq_zero]
  constructor
  · rintro ⟨h1 | h1, h2 | h2⟩ <;> first | exact ⟨h1, h2⟩ | omega
  · rintro ⟨h1, h2⟩; exact ⟨.inl h1, .inl h2⟩
theorem xor_v4 (v v' : Nat) (hv : v < 2 ^ 32) (hv' : v' < 2 ^ 32) : (281470681743360 + v) ^^^ (281470681743360 + v') = v ^^^ v' := by
  have h1 := Nat.div_add_mod ((281470681743360 + v) ^^^ (281470681743360 + v')) (2 ^ 32)
  have d1 : (281470681743360 + v) / 2 ^ 32 = 65535 := by omega
  have d2 : (281470681743360 + v') / 2 ^ 32 = 65535 := by omega
  have m1 : (281470681743360 + v) % 2 ^ 32 = v := by omega
  have m2 : (281470681743360 + v') % 2 ^ 32 = v' := by omega
  have h2 := (xor_div_eq (281470681743360 + v) (281470681743360 + v') 32).2 (d1.trans d2.symm)
  rw [h2, Nat.xor_mod_two_pow, m1, m2] at h1
  omega
/-- What Contains computes, for 32 bits. -/
theorem mask32 (v v' b : Nat) (hv : v < 2 ^ 32) (hv' : v' < 2 ^ 32) :
    (IntKind.u32.wrap (bits .xor .u64 ((281470681743360 + v : Nat) : Int) ((281470681743360 + v' : Nat) : Int) / 2 ^ (32 - b)) == 0) = decide (v / 2 ^ (32 - b) = v' / 2 ^ (32 - b)) := by
  rw [xor64 _ _ (by omega) (by omega), xor_v4 v v' hv hv']
  have x1 := Nat.xor_lt_two_pow hv hv'
  have x2 : (v ^^^ v') / 2 ^ (32 - b) < 2 ^ 32 := Nat.lt_of_le_of_lt (Nat.div_le_self _ _) x1
  have e : ((v ^^^ v' : Nat) : Int) / 2 ^ (32 - b) = (((v ^^^ v') / 2 ^ (32 - b) : Nat) : Int) := by
    rw [Int.natCast_ediv]; rfl
  have hx := xor_div_eq v v' (32 - b)
  rw [e]
  clear e
  generalize (v ^^^ v') / 2 ^ (32 - b) = q at *
  rw [show IntKind.u32.wrap (q : Int) = (q : Int) from by show _ % 4294967296 = _; omega]
  rw [Bool.eq_iff_iff]
  simp only [beq_iff_eq, decide_eq_true_eq]
  rw [show ((0 : Int)) = ((0 : Nat) : Int) from rfl, Int.ofNat_inj, hx]
theorem i64_and63 (n : Nat) (h : n ≤ 32) : bits .and .i64 (n : Int) 63 = n := by
  have h1 : (BitVec.ofInt 64 63).toNat = 2 ^ 6 - 1 := by decide
  have key : (BitVec.ofInt 64 (n : Int) &&& BitVec.ofInt 64 63).toNat = n := by
    rw [BitVec.toNat_and, bv_toNat64 n (by omega), h1, Nat.and_two_pow_sub_one_eq_mod]
    exact Nat.mod_eq_of_lt (by omega)
  show IntKind.i64.wrap ((BitVec.ofInt 64 (n : Int) &&& BitVec.ofInt 64 63).toNat : Nat) = _
  rw [key, IntKind.wrap_i64]
  omega
theorem shr_mask (n : Nat) : Op.shift .shr .u64 18446744073709551615 .i64 (n : Int) = pure (.int .u64 ((2 ^ (64 - min n 64) - 1 : Nat) : Int)) := by
  rw [shift_shr_any _ _ _ _ (by omega)]
  congr 2
  have h0 : min (n : Int).toNat IntKind.u64.bits = min n 64 := rfl
  rw [h0]
  have h1 : (18446744073709551615 : Int) / 2 ^ min n 64 = ((18446744073709551615 / 2 ^ min n 64 : Nat) : Int) := by rw [Int.natCast_ediv]; rfl
  rw [h1]
  congr 1
  have hs : min n 64 ≤ 64 := by omega
  generalize min n 64 = s at *
  have e : 18446744073709551615 = 2 ^ s * (2 ^ (64 - s) - 1) + (2 ^ s - 1) := by
    rw [Nat.mul_sub, ← Nat.pow_add, show s + (64 - s) = 64 by omega]
    have := pow_le64 s hs
    have := Nat.pow_pos (n := s) (show 0 < 2 by omega)
    omega
  rw [e, Nat.mul_add_div (Nat.pow_pos (by omega)), Nat.div_eq_of_lt (by have := Nat.pow_pos (n := s) (show 0 < 2 by omega); omega), Nat.add_zero]
theorem shl_mask (n : Nat) : Op.shift .shl .u64 18446744073709551615 .i64 (n : Int) = pure (.int .u64 ((2 ^ 64 - 2 ^ (min n 64) : Nat) : Int)) := by
  rw [shift_shl_any _ _ _ _ (by omega)]
  congr 2
  have h0 : min (n : Int).toNat IntKind.u64.bits = min n 64 := rfl
  rw [h0]
  have hs : min n 64 ≤ 64 := by omega
  generalize min n 64 = s at *
  show ((18446744073709551615 : Int) * 2 ^ s) % 18446744073709551616 = _
  have := pow_le64 s hs
  have p := Nat.pow_pos (n := s) (show 0 < 2 by omega)
  have e : ((2 : Int) ^ s) = ((2 ^ s : Nat) : Int) := by norm_cast
  rw [e]
  generalize 2 ^ s = M at *
  omega
theorem not_mask (n : Nat) : bits .xor .u64 (if IntKind.u64.signed = true then -1 else IntKind.u64.max) ((2 ^ (64 - min n 64) - 1 : Nat) : Int) = (mHi n : Int) := by
  unfold mHi
  have hs : 64 - min n 64 ≤ 64 := by omega
  generalize 64 - min n 64 = s at *
  have h1 := pow_le64 s hs
  have p := Nat.pow_pos (n := s) (show 0 < 2 by omega)
  have e0 : (if IntKind.u64.signed = true then -1 else IntKind.u64.max) = ((2 ^ 64 - 1 : Nat) : Int) := by decide
  rw [e0, xor64 _ _ (by omega) (by omega)]
  congr 1
  have e : 2 ^ 64 - 2 ^ s = 2 ^ s * (2 ^ (64 - s) - 1) := by
    rw [Nat.mul_sub, ← Nat.pow_add, show s + (64 - s) = 64 by omega, Nat.mul_one]
  rw [e]
  apply Nat.eq_of_testBit_eq
  intro i
  rw [Nat.testBit_xor, Nat.testBit_two_pow_mul, Nat.testBit_two_pow_sub_one, Nat.testBit_two_pow_sub_one, Nat.testBit_two_pow_sub_one]
  by_cases c1 : i < s
  · simp [c1, show i < 64 by omega, show ¬ s ≤ i by omega]
  · by_cases c2 : i < 64
    · simp [c1, c2, show s ≤ i by omega, show i - s < 64 - s by omega]
    · simp [c1, c2, show s ≤ i by omega, show ¬ i - s < 64 - s by omega]
end Go.Proofs.YtckfgdohpmllmaaDoor
