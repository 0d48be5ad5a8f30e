/-
  Numbers of addresses, in plain Lean.
-/
import Derived.Test.YtaofindlomkbbaaDoorMem
namespace Go.Proofs.YtaofindlomkbbaaDoor
open Go Go.RowKit
theorem beFrom_lt (bs : List UInt8) : ∀ acc : Nat, Lib.beFrom acc bs < (acc + 1) * 256 ^ bs.length := by
  induction bs with
  | nil => intro acc; simp [Lib.beFrom]
  | cons b r ih =>
    intro acc
    have h := ih (acc * 256 + b.toNat)
    have hb : b.toNat < 256 := b.toNat_lt
    simp only [Lib.beFrom, List.length_cons, Nat.pow_succ]
    refine Nat.lt_of_lt_of_le h ?_
    rw [Nat.mul_comm (256 ^ r.length) 256, ← Nat.mul_assoc]
    exact Nat.mul_le_mul_right _ (by omega)
theorem beNat_lt (bs : List UInt8) : Lib.beNat bs < 256 ^ bs.length := by
  have := beFrom_lt bs 0
  simpa [Lib.beNat] using this
theorem adOf_lt (bs : List UInt8) : (adOf bs).h < 18446744073709551616 ∧ (adOf bs).l < 18446744073709551616 := by
  unfold adOf
  split
  · rename_i h
    have := beNat_lt bs
    rw [h] at this
    exact ⟨by show (0 : Nat) < _; omega, by show 281470681743360 + Lib.beNat bs < _; omega⟩
  · split
    · rename_i h
      have h1 := beNat_lt (bs.take 8)
      have h2 := beNat_lt (bs.drop 8)
      rw [List.length_take, h, show min 8 16 = 8 from rfl] at h1
      rw [List.length_drop, h] at h2
      exact ⟨by show Lib.beNat (bs.take 8) < _; omega, by show Lib.beNat (bs.drop 8) < _; omega⟩
    · exact ⟨by show (0 : Nat) < _; omega, by show (0 : Nat) < _; omega⟩
theorem beFrom_eq (bs : List UInt8) : ∀ acc : Nat, Lib.beFrom acc bs = acc * 256 ^ bs.length + Lib.beFrom 0 bs := by
  induction bs with
  | nil => intro acc; simp [Lib.beFrom]
  | cons b r ih =>
    intro acc
    simp only [Lib.beFrom, List.length_cons]
    rw [ih (acc * 256 + b.toNat), ih (0 * 256 + b.toNat), Nat.pow_succ, Nat.add_mul, Nat.add_mul, Nat.mul_assoc, Nat.mul_comm 256 (256 ^ r.length)]
    omega
theorem beFrom_append (xs ys : List UInt8) : ∀ acc : Nat, Lib.beFrom acc (xs ++ ys) = Lib.beFrom (Lib.beFrom acc xs) ys := by
  induction xs with
  | nil => intro acc; rfl
  | cons x r ih => intro acc; simp only [List.cons_append, Lib.beFrom]; exact ih _
theorem beNat_append (xs ys : List UInt8) : Lib.beNat (xs ++ ys) = Lib.beNat xs * 256 ^ ys.length + Lib.beNat ys := by
  unfold Lib.beNat
  rw [beFrom_append, beFrom_eq]
theorem beBytes_succ (k v : Nat) : Lib.beBytes (k + 1) v = Lib.beBytes k (v / 256) ++ [(v % 256).toUInt8] := by
  simp [Lib.beBytes, Lib.leBytes]
theorem beNat_beBytes (k : Nat) : ∀ v, v < 256 ^ k → Lib.beNat (Lib.beBytes k v) = v := by
  induction k with
  | zero => intro v hv; simp at hv; subst hv; rfl
  | succ k ih =>
    intro v hv
    rw [beBytes_succ, beNat_append, ih (v / 256) (by rw [Nat.pow_succ] at hv; omega)]
    simp only [Lib.beNat, Lib.beFrom, List.length_cons, List.length_nil, Lib.toUInt8_mod]
    omega
theorem beNat_inj (k : Nat) : ∀ xs ys : List UInt8, xs.length = k → ys.length = k → Lib.beNat xs = Lib.beNat ys → xs = ys := by
  induction k with
  | zero => intro xs ys hx hy _; rw [List.eq_nil_of_length_eq_zero hx, List.eq_nil_of_length_eq_zero hy]
  | succ k ih =>
    intro xs ys hx hy h
    match xs, hx, ys, hy with
    | x :: xs, hx, y :: ys, hy =>
      have hx' : xs.length = k := by simpa using hx
      have hy' : ys.length = k := by simpa using hy
      have e1 : Lib.beNat (x :: xs) = x.toNat * 256 ^ k + Lib.beNat xs := by
        have := beNat_append [x] xs
        rw [hx'] at this
        simpa [Lib.beNat, Lib.beFrom] using this
      have e2 : Lib.beNat (y :: ys) = y.toNat * 256 ^ k + Lib.beNat ys := by
        have := beNat_append [y] ys
        rw [hy'] at this
        simpa [Lib.beNat, Lib.beFrom] using this
      have b1 := beNat_lt xs
      have b2 := beNat_lt ys
      rw [hx'] at b1
      rw [hy'] at b2
      rw [e1, e2] at h
      have hxy : x.toNat = y.toNat := by
        rcases Nat.lt_trichotomy x.toNat y.toNat with h' | h' | h'
        · have := Nat.mul_le_mul_right (256 ^ k) (show x.toNat + 1 ≤ y.toNat from h')
          rw [Nat.add_mul] at this
          omega
        · exact h'
        · have := Nat.mul_le_mul_right (256 ^ k) (show y.toNat + 1 ≤ x.toNat from h')
          rw [Nat.add_mul] at this
          omega
      rw [hxy] at h
      rw [UInt8.toNat_inj.1 hxy, ih xs ys hx' hy' (by omega)]
theorem beBytes_beNat (bs : List UInt8) : Lib.beBytes bs.length (Lib.beNat bs) = bs :=
  beNat_inj bs.length _ _ (Lib.beBytes_length _ _) rfl (beNat_beBytes _ _ (beNat_lt bs))
/-- A length that an address has. -/
def isLen (n : Nat) : Prop := n = 4 ∨ n = 16
/-- The address of n bytes with the number v. -/
def adV (n v : Nat) : Ad := if n = 4 then ⟨0, 281470681743360 + v, some false⟩ else ⟨v / 18446744073709551616, v % 18446744073709551616, some true⟩
theorem adOf_len {bs : List UInt8} (h : isLen bs.length) : adOf bs = adV bs.length (Lib.beNat bs) := by
  unfold adOf adV
  rcases h with h | h
  · rw [if_pos h, if_pos h]
  · rw [if_neg (by omega), if_pos h, if_neg (by omega)]
    have h1 : bs = bs.take 8 ++ bs.drop 8 := (List.take_append_drop 8 bs).symm
    have hl : (bs.drop 8).length = 8 := by simp; omega
    have h2 : Lib.beNat bs = Lib.beNat (bs.take 8) * 18446744073709551616 + Lib.beNat (bs.drop 8) := by
      have h3 := beNat_append (bs.take 8) (bs.drop 8)
      rw [hl, ← h1] at h3
      exact h3
    have h3 := beNat_lt (bs.drop 8)
    rw [hl] at h3
    have e1 : Lib.beNat bs / 18446744073709551616 = Lib.beNat (bs.take 8) := by omega
    have e2 : Lib.beNat bs % 18446744073709551616 = Lib.beNat (bs.drop 8) := by omega
    rw [e1, e2]
theorem adOf_no {bs : List UInt8} (h : ¬ isLen bs.length) : adOf bs = ⟨0, 0, none⟩ := by
  unfold adOf isLen at *
  rw [if_neg (by omega), if_neg (by omega)]
theorem pow4 : 256 ^ 4 = 4294967296 := rfl
theorem pow16 : 256 ^ 16 = 340282366920938463463374607431768211456 := rfl
instance (n : Nat) : Decidable (isLen n) := inferInstanceAs (Decidable (n = 4 ∨ n = 16))
end Go.Proofs.YtaofindlomkbbaaDoor
