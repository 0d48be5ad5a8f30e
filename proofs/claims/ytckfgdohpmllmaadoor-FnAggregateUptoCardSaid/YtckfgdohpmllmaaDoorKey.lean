/-
  Plain facts: the order of addresses by a number; ranks in a list.
-/
import Derived.Test.YtckfgdohpmllmaaDoorCmpEach
namespace Go.Proofs.YtckfgdohpmllmaaDoor
open Go
theorem beFrom_lt (bs : List UInt8) : ∀ acc : Nat, Lib.beFrom acc bs < (acc + 1) * 256 ^ bs.length := by
  induction bs with
  | nil => intro acc; simp [Lib.beFrom]
  | cons b r ih =>
    intro acc
    have h := ih (acc * 256 + b.toNat)
    have hb : b.toNat < 256 := b.toNat_lt
    simp only [Lib.beFrom, List.length_cons, Nat.pow_succ]
    refine Nat.lt_of_lt_of_le h ?_
    rw [Nat.mul_comm (256 ^ r.length) 256, ← Nat.mul_assoc]
    exact Nat.mul_le_mul_right _ (by omega)
theorem beNat_lt (bs : List UInt8) : Lib.beNat bs < 256 ^ bs.length := by
  have := beFrom_lt bs 0
  simpa [Lib.beNat] using this
theorem adOf_lt (bs : List UInt8) : (adOf bs).h < 18446744073709551616 ∧ (adOf bs).l < 18446744073709551616 := by
  unfold adOf
  split
  · rename_i h
    have := beNat_lt bs
    rw [h] at this
    exact ⟨by show (0 : Nat) < _; omega, by show 281470681743360 + Lib.beNat bs < _; omega⟩
  · split
    · rename_i h
      have h1 := beNat_lt (bs.take 8)
      have h2 := beNat_lt (bs.drop 8)
      rw [List.length_take, h, show min 8 16 = 8 from rfl] at h1
      rw [List.length_drop, h] at h2
      exact ⟨by show Lib.beNat (bs.take 8) < _; omega, by show Lib.beNat (bs.drop 8) < _; omega⟩
    · exact ⟨by show (0 : Nat) < _; omega, by show (0 : Nat) < _; omega⟩
def blN : Option Bool → Nat
  | none => 0
  | some false => 32
  | some true => 128
theorem bl_N (k : Option Bool) : bl k = (blN k : Int) := by rcases k with _ | _ | _ <;> rfl
/-- The number by which addresses are in order. -/
def keyOf (bs : List UInt8) : Nat := blN (adOf bs).k * 340282366920938463463374607431768211456 + (adOf bs).h * 18446744073709551616 + (adOf bs).l
theorem cmp_key (a b : List UInt8) : cmpOf a b = cmpI (keyOf a) (keyOf b) := by
  obtain ⟨a1, a2⟩ := adOf_lt a
  obtain ⟨b1, b2⟩ := adOf_lt b
  unfold cmpOf cmpA cmpI keyOf
  rw [bl_N, bl_N]
  generalize blN (adOf a).k = x at *
  generalize blN (adOf b).k = y at *
  generalize (adOf a).h = h at *
  generalize (adOf a).l = l at *
  generalize (adOf b).h = h' at *
  generalize (adOf b).l = l' at *
  repeat' split
  all_goals first | rfl | omega
theorem cmpI_cases (a b : Int) : cmpI a b = -1 ∧ a < b ∨ cmpI a b = 0 ∧ a = b ∨ cmpI a b = 1 ∧ b < a := by
  unfold cmpI
  repeat' split
  · left; exact ⟨rfl, by assumption⟩
  · right; right; exact ⟨rfl, by assumption⟩
  · right; left; exact ⟨rfl, by omega⟩
theorem cmpOf_cases (a b : List UInt8) : cmpOf a b = -1 ∧ keyOf a < keyOf b ∨ cmpOf a b = 0 ∧ keyOf a = keyOf b ∨ cmpOf a b = 1 ∧ keyOf b < keyOf a := by
  rw [cmp_key]
  rcases cmpI_cases (keyOf a) (keyOf b) with h | h | h
  · left; exact ⟨h.1, by omega⟩
  · right; left; exact ⟨h.1, by omega⟩
  · right; right; exact ⟨h.1, by omega⟩
/-- How many of a list come before a. -/
def rankOf (a : List UInt8) (l : List (List UInt8)) : Nat := l.countP fun b => cmpOf a b == 1
theorem rankOf_eq (a : List UInt8) (l : List (List UInt8)) : rankOf a l = l.countP fun b => decide (keyOf b < keyOf a) := by
  unfold rankOf
  congr 1
  funext b
  rcases cmpOf_cases a b with h | h | h
  · rw [h.1]; have := h.2; simp; omega
  · rw [h.1]; have := h.2; simp; omega
  · rw [h.1]; have := h.2; simp; omega
theorem rank_mono (a b : List UInt8) (l : List (List UInt8)) (h : keyOf a < keyOf b) (ha : a ∈ l) : rankOf a l < rankOf b l := by
  rw [rankOf_eq, rankOf_eq]
  have mono : ∀ l : List (List UInt8), (l.countP fun x => decide (keyOf x < keyOf a)) ≤ l.countP fun x => decide (keyOf x < keyOf b) := fun l =>
    List.countP_mono_left fun x _ hx => by simp at hx ⊢; omega
  induction l with
  | nil => cases ha
  | cons x r ih =>
    rw [List.countP_cons, List.countP_cons]
    rcases List.mem_cons.1 ha with rfl | ha
    · have := mono r
      rw [if_neg (by simp), if_pos (by simpa using h)]
      omega
    · have := ih ha
      by_cases h1 : keyOf x < keyOf a
      · rw [if_pos (by simpa using h1), if_pos (by simp; omega)]; omega
      · rw [if_neg (by simpa using h1)]; split <;> omega
theorem rank_same (a b : List UInt8) (l : List (List UInt8)) (h : keyOf a = keyOf b) : rankOf a l = rankOf b l := by
  rw [rankOf_eq, rankOf_eq, h]
theorem ranks_lt (a b : List UInt8) (l : List (List UInt8)) (ha : a ∈ l) (hb : b ∈ l) : (cmpOf a b == -1) = decide ((rankOf a l : Int) < rankOf b l) ∧ (cmpOf a b == 0) = ((rankOf a l : Int) == rankOf b l) := by
  rcases cmpOf_cases a b with h | h | h
  · have := rank_mono a b l h.2 ha
    rw [h.1]
    refine ⟨?_, ?_⟩
    · simp; omega
    · simp; omega
  · have := rank_same a b l h.2
    rw [h.1]
    refine ⟨?_, ?_⟩
    · simp; omega
    · simp; omega
  · have := rank_mono b a l h.2 hb
    rw [h.1]
    refine ⟨?_, ?_⟩
    · simp; omega
    · simp; omega
theorem rank_le (a : List UInt8) (l : List (List UInt8)) : rankOf a l ≤ l.length := List.countP_le_length
theorem rank_take (a : List UInt8) (l : List (List UInt8)) (k : Nat) (b : List UInt8) (h : l[k]? = some b) : rankOf a (l.take (k + 1)) = rankOf a (l.take k) + if cmpOf a b = 1 then 1 else 0 := by
  unfold rankOf
  rw [List.take_add_one, h, List.countP_append]
  by_cases hc : cmpOf a b = 1 <;> simp [hc]
end Go.Proofs.YtckfgdohpmllmaaDoor
