/-
  The plain law of texts in lines.
-/
import Derived.Test.YtnoolheinkeocaaDoorCutR
namespace Go.Proofs.YtnoolheinkeocaaDoor
open Go
def linesT (ts : List (List UInt8)) : List UInt8 := (ts.map fun t => t ++ [10]).flatten
/-- Where line m begins. -/
def lineAt (ts : List (List UInt8)) (m : Nat) : Nat := (linesT (ts.take m)).length
theorem linesT_append (a b : List (List UInt8)) : linesT (a ++ b) = linesT a ++ linesT b := by simp [linesT]
theorem linesT_take {ts : List (List UInt8)} {j : Nat} {t : List UInt8} (h : ts[j]? = some t) : linesT (ts.take (j + 1)) = linesT (ts.take j) ++ t ++ [10] := by
  rw [List.take_add_one, h, Option.toList_some, linesT_append]; simp [linesT]
theorem lineAt_zero (ts : List (List UInt8)) : lineAt ts 0 = 0 := rfl
theorem lineAt_succ {ts : List (List UInt8)} {j : Nat} {t : List UInt8} (h : ts[j]? = some t) : lineAt ts (j + 1) = lineAt ts j + t.length + 1 := by
  unfold lineAt; rw [linesT_take h]; simp; omega
theorem lineAt_end (ts : List (List UInt8)) : lineAt ts ts.length = (linesT ts).length := by unfold lineAt; rw [List.take_length]
theorem lineAt_le {ts : List (List UInt8)} {b : Nat} (h : ∀ t ∈ ts, t.length ≤ b) : ∀ j, lineAt ts j ≤ (b + 1) * j := by
  intro j
  induction j with
  | zero => simp [lineAt_zero]
  | succ j ih =>
    cases ht : ts[j]? with
    | none =>
      have hl : ts.length ≤ j := List.getElem?_eq_none_iff.1 ht
      unfold lineAt at *
      rw [List.take_of_length_le (by omega)] at *
      rw [Nat.mul_succ]; omega
    | some t =>
      rw [lineAt_succ ht]
      have := h t (List.mem_of_getElem? ht)
      rw [Nat.mul_succ]; omega
theorem linesT_drop {ts : List (List UInt8)} {m : Nat} {t : List UInt8} (h : ts[m]? = some t) : (linesT ts).drop (lineAt ts m) = t ++ 10 :: linesT (ts.drop (m + 1)) := by
  have hm : m < ts.length := (List.getElem?_eq_some_iff.1 h).1
  have h1 : linesT ts = linesT (ts.take m) ++ (t ++ 10 :: linesT (ts.drop (m + 1))) := by
    conv => lhs; rw [← List.take_append_drop (m + 1) ts]
    rw [linesT_append, linesT_take h]
    simp
  rw [h1]
  unfold lineAt
  exact List.drop_left
/-- What stands at place i of line m. -/
theorem line_scan {ts : List (List UInt8)} (hno : ∀ t ∈ ts, (10 : UInt8) ∉ t) {m : Nat} {t : List UInt8} (h : ts[m]? = some t) {i : Nat} (h1 : lineAt ts m ≤ i) (h2 : i ≤ lineAt ts m + t.length) :
    i < (linesT ts).length ∧ ((linesT ts).getD i 0 = 10 ↔ i = lineAt ts m + t.length) ∧ ((linesT ts).drop (lineAt ts m)).take t.length = t := by
  have hd := linesT_drop h
  have hl : (linesT ts).length = lineAt ts m + (t.length + 1 + (linesT (ts.drop (m + 1))).length) := by
    have e1 := congrArg List.length hd
    rw [List.length_drop, List.length_append, List.length_cons] at e1
    have : 0 < (linesT ts).length - lineAt ts m := by omega
    omega
  have hg : (linesT ts)[i]? = (t ++ 10 :: linesT (ts.drop (m + 1)))[i - lineAt ts m]? := by
    rw [← hd, List.getElem?_drop]; congr 1; omega
  refine ⟨by omega, ?_, by rw [hd, List.take_left]⟩
  rw [List.getD_eq_getElem?_getD, hg]
  by_cases hi : i = lineAt ts m + t.length
  · subst hi
    rw [List.getElem?_append_right (by omega), show lineAt ts m + t.length - lineAt ts m - t.length = 0 by omega]
    simp
  · rw [List.getElem?_append_left (by omega), List.getElem?_eq_getElem (by omega)]
    have := hno t (List.mem_of_getElem? h)
    constructor
    · intro he; exact absurd (by rw [← he]; exact List.getElem_mem _) this
    · intro he; exact absurd he hi
theorem pfT_no10 {p : List UInt8 × Nat} (hv : Vp p) : (10 : UInt8) ∉ pfT p := by
  have h10 : (10 : UInt8) ∉ Tx.adT p.1 := fun h => by
    rcases Tx.adB_ad hv.1 10 h with ⟨d, hd⟩ | h | h
    · rw [show Tx.hexv 10 = none by decide] at hd; cases hd
    · revert h; decide
    · revert h; decide
  have hk : p.2 < 1000 := by have := hv.2; rcases hv.1 with h | h <;> rw [h] at this <;> omega
  intro h
  unfold pfT at h
  rcases List.mem_append.1 h with h | h
  · exact h10 h
  · rcases List.mem_cons.1 h with h | h
    · revert h; decide
    · have := digs_dec hk 10 h
      revert this; decide
end Go.Proofs.YtnoolheinkeocaaDoor
