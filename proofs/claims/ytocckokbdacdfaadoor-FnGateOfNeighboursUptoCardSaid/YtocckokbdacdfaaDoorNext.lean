/-
  Contracts: addOne, subOne, Next, Prev.
-/
import Derived.Test.YtocckokbdacdfaaDoorMem
import Derived.Shelf.Spec.BitsCarry
namespace Go.Proofs.YtocckokbdacdfaaDoor
open Go Go.RowKit
theorem add64_c (x : Nat) (w : World) : (callFunc 46 #[.int .u64 x, .int .u64 1, .int .u64 0]).run Tryd.prog w =
    .ok (.value (.tuple #[.int .u64 (((x + 1) % 18446744073709551616 : Nat) : Int), .int .u64 (((x + 1) / 18446744073709551616 : Nat) : Int)])) w := by
  have h := run_add64 (P := Tryd.prog) (x : Int) 1 0 (by omega) (by omega) (by omega) (by omega) w
  rw [run_callFunc_extern Tryd.func46 (by kernel_rfl) (by kernel_rfl) (by kernel_rfl) (e := add64Entry) (by kernel_rfl)]
  rw [h]
  simp only [Result.andThen]
  congr 5 <;> omega
theorem sub64_c (x : Nat) (w : World) : (callFunc 53 #[.int .u64 x, .int .u64 1, .int .u64 0]).run Tryd.prog w =
    .ok (.value (.tuple #[.int .u64 (((x + 18446744073709551615) % 18446744073709551616 : Nat) : Int), .int .u64 ((if x = 0 then 1 else 0 : Nat) : Int)])) w := by
  have h := run_sub64 (P := Tryd.prog) x 1 0 (by omega) w
  rw [run_callFunc_extern Tryd.func53 (by kernel_rfl) (by kernel_rfl) (by kernel_rfl) (e := sub64Entry) (by kernel_rfl)]
  have e1 : (x + 18446744073709551616 - 1 - 0) % 18446744073709551616 = (x + 18446744073709551615) % 18446744073709551616 := by omega
  have e2 : (if x < 1 + 0 then 1 else 0 : Nat) = if x = 0 then 1 else 0 := by split <;> split <;> omega
  rw [e1, e2] at h
  exact (congrArg (fun r => Result.andThen r fun a w' => Result.ok (Next.value a) w') h).trans rfl
def M64 : Nat := 18446744073709551616
theorem wrap_add (h c : Nat) : IntKind.u64.wrap ((h : Int) + c) = (((h + c) % 18446744073709551616 : Nat) : Int) := by rw [IntKind.wrap_u64]; omega
theorem wrap_sub (h c : Nat) (hc : c ≤ 1) : IntKind.u64.wrap ((h : Int) - c) = (((h + 18446744073709551616 - c) % 18446744073709551616 : Nat) : Int) := by rw [IntKind.wrap_u64]; omega
theorem addOne_c (h l : Nat) (w : World) :
    Calls Tryd.prog 36 #[.agg #[.int .u64 h, .int .u64 l]] w fun e w' =>
      e = .returned (.agg #[.int .u64 (((h + (l + 1) / 18446744073709551616) % 18446744073709551616 : Nat) : Int), .int .u64 (((l + 1) % 18446744073709551616 : Nat) : Int)]) ∧ Below w.heap.size w w' := by
  have ha := add64_c l
  generalize (l + 1) % 18446744073709551616 = l' at *
  generalize (l + 1) / 18446744073709551616 = c' at *
  rw [← wrap_add]
  go_enter Tryd.func36, Tryd.ntmps36
  go_wp2
  go_returns
  exact ⟨rfl, by go_grown⟩
theorem subOne_c (h l : Nat) (w : World) :
    Calls Tryd.prog 42 #[.agg #[.int .u64 h, .int .u64 l]] w fun e w' =>
      e = .returned (.agg #[.int .u64 (((h + 18446744073709551616 - (if l = 0 then 1 else 0)) % 18446744073709551616 : Nat) : Int), .int .u64 (((l + 18446744073709551615) % 18446744073709551616 : Nat) : Int)]) ∧ Below w.heap.size w w' := by
  have ha := sub64_c l
  have hc : (if l = 0 then 1 else 0 : Nat) ≤ 1 := by split <;> omega
  generalize (l + 18446744073709551615) % 18446744073709551616 = l' at *
  generalize (if l = 0 then 1 else 0 : Nat) = c' at *
  rw [← wrap_sub h c' hc]
  go_enter Tryd.func42, Tryd.ntmps42
  go_wp2
  go_returns
  exact ⟨rfl, by go_grown⟩
/-- A store into the first, or the second, block. -/
theorem Boxes.set {w w1 : World} {xs : List (Array Value)} (h : Boxes w xs w1) (j : Nat) (x : Array Value) (hx : xs[j]? = some x) (i : Nat) (v : Value) : Boxes w (xs.set j (x.setIfInBounds i v)) (w1.setCell ⟨w.heap.size + j, i, none⟩ v) := by
  have hjl : j < xs.length := (List.getElem?_eq_some_iff.1 hx).1
  have hs := h.size
  refine ⟨h.below.setCell (by show w.heap.size ≤ w.heap.size + j; omega) v, by simp [World.setCell]; omega, fun j' x' hj' i' => ?_, fun j' x' hj' i' => ?_⟩
  · by_cases e : j = j'
    · subst e
      rw [List.getElem?_set_self hjl] at hj'
      injection hj' with hj'
      subst hj'
      by_cases ei : i = i'
      · subst ei
        rw [Array.getElem?_setIfInBounds_self]
        by_cases hi : i < x.size
        · rw [if_pos hi]
          exact World.cell?_setCell_same' _ _ _ (by rw [h.cell j x hx i]; simp [hi])
        · rw [if_neg hi]
          have hn : w1.cell? ⟨w.heap.size + j, i, none⟩ = none := by rw [h.cell j x hx i]; simp; omega
          unfold World.cell? at hn ⊢
          simp only [World.setCell, Array.getElem?_modify, if_true]
          generalize w1.heap[w.heap.size + j]? = ob at *
          cases ob with
          | none => rfl
          | some ob => cases ob <;> simp_all
      · rw [World.cell?_setCell_other _ _ _ _ (fun e => ei (by injection e)), h.cell j x hx i', Array.getElem?_setIfInBounds_ne ei]
    · rw [List.getElem?_set_ne e] at hj'
      rw [World.cell?_setCell_other _ _ _ _ (fun e' => e (by injection e'; omega))]
      exact h.cell j' x' hj' i'
  · have hfz : ∀ a : Addr, (w1.setCell ⟨w.heap.size + j, i, none⟩ v).frozen? a = w1.frozen? a := fun a => by simp
    rw [hfz]
    by_cases e : j = j'
    · subst e
      exact h.free j x hx i'
    · rw [List.getElem?_set_ne e] at hj'
      exact h.free j' x' hj' i'
theorem or_zero (h l : Nat) (hh : h < 18446744073709551616) (hl : l < 18446744073709551616) : (bits .or .u64 (h : Int) (l : Int) == 0) = (h == 0 && l == 0) := by
  rw [(bits_nat .u64 64 (by decide) wraps_u64 h l (by simpa using hh) (by simpa using hl)).2]
  rw [Bool.eq_iff_iff]
  simp only [beq_iff_eq, Bool.and_eq_true]
  constructor
  · intro e
    have e' : h ||| l = 0 := by exact_mod_cast e
    have h1 := Nat.left_le_or (n := h) (m := l)
    have h2 := Nat.right_le_or (n := h) (m := l)
    omega
  · rintro ⟨rfl, rfl⟩
    rfl
def nextAd (x : Ad) : Ad :=
  let h := (x.h + (x.l + 1) / 18446744073709551616) % 18446744073709551616
  let l := (x.l + 1) % 18446744073709551616
  if (if x.k = some false then l % 4294967296 = 0 else h = 0 ∧ l = 0) then ⟨0, 0, none⟩ else ⟨h, l, x.k⟩
def prevAd (x : Ad) : Ad :=
  if (if x.k = some false then x.l % 4294967296 = 0 else x.h = 0 ∧ x.l = 0) then ⟨0, 0, none⟩
  else ⟨(x.h + 18446744073709551616 - (if x.l = 0 then 1 else 0)) % 18446744073709551616, (x.l + 18446744073709551615) % 18446744073709551616, x.k⟩
end Go.Proofs.YtocckokbdacdfaaDoor
