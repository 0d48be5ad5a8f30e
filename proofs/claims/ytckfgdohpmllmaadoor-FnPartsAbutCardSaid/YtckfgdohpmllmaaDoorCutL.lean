/-
  Contract of laws.cutParts.
-/
import Derived.Test.YtckfgdohpmllmaaDoorLeft2
import Derived.Test.YtckfgdohpmllmaaDoorSortL
namespace Go.Proofs.YtckfgdohpmllmaaDoor
open Go Go.RowKit
/-- The parts to which a prefix has been cut. -/
structure CutInv (a : List UInt8) (k0 : Nat) (es : List Pf) : Prop where
  ln : ∀ y ∈ es, y.bs.length = a.length ∧ y.n = a.length ∧ k0 ≤ y.k ∧ y.k ≤ 8 * a.length
  sum : ∀ x, manyIn (es.map Pf.is) x = if inP a k0 x then 1 else 0
  some : 0 < es.length
  le : es.length ≤ 1 + ((es.take 256).map Pf.k).sum
theorem sum_le (l : List Nat) (b : Nat) (h : ∀ x ∈ l, x ≤ b) : l.sum ≤ l.length * b := by
  induction l with
  | nil => simp
  | cons x r ih =>
    have h1 := h x (by simp)
    have h2 := ih fun y hy => h y (by simp [hy])
    simp only [List.sum_cons, List.length_cons, Nat.add_mul, Nat.one_mul]
    omega
theorem CutInv.small {a : List UInt8} {k0 : Nat} {es : List Pf} (h : CutInv a k0 es) (hl : isLen a.length) : es.length ≤ 32769 := by
  have h1 := h.le
  have h2 := sum_le ((es.take 256).map Pf.k) 128 (fun x hx => by
    obtain ⟨y, hy, rfl⟩ := List.mem_map.1 hx
    have := (h.ln y (List.mem_of_mem_take hy)).2.2.2
    unfold isLen at hl
    omega)
  have h3 : ((es.take 256).map Pf.k).length ≤ 256 := by simp; omega
  have h4 := Nat.mul_le_mul_right 128 h3
  omega
theorem manyIn_set (es : List Pf) (i : Nat) (e f : Pf) (h : es[i]? = some e) (x : List UInt8) : manyIn ((es.set i f).map Pf.is) x + (if inP e.bs e.k x then 1 else 0) = manyIn (es.map Pf.is) x + if inP f.bs f.k x then 1 else 0 := by
  induction es generalizing i with
  | nil => simp at h
  | cons y r ih =>
    cases i with
    | zero =>
      simp at h
      subst h
      simp only [List.set_cons_zero, List.map_cons]
      unfold manyIn
      simp only [List.countP_cons, Pf.is]
      omega
    | succ i =>
      have := ih i (by simpa using h)
      simp only [List.set_cons_succ, List.map_cons]
      unfold manyIn at *
      simp only [List.countP_cons] at *
      omega
theorem sum_set (l : List Nat) (i x y : Nat) (h : l[i]? = some x) : (l.set i y).sum + x = l.sum + y := by
  induction l generalizing i with
  | nil => simp at h
  | cons z r ih =>
    cases i with
    | zero => simp at h; subst h; simp only [List.set_cons_zero, List.sum_cons]; omega
    | succ i =>
      have := ih i (by simpa using h)
      simp only [List.set_cons_succ, List.sum_cons]
      omega
theorem CutInv.step {a : List UInt8} {k0 : Nat} {es : List Pf} (h : CutInv a k0 es) (i : Nat) (e : Pf) (he : es[i]? = Option.some e) (hi : i < 256) (hk : e.k < 8 * a.length) (A1 A2 : Option Addr) (c1 c2 : Nat) :
    CutInv a k0 (es.set i ⟨A1, a.length, c1, halfB e.bs e.k false, e.k + 1⟩ ++ [⟨A2, a.length, c2, halfB e.bs e.k true, e.k + 1⟩]) := by
  have hm := List.mem_of_getElem? he
  obtain ⟨l1, l2, l3, l4⟩ := h.ln e hm
  refine ⟨fun y hy => ?_, fun x => ?_, by simp, ?_⟩
  · rcases List.mem_append.1 hy with hy | hy
    · rcases List.mem_or_eq_of_mem_set hy with hy | rfl
      · exact h.ln y hy
      · exact ⟨by show (halfB e.bs e.k false).length = _; rw [halfB_len, l1], rfl, by show k0 ≤ e.k + 1; omega, by show e.k + 1 ≤ _; omega⟩
    · simp at hy
      subst hy
      exact ⟨by show (halfB e.bs e.k true).length = _; rw [halfB_len, l1], rfl, by show k0 ≤ e.k + 1; omega, by show e.k + 1 ≤ _; omega⟩
  · have h1 := manyIn_set es i e ⟨A1, a.length, c1, halfB e.bs e.k false, e.k + 1⟩ he x
    have h2 := half_split e.bs e.k true x (by omega)
    have h3 := h.sum x
    simp only [Bool.not_true] at h1 h2
    rw [List.map_append, manyIn_append]
    show manyIn ((es.set i _).map Pf.is) x + manyIn [(halfB e.bs e.k true, e.k + 1)] x = _
    rw [manyIn_one]
    omega
  · have h1 : (es.take 256)[i]? = Option.some e := by rw [List.getElem?_take_of_lt hi]; exact he
    have h2 : ((es.take 256).map Pf.k)[i]? = Option.some e.k := by rw [List.getElem?_map, h1]; rfl
    have h3 := sum_set ((es.take 256).map Pf.k) i e.k (e.k + 1) h2
    have h4 := h.le
    rw [List.take_append, List.map_append, List.sum_append, List.take_set, List.map_set]
    show _ ≤ 1 + ((((es.take 256).map Pf.k).set i (e.k + 1)).sum + _)
    rw [List.length_append, List.length_set]
    simp only [List.length_cons, List.length_nil]
    omega
theorem CutInv.start (a : List UInt8) (k0 : Nat) (e : Pf) (hk : k0 ≤ 8 * a.length) (h : e.is = (a, k0)) (hn : e.n = a.length) : CutInv a k0 [e] := by
  have h1 : e.bs = a := congrArg Prod.fst h
  have h2 : e.k = k0 := congrArg Prod.snd h
  refine ⟨fun y hy => ?_, fun x => ?_, by simp, by simp⟩
  · simp at hy
    subst hy
    rw [h1, h2]
    exact ⟨rfl, hn, Nat.le_refl _, hk⟩
  · show manyIn [e.is] x = _
    rw [h, manyIn_one]
/-- What cutParts hands back. -/
def CutPost (w : World) (a : List UInt8) (x : UInt8) (e : Ending) (w' : World) : Prop :=
  ∃ A' c' es', e = .returned (.slice A' es'.length c') ∧ w'.ownsRow w.heap.size 29 3 (.slice A' es'.length c') es'.length (pfCells es') ∧ ownPf w' w.heap.size es' ∧ (isLen a.length → CutInv a (x.toNat % (8 * a.length + 1)) es') ∧ (¬ isLen a.length → es' = []) ∧ Below w.heap.size w w'
end Go.Proofs.YtckfgdohpmllmaaDoor
