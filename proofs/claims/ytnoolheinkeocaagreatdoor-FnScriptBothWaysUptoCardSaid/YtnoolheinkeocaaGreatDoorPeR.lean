/-
  Lists of prefixes with a yes or no, read.
-/
import Derived.Test.YtnoolheinkeocaaGreatDoorEach
namespace Go.Proofs.YtnoolheinkeocaaGreatDoor
open Go Go.RowKit
theorem peCells_get (es : List Pe) (i : Nat) (hi : i < es.length) : (peCells es)[i * 4]? = some (.slice es[i].a es[i].n es[i].c) ∧ (peCells es)[i * 4 + 1]? = some (.string ⟨#[]⟩) ∧ (peCells es)[i * 4 + 2]? = some (.int .i64 es[i].k) ∧ (peCells es)[i * 4 + 3]? = some (.bool es[i].ok) := by
  induction es generalizing i with
  | nil => simp at hi
  | cons x r ih =>
    cases i with
    | zero => exact ⟨rfl, rfl, rfl, rfl⟩
    | succ i =>
      have := ih i (by simpa using hi)
      have e1 : (i + 1) * 4 = i * 4 + 4 := by omega
      simp only [e1, peCells, List.flatMap_cons, List.cons_append, List.nil_append, List.getElem_cons_succ] at this ⊢
      exact ⟨this.1, this.2.1, this.2.2.1, this.2.2.2⟩
/-- A list of prefixes with a yes or no that can be read. -/
def RE (w : World) (A : Option Addr) (n : Nat) (es : List Pe) : Prop :=
  es.length = n ∧ RC w A (peCells es) ∧ ∀ e ∈ es, RB w e.a e.n e.bs
theorem RE.keep {w w' : World} {A : Option Addr} {n : Nat} {es : List Pe} (h : RE w A n es) (hb : Below w.heap.size w w') : RE w' A n es :=
  ⟨h.1, h.2.1.keep hb, fun e he => (h.2.2 e he).keep hb⟩
theorem RE.at {w : World} {A : Option Addr} {n : Nat} {es : List Pe} (h : RE w A n es) {i : Nat} (hi : i < n) :
    ∃ g o e, A = some ⟨g, o, none⟩ ∧ g < w.heap.size ∧ es[i]? = some e ∧ w.cell? ⟨g, o + i * 4, none⟩ = some (.slice e.a e.n e.c) ∧ w.cell? ⟨g, o + i * 4 + 1, none⟩ = some (.string ⟨#[]⟩) ∧ w.cell? ⟨g, o + i * 4 + 2, none⟩ = some (.int .i64 e.k) ∧ w.cell? ⟨g, o + i * 4 + 3, none⟩ = some (.bool e.ok) ∧ RB w e.a e.n e.bs := by
  have hl : i < es.length := by rw [h.1]; exact hi
  obtain ⟨g, o, hA, hg, hc⟩ := h.2.1 (by rw [peCells_len]; omega)
  have he := peCells_get es i hl
  exact ⟨g, o, es[i], hA, hg, List.getElem?_eq_getElem hl, hc _ _ he.1, hc _ _ he.2.1, hc _ _ he.2.2.1, hc _ _ he.2.2.2, h.2.2 _ (List.getElem_mem hl)⟩
theorem RE.of_own {w : World} {B b2 : Nat} {A : Option Addr} {n c : Nat} {es : List Pe} (h : w.ownsRow b2 40 4 (.slice A n c) n (peCells es)) (hl : es.length = n) (hi : ownPe w B es) : RE w A n es :=
  ⟨hl, RC.of_own h, fun e he => by obtain ⟨t, _, h1⟩ := hi e he; exact RB.of_own h1⟩
theorem Pe.of_out {e : Pe} {o : Out} (h : e.is = o.is) : e.bs = o.bs ∧ e.k = o.k ∧ e.ok = o.ok := by
  unfold Pe.is Out.is at h
  injection h with h1 h2
  injection h2 with h2 h3
  exact ⟨h1, h2, h3⟩
end Go.Proofs.YtnoolheinkeocaaGreatDoor
