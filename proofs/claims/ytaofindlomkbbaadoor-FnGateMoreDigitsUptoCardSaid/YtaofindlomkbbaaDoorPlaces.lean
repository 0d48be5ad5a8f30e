/-
  Lists of slices of bytes.
-/
import Derived.Test.YtaofindlomkbbaaDoorApp
namespace Go.Proofs.YtaofindlomkbbaaDoor
open Go Go.RowKit
theorem infoAddr : (Tryd.prog.info? 26).map (fun i => (i.zero, i.size, i.bytes)) = some (some (.agg #[.slice none 0 0, .string ⟨#[]⟩]), 2, 40) := by kernel_rfl
/-- Two rows of different element types lie in different blocks. -/
theorem own_ne {w : World} {b1 b2 : Nat} {e1 e2 : TypeId} {s1 s2 : Nat} {v1 v2 : Value} {n1 n2 : Nat} {x1 x2 : List Value} (h1 : w.ownsRow b1 e1 s1 v1 n1 x1) (h2 : w.ownsRow b2 e2 s2 v2 n2 x2) (hne : e1 ≠ e2) :
    v1.ownBlock = none ∨ v1.ownBlock ≠ v2.ownBlock := by
  rcases h1.2 with ⟨rfl, _⟩ | ⟨g, cap, cur, rfl, _, hg, _⟩
  · exact .inl rfl
  · right
    rcases h2.2 with ⟨rfl, _⟩ | ⟨g', cap', cur', rfl, _, hg', _⟩
    · simp [Value.ownBlock]
    · intro e
      simp [Value.ownBlock] at e
      subst e
      rw [hg] at hg'
      injection hg' with hg'
      injection hg' with _ he
      exact hne he
/-- A list of slices of bytes that came in. -/
def RS (w : World) (A : Option Addr) (n : Nat) (es : List En) : Prop :=
  es.length = n ∧ RC w A (es.map fun e => .slice e.a e.n e.c) ∧ ∀ e ∈ es, RB w e.a e.n e.bs ∧ (e.a = none → e.n = 0 ∧ e.c = 0) ∧ e.n ≤ 140737488355328
theorem RS.keep {w w' : World} {A : Option Addr} {n : Nat} {es : List En} (h : RS w A n es) (hb : Below w.heap.size w w') : RS w' A n es :=
  ⟨h.1, h.2.1.keep hb, fun e he => ⟨(h.2.2 e he).1.keep hb, (h.2.2 e he).2⟩⟩
theorem RS.at {w : World} {A : Option Addr} {n : Nat} {es : List En} (h : RS w A n es) {i : Nat} (hi : i < n) :
    ∃ g o e, A = some ⟨g, o, none⟩ ∧ g < w.heap.size ∧ es[i]? = some e ∧ w.cell? ⟨g, o + i, none⟩ = some (.slice e.a e.n e.c) ∧ RB w e.a e.n e.bs ∧ (e.a = none → e.n = 0 ∧ e.c = 0) ∧ e.n ≤ 140737488355328 := by
  have hl : i < es.length := by rw [h.1]; exact hi
  obtain ⟨g, o, hA, hg, hc⟩ := h.2.1 (by rw [List.length_map]; omega)
  exact ⟨g, o, es[i], hA, hg, List.getElem?_eq_getElem hl, hc i _ (by simp [hl]), h.2.2 _ (List.getElem_mem hl)⟩
/-- Own slices of bytes. -/
def ownEn (w : World) (B : Nat) (es : List En) : Prop := ∀ e ∈ es, w.ownsRow B 5 1 (.slice e.a e.n e.c) e.n (Lib.byteCells e.bs)
theorem ownEn.below {w w' : World} {B : Nat} {es : List En} (h : ownEn w B es) (hb : Below w.heap.size w w') : ownEn w' B es := fun e he => own_below (h e he) hb
/-- Own slices of bytes stay, when a row of another type has grown. -/
theorem ownEn.grown {w w' : World} {B b2 : Nat} {e2 : TypeId} {s2 : Nat} {v2 : Value} {n2 : Nat} {x2 : List Value} {es : List En} (h : ownEn w B es) (h2 : w.ownsRow b2 e2 s2 v2 n2 x2) (hne : 5 ≠ e2) (hg : w.grownBy w' v2.ownBlock) : ownEn w' B es :=
  fun e he => (h e he).kept hg (own_ne (h e he) h2 hne)
theorem RA.of_own {w : World} {B b2 : Nat} {A : Option Addr} {n c : Nat} {es : List En} (h : w.ownsRow b2 26 2 (.slice A n c) n (enCells es)) (hl : es.length = n) (hi : ownEn w B es) : RA w A n es :=
  ⟨hl, RC.of_own h, fun e he => RB.of_own (hi e he)⟩
end Go.Proofs.YtaofindlomkbbaaDoor
