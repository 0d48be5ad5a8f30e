/-
  Words for memory: rows that the call owns, slices of bytes and of addresses that are read.
-/
import Derived.Test.YtaofindlomkbbaaDoorAddress
import Derived.Laws.AppendOwnNone
namespace Go.Proofs.YtaofindlomkbbaaDoor
open Go Go.RowKit
section
variable {w w1 w2 : World} {base : Nat} {e : TypeId} {size : Nat} {v : Value} {n : Nat} {xs : List Value} {bx : List (Array Value)} {row : Option Nat}
theorem own_below (h : w.ownsRow base e size v n xs) (hb : Below w.heap.size w w1) : w1.ownsRow base e size v n xs :=
  h.kept (row := none) ⟨hb.os, hb.tape, hb.output, hb.size, fun k hk _ => hb.block k hk⟩ (by cases v.ownBlock <;> simp)
theorem own_mono {base' : Nat} (h : w.ownsRow base e size v n xs) (hb : base' ≤ base) : w.ownsRow base' e size v n xs := by
  refine ⟨h.1, ?_⟩
  rcases h.2 with h2 | ⟨g, cap, cur, hv, hg, r⟩
  · exact .inl h2
  · exact .inr ⟨g, cap, cur, hv, Nat.le_trans hb hg, r⟩
theorem Boxes.grown (h : Boxes w bx w1) (hg : w1.grownBy w2 row) (hr : ∀ g, row = some g → w.heap.size + bx.length ≤ g) : Boxes w bx w2 := by
  have hs := h.size
  have hs2 := hg.size
  refine ⟨h.below.grown hg h.below.size (fun k hk => by have := hr k hk; omega), by omega, fun j x hj i => ?_, fun j x hj i => ?_⟩
  · have hl := (List.getElem?_eq_some_iff.1 hj).1
    rw [World.cell?_of_block (hg.block _ (by show w.heap.size + j < _; omega) (fun e => by have := hr _ e.symm; simp at this; omega))]
    exact h.cell j x hj i
  · have hl := (List.getElem?_eq_some_iff.1 hj).1
    rw [World.frozen?_of_block (hg.block _ (by show w.heap.size + j < _; omega) (fun e => by have := hr _ e.symm; simp at this; omega))]
    exact h.free j x hj i
theorem own_row_ge (h : w.ownsRow base e size v n xs) : ∀ g, v.ownBlock = some g → base ≤ g := fun g hg => (h.lt g hg).1
theorem below_grown (hg : w.grownBy w1 row) {B : Nat} (hB : B ≤ w.heap.size) (hr : ∀ g, row = some g → B ≤ g) : Below B w w1 := (Below.refl B w).grown hg hB hr
end
/-- A row of cells that can be read. -/
def RC (w : World) (A : Option Addr) (cs : List Value) : Prop :=
  0 < cs.length → ∃ g o, A = some ⟨g, o, none⟩ ∧ g < w.heap.size ∧ ∀ i u, cs[i]? = some u → w.cell? ⟨g, o + i, none⟩ = some u
theorem RC.keep {w w' : World} {A : Option Addr} {cs : List Value} (h : RC w A cs) (hb : Below w.heap.size w w') : RC w' A cs := fun hn => by
  obtain ⟨g, o, e, hg, hc⟩ := h hn
  exact ⟨g, o, e, Nat.lt_of_lt_of_le hg hb.size, fun i u hi => by rw [hb.cell (by exact hg)]; exact hc i u hi⟩
theorem add_zero_off (g j : Nat) : (⟨g, 0, none⟩ : Addr).add j = ⟨g, 0 + j, none⟩ := by unfold Addr.add; split <;> simp_all
theorem RC.of_own {w : World} {base : Nat} {e : TypeId} {size n c : Nat} {A : Option Addr} {xs : List Value} (h : w.ownsRow base e size (.slice A n c) n xs) : RC w A xs := fun hn => by
  rcases h.2 with ⟨hv, hz⟩ | ⟨g, cap, cur, hv, hb, hg, hl, hm, hs, ht⟩
  · have := h.1
    subst hz
    omega
  · injection hv with hA
    subst hA
    refine ⟨g, 0, rfl, (Array.getElem?_eq_some_iff.1 hg).1, fun i u hi => ?_⟩
    rw [← add_zero_off]
    exact h.cells rfl i u hi
theorem byteCells_get (bs : List UInt8) (i : Nat) (hi : i < bs.length) : (Lib.byteCells bs)[i]? = some (.int .u8 (bs.getD i 0).toNat) := by
  simp [Lib.byteCells, hi]
theorem byteCells_len (bs : List UInt8) : (Lib.byteCells bs).length = bs.length := by simp [Lib.byteCells]
theorem RB.of_own {w : World} {base : Nat} {e : TypeId} {n c : Nat} {A : Option Addr} {bs : List UInt8} (h : w.ownsRow base e 1 (.slice A n c) n (Lib.byteCells bs)) : RB w A n bs := by
  have hl : bs.length = n := by have := h.1; rw [byteCells_len] at this; omega
  refine ⟨hl, fun hn => ?_⟩
  obtain ⟨g, o, hA, hg, hc⟩ := RC.of_own h (by rw [byteCells_len]; omega)
  exact ⟨g, o, hA, hg, fun i hi => hc i _ (byteCells_get bs i (by omega))⟩
/-- An address in a list: its slice value, its bytes. The zone is empty. -/
structure En where
  a : Option Addr
  n : Nat
  c : Nat
  bs : List UInt8
def En.cells (e : En) : List Value := [.slice e.a e.n e.c, .string ⟨#[]⟩]
def enCells (es : List En) : List Value := es.flatMap En.cells
theorem enCells_len (es : List En) : (enCells es).length = es.length * 2 := by
  induction es with
  | nil => rfl
  | cons x r ih => simp only [enCells, List.flatMap_cons, List.length_append, List.length_cons] at *; simp only [En.cells, List.length_cons, List.length_nil]; omega
theorem enCells_append (es : List En) (e : En) : enCells (es ++ [e]) = enCells es ++ e.cells := by simp [enCells]
theorem enCells_get (es : List En) (i : Nat) (hi : i < es.length) : (enCells es)[i * 2]? = some (.slice es[i].a es[i].n es[i].c) ∧ (enCells es)[i * 2 + 1]? = some (.string ⟨#[]⟩) := by
  induction es generalizing i with
  | nil => simp at hi
  | cons x r ih =>
    cases i with
    | zero => exact ⟨rfl, rfl⟩
    | succ i =>
      have := ih i (by simpa using hi)
      have e1 : (i + 1) * 2 = i * 2 + 2 := by omega
      simp only [e1, enCells, List.flatMap_cons, En.cells, List.cons_append, List.nil_append, List.getElem_cons_succ] at this ⊢
      exact ⟨this.1, this.2⟩
/-- A list of addresses that can be read. -/
def RA (w : World) (A : Option Addr) (n : Nat) (es : List En) : Prop :=
  es.length = n ∧ RC w A (enCells es) ∧ ∀ e ∈ es, RB w e.a e.n e.bs
theorem RA.keep {w w' : World} {A : Option Addr} {n : Nat} {es : List En} (h : RA w A n es) (hb : Below w.heap.size w w') : RA w' A n es :=
  ⟨h.1, h.2.1.keep hb, fun e he => (h.2.2 e he).keep hb⟩
theorem RA.at {w : World} {A : Option Addr} {n : Nat} {es : List En} (h : RA w A n es) {i : Nat} (hi : i < n) :
    ∃ g o e, A = some ⟨g, o, none⟩ ∧ g < w.heap.size ∧ es[i]? = some e ∧ w.cell? ⟨g, o + i * 2, none⟩ = some (.slice e.a e.n e.c) ∧ w.cell? ⟨g, o + i * 2 + 1, none⟩ = some (.string ⟨#[]⟩) ∧ RB w e.a e.n e.bs := by
  have hl : i < es.length := by rw [h.1]; exact hi
  obtain ⟨g, o, hA, hg, hc⟩ := h.2.1 (by rw [enCells_len]; omega)
  have he := enCells_get es i hl
  exact ⟨g, o, es[i], hA, hg, List.getElem?_eq_getElem hl, hc _ _ he.1, hc _ _ he.2, h.2.2 _ (List.getElem_mem hl)⟩
/-- An address as the library has it. -/
structure Ad where
  h : Nat
  l : Nat
  k : Option Bool
def adOf (bs : List UInt8) : Ad :=
  if bs.length = 4 then ⟨0, 281470681743360 + Lib.beNat bs, some false⟩
  else if bs.length = 16 then ⟨Lib.beNat (bs.take 8), Lib.beNat (bs.drop 8), some true⟩
  else ⟨0, 0, none⟩
set_option maxRecDepth 100000 in
theorem address_c (A : Option Addr) (n c : Nat) (bs : List UInt8) (z : ZP) (w : World) (hz : Zs w z) (hr : RB w A n bs) :
    Calls Tryd.prog 34 #[.agg #[.slice A n c, .string ⟨#[]⟩]] w fun e w' =>
      e = .returned (.agg #[.int .u64 (adOf bs).h, .int .u64 (adOf bs).l, .pointer (z.ptr (adOf bs).k)]) ∧ Below w.heap.size w w' := by
  obtain ⟨hl, hc⟩ := hr
  by_cases h4 : n = 4
  · subst h4
    obtain ⟨g, o, rfl, hg, hc⟩ := hc (by omega)
    match bs, hl with
    | [b0, b1, b2, b3], _ => exact address4 g o c b0 b1 b2 b3 z w hz hg (hc 0 (by omega)) (hc 1 (by omega)) (hc 2 (by omega)) (hc 3 (by omega))
  · by_cases h16 : n = 16
    · subst h16
      obtain ⟨g, o, rfl, hg, hc⟩ := hc (by omega)
      match bs, hl with
      | [b0, b1, b2, b3, b4, b5, b6, b7, b8, b9, b10, b11, b12, b13, b14, b15], _ =>
        exact address16 g o c b0 b1 b2 b3 b4 b5 b6 b7 b8 b9 b10 b11 b12 b13 b14 b15 z w hz hg (hc 0 (by omega)) (hc 1 (by omega)) (hc 2 (by omega)) (hc 3 (by omega)) (hc 4 (by omega)) (hc 5 (by omega)) (hc 6 (by omega)) (hc 7 (by omega))
          (hc 8 (by omega)) (hc 9 (by omega)) (hc 10 (by omega)) (hc 11 (by omega)) (hc 12 (by omega)) (hc 13 (by omega)) (hc 14 (by omega)) (hc 15 (by omega))
    · have e : adOf bs = ⟨0, 0, none⟩ := by unfold adOf; rw [if_neg (by omega), if_neg (by omega)]
      rw [e]
      exact address0 A n c z w h4 h16
end Go.Proofs.YtaofindlomkbbaaDoor
