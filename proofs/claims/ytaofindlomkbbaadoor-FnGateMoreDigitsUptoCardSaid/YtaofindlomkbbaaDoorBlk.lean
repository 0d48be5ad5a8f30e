/-
  Blocks known whole; stores into rows of the call's own.
-/
import Derived.Test.YtaofindlomkbbaaDoorApp
namespace Go.Proofs.YtaofindlomkbbaaDoor
open Go Go.RowKit
/-- A block known whole. -/
def Blk (w : World) (g : Nat) (t : TypeId) (cs : Array Value) : Prop := w.heap[g]? = some (.cells cs t (0, 0))
theorem Blk.cell {w : World} {g : Nat} {t : TypeId} {cs : Array Value} (h : Blk w g t cs) : ∀ i, w.cell? ⟨g, i, none⟩ = cs[i]? := fun i => cell_of_row w g i cs t (0, 0) h
theorem Blk.free {w : World} {g : Nat} {t : TypeId} {cs : Array Value} (h : Blk w g t cs) : ∀ i, w.frozen? ⟨g, i, none⟩ = false := fun i => by
  unfold World.frozen?; rw [show w.heap[(⟨g, i, none⟩ : Addr).block]? = _ from h]; simp
theorem Blk.lt {w : World} {g : Nat} {t : TypeId} {cs : Array Value} (h : Blk w g t cs) : g < w.heap.size := (Array.getElem?_eq_some_iff.1 h).1
theorem Blk.below {w w' : World} {g : Nat} {t : TypeId} {cs : Array Value} (h : Blk w g t cs) (hb : Below w.heap.size w w') : Blk w' g t cs := (hb.block g h.lt).trans h
theorem Blk.set {w : World} {g : Nat} {t : TypeId} {cs : Array Value} (h : Blk w g t cs) (i : Nat) (u : Value) : Blk (w.setCell ⟨g, i, none⟩ u) g t (cs.setIfInBounds i u) := by
  unfold Blk at *
  simp only [World.setCell, Array.getElem?_modify, if_true, h]
  rfl
theorem Blk.grown {w w' : World} {g : Nat} {t : TypeId} {cs : Array Value} {row : Option Nat} (h : Blk w g t cs) (hg : w.grownBy w' row) (hne : some g ≠ row) : Blk w' g t cs := (hg.block g h.lt hne).trans h
theorem own_blk {w : World} {base : Nat} {e : TypeId} {size n : Nat} {v : Value} {xs : List Value} {g : Nat} {t : TypeId} {cs : Array Value} (h : w.ownsRow base e size v n xs) (hg : Blk w g t cs) (hne : e ≠ t) : v.ownBlock = none ∨ v.ownBlock ≠ some g := by
  rcases h.2 with ⟨rfl, _⟩ | ⟨g', cap, cur, rfl, _, hg', _⟩
  · exact .inl rfl
  · right
    intro e'
    simp [Value.ownBlock] at e'
    subst e'
    unfold Blk at hg
    rw [hg'] at hg
    injection hg with hg
    injection hg with _ he
    exact hne he
/-- A row stays when a cell of a block of another type is written. -/
theorem own_set {w : World} {base : Nat} {e : TypeId} {size n : Nat} {v : Value} {xs : List Value} {g : Nat} {t : TypeId} {cs : Array Value} (h : w.ownsRow base e size v n xs) (hg : Blk w g t cs) (hne : e ≠ t) (i : Nat) (u : Value) : (w.setCell ⟨g, i, none⟩ u).ownsRow base e size v n xs := by
  refine ⟨h.1, ?_⟩
  rcases h.2 with h2 | ⟨g', cap, cur, hv, hb, hg', r⟩
  · exact .inl h2
  · refine .inr ⟨g', cap, cur, hv, hb, ?_, r⟩
    rw [Below.heap_setCell _ _ _ _ (show g' ≠ g from fun e' => by
      subst e'
      unfold Blk at hg
      rw [hg'] at hg
      injection hg with hg
      injection hg with _ he
      exact hne he)]
    exact hg'
theorem own_rowBlk {w : World} {base : Nat} {e : TypeId} {size n c g : Nat} {xs : List Value} (h : w.ownsRow base e size (.slice (some ⟨g, 0, none⟩) n c) n xs) : ∃ cur, Blk w g e cur ∧ n ≤ c ∧ cur.size = c * size ∧ cur.toList.take (n * size) = xs ∧ base ≤ g := by
  rcases h.2 with ⟨hv, _⟩ | ⟨g', cap, cur, hv, hb, hg, hl, hm, hs, ht⟩
  · cases hv
  · injection hv with h1 h2 h3
    injection h1 with h1
    injection h1 with h1
    subst h1 h3
    exact ⟨cur, hg, hl, hs, ht, hb⟩
/-- A store into a row of the call's own. -/
theorem own_put {w : World} {base : Nat} {e : TypeId} {size n c g : Nat} {xs : List Value} (h : w.ownsRow base e size (.slice (some ⟨g, 0, none⟩) n c) n xs) (i : Nat) (u : Value) : (w.setCell ⟨g, i, none⟩ u).ownsRow base e size (.slice (some ⟨g, 0, none⟩) n c) n (xs.set i u) := by
  refine ⟨by rw [List.length_set]; exact h.1, ?_⟩
  rcases h.2 with ⟨hv, _⟩ | ⟨g', cap, cur, hv, hb, hg, hl, hm, hs, ht⟩
  · cases hv
  · injection hv with h1 h2 h3
    injection h1 with h1
    injection h1 with h1
    subst h1 h3
    have hk : Blk w g e cur := hg
    refine .inr ⟨g, c, cur.setIfInBounds i u, rfl, hb, hk.set i u, hl, hm, by simp [hs], ?_⟩
    rw [← ht, Array.toList_setIfInBounds, List.take_set]
end Go.Proofs.YtaofindlomkbbaaDoor
