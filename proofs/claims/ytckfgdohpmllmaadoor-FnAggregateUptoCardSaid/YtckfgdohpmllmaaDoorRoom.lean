/-
  A block of the call's own whose cells are left open: what a region that lays it, and stores into it, keeps.
-/
import Derived.Test.YtckfgdohpmllmaaDoorHalf
import Derived.Test.YtckfgdohpmllmaaDoorRegion3
namespace Go.Proofs.YtckfgdohpmllmaaDoor
open Go Go.RowKit
/-- A pointer to a block from B on, of type t, of n cells. -/
def Room (B : Nat) (t : TypeId) (n : Nat) (v : Value) (w : World) : Prop := ∃ g cs, v = .pointer (some ⟨g, 0, none⟩) ∧ B ≤ g ∧ cs.size = n ∧ Blk w g t cs
theorem Room.keep {B : Nat} {t : TypeId} {n : Nat} {v : Value} {w w' : World} (h : Room B t n v w) (hb : Below w.heap.size w w') : Room B t n v w' := by
  obtain ⟨g, cs, h1, h2, h3, h4⟩ := h
  exact ⟨g, cs, h1, h2, h3, h4.below hb⟩
theorem Room.new (w : World) (B : Nat) (t : TypeId) (cs : Array Value) (hB : B ≤ w.heap.size) : Room B t cs.size (.pointer (some ⟨w.heap.size, 0, none⟩)) (w.alloc (.cells cs t)) := ⟨_, _, rfl, hB, rfl, heap_alloc_new _ _⟩
theorem Room.out {B : Nat} {t : TypeId} {n g : Nat} {w : World} (h : Room B t n (.pointer (some ⟨g, 0, none⟩)) w) : ∃ cs, B ≤ g ∧ cs.size = n ∧ Blk w g t cs := by
  obtain ⟨g', cs, h1, h2, h3, h4⟩ := h
  injection h1 with h1
  injection h1 with h1
  injection h1 with h1
  subst h1
  exact ⟨cs, h2, h3, h4⟩
theorem size2 {cs : Array Value} (h : cs.size = 2) : ∃ a b, cs = #[a, b] := by
  obtain ⟨l⟩ := cs
  match l, h with
  | [a, b], _ => exact ⟨a, b, rfl⟩
theorem size3 {cs : Array Value} (h : cs.size = 3) : ∃ a b c, cs = #[a, b, c] := by
  obtain ⟨l⟩ := cs
  match l, h with
  | [a, b, c], _ => exact ⟨a, b, c, rfl⟩
theorem size4 {cs : Array Value} (h : cs.size = 4) : ∃ a b c d, cs = #[a, b, c, d] := by
  obtain ⟨l⟩ := cs
  match l, h with
  | [a, b, c, d], _ => exact ⟨a, b, c, d, rfl⟩
end Go.Proofs.YtckfgdohpmllmaaDoor
