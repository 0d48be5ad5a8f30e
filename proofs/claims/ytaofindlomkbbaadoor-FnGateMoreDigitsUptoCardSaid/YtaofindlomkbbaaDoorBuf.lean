/-
  A buffer of bytes that the call owns, carried from append to append, beside the other blocks.
-/
import Derived.Test.YtaofindlomkbbaaDoorBlk
import Derived.Test.YtaofindlomkbbaaDoorTextM
import Derived.Test.YtaofindlomkbbaaDoorPlain
import Derived.Lib.BufSteps
import Derived.Lib.OthersKept
import Derived.OwnWalk
import Derived.BigFrame
import Derived.BigGuardPart
namespace Go.Proofs.YtaofindlomkbbaaDoor
open Go Go.RowKit
/-- A buffer of bytes that the call owns: it holds the text l; of what lay below B in W0 nothing has turned; of W1's blocks those that hold no bytes stand. -/
structure TB (B : Nat) (W0 W1 w : World) (v : Value) (l : List UInt8) : Prop where
  own : w.ownsRowF B 5 1 v l.length (Lib.byteCells l)
  low : Below B W0 w
  base : B ≤ w.heap.size
  rest : Lib.OthersKept 5 none W1 w
  more : W1.heap.size ≤ w.heap.size
section
variable {B : Nat} {W0 W1 W2 w w' : World} {v v' : Value} {l l' : List UInt8}
theorem TB.below (h : TB B W0 W1 w v l) (hb : Below w.heap.size w w') : TB B W0 W1 w' v l :=
  ⟨h.own.kept (row := none) ⟨hb.os, hb.tape, hb.output, hb.size, fun k hk _ => hb.block k hk⟩ (by cases hv : v.ownBlock <;> simp), h.low.trans ⟨hb.os, hb.tape, hb.output, hb.size, fun k hk => hb.block k (Nat.lt_of_lt_of_le hk h.base)⟩, Nat.le_trans h.base hb.size,
    fun k o hk hn ho => by have h1 := h.rest k o hk hn ho; rw [hb.block k (Array.getElem?_eq_some_iff.1 h1).1]; exact h1, Nat.le_trans h.more hb.size⟩
theorem TB.alloc (h : TB B W0 W1 w v l) (o : Obj) : TB B W0 W1 (w.alloc o) v l := h.below ((Below.refl _ _).alloc (Nat.le_refl _) o)
theorem TB.set (h : TB B W0 W1 w v l) {g : Nat} {t : TypeId} {cs : Array Value} (hg : Blk w g t cs) (hne : 5 ≠ t) (hB : B ≤ g) (hn : W1.heap.size ≤ g) (i : Nat) (u : Value) : TB B W0 W1 (w.setCell ⟨g, i, none⟩ u) v l := by
  have hs : (w.setCell ⟨g, i, none⟩ u).heap.size = w.heap.size := by simp [World.setCell]
  refine ⟨⟨h.own.1, ?_⟩, h.low.setCell hB u, by rw [hs]; exact h.base, fun k o hk hn' ho => ?_, by rw [hs]; exact h.more⟩
  · rcases h.own.2 with h2 | ⟨g', cap, cur, fz, hv, hb, hg', r⟩
    · exact .inl h2
    · refine .inr ⟨g', cap, cur, fz, hv, hb, ?_, r⟩
      rw [Below.heap_setCell _ _ _ _ (show g' ≠ g from fun e' => by
        subst e'
        unfold Blk at hg
        rw [hg'] at hg
        injection hg with hg
        injection hg with _ he
        exact hne he)]
      exact hg'
  · have h1 := h.rest k o hk hn' ho
    have hlt := (Array.getElem?_eq_some_iff.1 hk).1
    rw [Below.heap_setCell _ _ _ _ (show k ≠ g by omega)]
    exact h1
/-- Anew from here on. -/
theorem TB.anew (h : TB B W0 W1 w v l) : TB B W0 w w v l := ⟨h.own, h.low, h.base, Lib.OthersKept.refl _ _ _, Nat.le_refl _⟩
theorem TB.back (h : TB B W0 W1 w v l) (h' : TB B W0 w w' v' l') : TB B W0 W1 w' v' l' := ⟨h'.own, h'.low, h'.base, h.rest.trans h'.rest, Nat.le_trans h.more h'.more⟩
/-- Back past new blocks. -/
theorem TB.past (hb : Below W1.heap.size W1 W2) (h : TB B W0 W2 w v l) : TB B W0 W1 w v l := ⟨h.own, h.low, h.base, fun k o hk hn ho => h.rest k o ((hb.block k (Array.getElem?_eq_some_iff.1 hk).1).trans hk) hn ho, Nat.le_trans hb.size h.more⟩
theorem TB.blk (h : TB B W0 W1 w v l) {g : Nat} {t : TypeId} {cs : Array Value} (hg : Blk W1 g t cs) (hne : 5 ≠ t) : Blk w g t cs :=
  h.rest g _ hg (by simp) (fun c fz e => by injection e with _ e; exact hne e.symm)
/-- A new buffer out of a row of the call's own. -/
theorem TB.start (h : w.ownsRow B 5 1 v l.length (Lib.byteCells l)) (hb : Below B W0 w) (hB : B ≤ w.heap.size) : TB B W0 w w v l := ⟨World.ownsRowF_of h, hb, hB, Lib.OthersKept.refl _ _ _, Nat.le_refl _⟩
theorem TB.grown (h : TB B W0 W1 w v l) (ho : w'.ownsRowF B 5 1 v' l'.length (Lib.byteCells l')) (hg : w.grownBy w' v.ownBlock) : TB B W0 W1 w' v' l' :=
  ⟨ho, h.low.grown hg h.base (fun k hk => (h.own.lt k hk).1), Nat.le_trans h.base hg.size, h.rest.grown hg (Lib.ownsRowF_kind h.own), Nat.le_trans h.more hg.size⟩
theorem TB.slice (h : TB B W0 W1 w v l) : ∃ A c, v = .slice A l.length c := by
  rcases h.own.2 with ⟨hv, hz⟩ | ⟨g, cap, cur, fz, hv, _⟩
  · exact ⟨none, 0, by rw [hv, hz]⟩
  · exact ⟨_, _, hv⟩
theorem TB.rb {A : Option Addr} {c : Nat} (h : TB B W0 W1 w (.slice A l.length c) l) : RB w A l.length l := by
  refine ⟨rfl, fun hn => ?_⟩
  rcases h.own.2 with ⟨hv, hz⟩ | ⟨g, cap, cur, fz, hv, hb, hg, _⟩
  · omega
  · injection hv with hA
    subst hA
    refine ⟨g, 0, rfl, (Array.getElem?_eq_some_iff.1 hg).1, fun i hi => ?_⟩
    rw [← add_zero_off]
    exact h.own.cells rfl i _ (byteCells_get l i hi)
variable {ops : Array Oper} {rest : List Oper} {o : Oper} {a : Act} {Q : Exit → Act → World → Prop}
theorem bytes_snoc (l : List UInt8) (c : UInt8) : Lib.byteCells l ++ [.int .u8 (c.toNat : Int)] = Lib.byteCells (l ++ [c]) := by simp [Lib.byteCells]
/-- append(b, c), c a value of the program's. -/
theorem app_byte (i : TypeInfo) (hi : Tryd.prog.info? 5 = some i) (hz : i.zero = some (.int .u8 0)) (hsize : i.size = 1) (hby : i.bytes = 1) (hgd : o.guard = none) (s x : Operand)
    (ho : o.op = .call { callee := .builtin .append, args := #[s, x], argTypes := #[22, 22] }) (hs : a.eval s = v) (c : UInt8) (z : Int) (hcz : z = (c.toNat : Int)) (hb : TB B W0 W1 w v l)
    (hx : a.eval x = .slice (some ⟨w.heap.size, 0, none⟩) 1 1) (hlen : l.length + 1 ≤ 140737488355328)
    (h : ∀ v' w', TB B W0 W1 w' v' (l ++ [c]) → wpList Tryd.prog ops Q rest (a.put o.dst v') w') : wpList Tryd.prog ops Q (o :: rest) a (w.alloc (.cells #[.int .u8 z] 5)) := by
  subst hcz
  have hb' := hb.alloc (.cells #[.int .u8 (c.toNat : Int)] 5)
  refine wpList_append_ownF _ hgd s x 22 ho B 5 i (.int .u8 0) 1 1 Tryd.underlying22 hi hz hsize hby rfl (by decide) v _ _ hs hb'.own ⟨w.heap.size, 0, none⟩ 1 1 [.int .u8 (c.toNat : Int)] hx rfl ?_ ?_ (by unfold maxLen; omega) (by omega) hb'.base ?_
  · intro j u hj
    match j, hj with
    | 0, hj => simp at hj; subst hj; simp [Addr.add]
    | (j + 1), hj => simp at hj
  · intro u hu; simp at hu; subst hu; rfl
  · intro v' w' ho' hg _
    refine h v' w' (hb'.grown ?_ hg)
    rw [← bytes_snoc, List.length_append]
    exact ho'
/-- append(b, ':', ':') -/
theorem app_two (i : TypeInfo) (hi : Tryd.prog.info? 5 = some i) (hz : i.zero = some (.int .u8 0)) (hsize : i.size = 1) (hby : i.bytes = 1) (hgd : o.guard = none) (s x : Operand)
    (ho : o.op = .call { callee := .builtin .append, args := #[s, x], argTypes := #[22, 22] }) (hs : a.eval s = v) (c d : UInt8) (y z : Int) (hcy : y = (c.toNat : Int)) (hdz : z = (d.toNat : Int)) (hb : TB B W0 W1 w v l)
    (hx : a.eval x = .slice (some ⟨w.heap.size, 0, none⟩) 2 2) (hlen : l.length + 2 ≤ 140737488355328)
    (h : ∀ v' w', TB B W0 W1 w' v' (l ++ [c, d]) → wpList Tryd.prog ops Q rest (a.put o.dst v') w') : wpList Tryd.prog ops Q (o :: rest) a (w.alloc (.cells #[.int .u8 y, .int .u8 z] 5)) := by
  subst hcy hdz
  have hb' := hb.alloc (.cells #[.int .u8 (c.toNat : Int), .int .u8 (d.toNat : Int)] 5)
  refine wpList_append_ownF _ hgd s x 22 ho B 5 i (.int .u8 0) 1 1 Tryd.underlying22 hi hz hsize hby rfl (by decide) v _ _ hs hb'.own ⟨w.heap.size, 0, none⟩ 2 2 [.int .u8 (c.toNat : Int), .int .u8 (d.toNat : Int)] hx rfl ?_ ?_ (by unfold maxLen; omega) (by omega) hb'.base ?_
  · intro j u hj
    match j, hj with
    | 0, hj => simp at hj; subst hj; simp [Addr.add]
    | 1, hj => simp at hj; subst hj; rw [add_zero_off]; simp
    | (j + 2), hj => simp at hj
  · intro u hu; simp at hu; rcases hu with rfl | rfl <;> rfl
  · intro v' w' ho' hg _
    refine h v' w' (hb'.grown ?_ hg)
    rw [List.length_append, show Lib.byteCells (l ++ [c, d]) = Lib.byteCells l ++ [.int .u8 (c.toNat : Int), .int .u8 (d.toNat : Int)] by simp [Lib.byteCells]]
    exact ho'
/-- append(b, "..."...) -/
theorem app_text (i : TypeInfo) (hi : Tryd.prog.info? 5 = some i) (hz : i.zero = some (.int .u8 0)) (hsize : i.size = 1) (hby : i.bytes = 1) (hgd : o.guard = none) (s x : Operand)
    (ho : o.op = .call { callee := .builtin .append, args := #[s, x], argTypes := #[22, 9] }) (hs : a.eval s = v) (t : ByteArray) (hb : TB B W0 W1 w v l)
    (hx : a.eval x = .string t) (hlen : l.length + t.size ≤ 140737488355328)
    (h : ∀ v' w', TB B W0 W1 w' v' (l ++ t.data.toList) → wpList Tryd.prog ops Q rest (a.put o.dst v') w') : wpList Tryd.prog ops Q (o :: rest) a w := by
  refine Lib.wpList_append_own_stringF w hgd s x 22 9 ho B 5 i Tryd.underlying22 Tryd.underlying9 hi hz hsize hby v _ _ hs hb.own t hx (by unfold maxLen; omega) hlen hb.base ?_
  intro v' w' ho' hg _
  refine h v' w' (hb.grown ?_ hg)
  rw [List.length_append, show Lib.byteCells (l ++ t.data.toList) = Lib.byteCells l ++ Lib.strCells t by simp [Lib.byteCells, Lib.strCells], Array.length_toList]
  exact ho'
end
end Go.Proofs.YtaofindlomkbbaaDoor
