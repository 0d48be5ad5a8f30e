/-
  A copy of a slice of bytes as a buffer of the call's own.
-/
import Derived.Test.YtnoolheinkeocaaGreatDoorBuf
namespace Go.Proofs.YtnoolheinkeocaaGreatDoor
open Go Go.RowKit
section
variable {B : Nat} {W0 w : World} {l : List UInt8} {ops : Array Oper} {rest : List Oper} {o : Oper} {a : Act} {Q : Exit → Act → World → Prop}
set_option maxRecDepth 100000 in
/-- append([]byte(nil), b...) -/
theorem app_copy (i : TypeInfo) (hi : Tryz.prog.info? 5 = some i) (hz : i.zero = some (.int .u8 0)) (hsize : i.size = 1) (hby : i.bytes = 1) (hgd : o.guard = none) (s x : Operand)
    (ho : o.op = .call { callee := .builtin .append, args := #[s, x], argTypes := #[23, 23] }) (hs : a.eval s = .slice none 0 0) (A : Option Addr) (n c : Nat) (hr : RB w A n l) (hA : A = none → n = 0 ∧ c = 0) (hn : n ≤ 140737488355328)
    (hx : a.eval x = .slice A n c) (hB : B ≤ w.heap.size) (hl : Below B W0 w)
    (h : ∀ v' w', TB B W0 w w' v' l → wpList Tryz.prog ops Q rest (a.put o.dst v') w') : wpList Tryz.prog ops Q (o :: rest) a w := by
  have hlen := hr.1
  have hbl := byteCells_len l
  rcases A with _ | a0
  · obtain ⟨rfl, rfl⟩ := hA rfl
    obtain rfl : l = [] := List.eq_nil_of_length_eq_zero hlen
    exact wpList_append_own_none hgd s x 23 ho B 5 i 1 Tryz.underlying23 hi (.slice none 0 0) 0 [] hs (World.ownsRow_nil _ _ _ _) hx (h _ _ (TB.start (World.ownsRow_nil _ _ _ _) hl hB))
  · refine wpList_append_own w hgd s x 23 ho B 5 i (.int .u8 0) 1 1 Tryz.underlying23 hi hz hsize hby rfl (by decide) (.slice none 0 0) 0 [] hs (World.ownsRow_nil _ _ _ _) a0 n c (Lib.byteCells l) hx (by omega) ?_ ?_ (by unfold maxLen; omega) (by omega) hB ?_
    · intro j u hj
      have hj' : j < l.length := by have := (List.getElem?_eq_some_iff.1 hj).1; omega
      obtain ⟨g, o, e, hg, hc⟩ := hr.2 (by omega)
      injection e with e
      subst e
      rw [byteCells_get l j hj'] at hj
      injection hj with hj
      subst hj
      have ha : (⟨g, o, none⟩ : Addr).add j = ⟨g, o + j, none⟩ := by unfold Addr.add; split <;> simp_all
      rw [ha]
      exact hc j (by omega)
    · intro u hu; simp [Lib.byteCells] at hu; obtain ⟨b, _, rfl⟩ := hu; rfl
    · intro v' w' ho' hg _
      have ho2 : w'.ownsRow B 5 1 v' l.length (Lib.byteCells l) := by
        rw [hlen]; rw [Nat.zero_add, List.nil_append] at ho'; exact ho'
      have h0 : TB B W0 w w (.slice none 0 0) [] := TB.start (World.ownsRow_nil w B 5 1) hl hB
      exact h v' w' (h0.grown (World.ownsRowF_of ho2) hg)
end
end Go.Proofs.YtnoolheinkeocaaGreatDoor
