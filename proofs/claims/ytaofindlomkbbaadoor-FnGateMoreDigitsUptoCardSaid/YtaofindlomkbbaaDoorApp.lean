/-
  append(s, x) of one element onto a row of the call's own: the element lies in the block that was laid last.
-/
import Derived.Test.YtaofindlomkbbaaDoorMem
namespace Go.Proofs.YtaofindlomkbbaaDoor
open Go Go.RowKit
theorem append1 {P : Program} {w : World} {ops : Array Oper} {rest : List Oper} {o : Oper} {a : Act} {Q : Exit → Act → World → Prop} (hgd : o.guard = none) (s x : Operand) (t : TypeId)
    (ho : o.op = .call { callee := .builtin .append, args := #[s, x], argTypes := #[t, t] })
    (base : Nat) (e : TypeId) (i : TypeInfo) (z : Value) (size bytes : Nat) (ht : P.underlying t = some (.slice e)) (hi : P.info? e = some i) (hz : i.zero = some z)
    (hsize : i.size = size) (hby : i.bytes = bytes) (hzs : z.cells.size = size) (hsz : 0 < size)
    (v : Value) (n : Nat) (xs : List Value) (hs : a.eval s = v) (hown : w.ownsRow base e size v n xs)
    (b c : Nat) (cs : List Value) (hx : a.eval x = .slice (some ⟨b, 0, none⟩) 1 c) (hb : b = w.heap.size) (hcs : cs.length = size) (h1 : cs.all (fun u => u.oneCell') = true)
    (h63 : n + 1 ≤ maxLen) (hbytes : (n + 1) * bytes ≤ 140737488355328) (hbase : base ≤ w.heap.size)
    (h : ∀ v' w', w'.ownsRow base e size v' (n + 1) (xs ++ cs) → (w.alloc (.cells cs.toArray e)).grownBy w' v.ownBlock → wpList P ops Q rest (a.put o.dst v') w') : wpList P ops Q (o :: rest) a (w.alloc (.cells cs.toArray e)) := by
  refine wpList_append_own _ hgd s x t ho base e i z size bytes ht hi hz hsize hby hzs hsz v n xs hs (hown.alloc _) ⟨b, 0, none⟩ 1 c cs hx (by rw [hcs]; omega) ?_ ?_ h63 hbytes (by simp; omega) (fun v' w' h2 h3 _ => h v' w' h2 h3)
  · intro j u hj
    rw [add_zero_off, Nat.zero_add, hb, World.cell?_alloc_new]
    simpa using hj
  · intro u hu
    exact List.all_eq_true.1 h1 u hu
theorem own_slice {w : World} {base : Nat} {e : TypeId} {size n : Nat} {v : Value} {xs : List Value} (h : w.ownsRow base e size v n xs) : ∃ A c, v = .slice A n c := by
  rcases h.2 with ⟨hv, hz⟩ | ⟨g, cap, cur, hv, _⟩
  · exact ⟨none, 0, by rw [hv, hz]⟩
  · exact ⟨_, _, hv⟩
theorem own_some {w : World} {base : Nat} {e : TypeId} {size n c : Nat} {A : Option Addr} {xs : List Value} (h : w.ownsRow base e size (.slice A n c) n xs) (hn : 0 < n) : ∃ g, A = some ⟨g, 0, none⟩ ∧ g < w.heap.size ∧ ∀ i u, xs[i]? = some u → w.cell? ⟨g, i, none⟩ = some u := by
  rcases h.2 with ⟨hv, hz⟩ | ⟨g, cap, cur, hv, hb, hg, _⟩
  · omega
  · injection hv with hA
    subst hA
    refine ⟨g, rfl, (Array.getElem?_eq_some_iff.1 hg).1, fun i u hi => ?_⟩
    have := h.cells rfl i u hi
    rw [add_zero_off, Nat.zero_add] at this
    exact this
end Go.Proofs.YtaofindlomkbbaaDoor
