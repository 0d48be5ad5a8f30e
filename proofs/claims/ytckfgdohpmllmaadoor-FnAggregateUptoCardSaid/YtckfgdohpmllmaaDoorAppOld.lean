/-
  append onto a row of the call's own: the old slice, too, reads afterwards as it did; and an append as an operation that leaves a value.
-/
import Derived.Test.YtckfgdohpmllmaaDoorApp
import Derived.Test.YtckfgdohpmllmaaDoorRegion3
namespace Go.Proofs.YtckfgdohpmllmaaDoor
open Go Go.RowKit
section
variable {P : Program} {w : World}
theorem append_old (base : Nat) (t ty e : TypeId) (i : TypeInfo) (z : Value) (size bytes : Nat) (ht : P.underlying t = some (.slice e)) (hi : P.info? e = some i) (hz : i.zero = some z)
    (hsize : i.size = size) (hby : i.bytes = bytes) (hzs : z.cells.size = size) (hsz : 0 < size)
    (v : Value) (n : Nat) (xs : List Value) (hown : w.ownsRow base e size v n xs)
    (a : Addr) (m c : Nat) (news : List Value) (hl : news.length = m * size) (hnews : ∀ j u, news[j]? = some u → w.cell? (a.add j) = some u) (h1 : ∀ u ∈ news, u.oneCell' = true)
    (h63 : n + m ≤ maxLen) (hbytes : (n + m) * bytes ≤ 140737488355328) (hbase : base ≤ w.heap.size) :
    ∃ v' w', (Builtin.append_ #[t, t] ty #[v, .slice (some a) m c]).run P w = .ok v' w' ∧ w'.ownsRow base e size v' (n + m) (xs ++ news) ∧ w.grownBy w' v.ownBlock ∧ w'.ownsRow base e size v n xs := by
  obtain ⟨v', w', hr, h2, h3, -⟩ := run_append_own (P := P) w base t ty e i z size bytes ht hi hz hsize hby hzs hsz v n xs hown a m c news hl hnews h1 h63 hbytes hbase
  refine ⟨v', w', hr, h2, h3, ?_⟩
  subst hsize
  subst hby
  rcases hown.2 with hnil | ⟨g, cap, cur, rfl, hbg, hg, hnc, hcm, hcs, htake⟩
  · exact ⟨hown.1, .inl hnil⟩
  · by_cases hroom : n + m ≤ cap
    · have hfit : n * i.size + news.length ≤ cur.size := by rw [hl, hcs, ← Nat.add_mul]; exact Nat.mul_le_mul_right _ hroom
      have hr2 := run_append_room (P := P) w t ty e i ht hi g n cap cur hg a m c news hl hnews h1 hroom hfit
      rw [hr] at hr2
      injection hr2 with e1 e2
      subst e2
      refine ⟨hown.1, .inr ⟨g, cap, _, rfl, hbg, setRow_heap w g cur _ e _ hg, hnc, hcm, ?_, ?_⟩⟩
      · simp only [List.size_toArray, List.length_append, List.length_take, List.length_drop, Array.length_toList]
        omega
      · have hxl := hown.1
        rw [htake]
        show (xs ++ news ++ _).take _ = xs
        rw [← hxl, List.append_assoc]
        exact List.take_left
    · have holds : ∀ j u, xs[j]? = some u → w.cell? ((⟨g, 0, none⟩ : Addr).add j) = some u := hown.cells (g := g) rfl
      have hsm : n + m ≤ 9223372036854775807 := by simp only [maxLen] at h63; omega
      have hr2 := run_append_grow (P := P) w t ty e i z ht hi hz ⟨g, 0, none⟩ n cap xs hown.1 holds a m c news hl hnews (by omega) (by omega) (growslice_fits (by omega) hbytes)
      rw [hr] at hr2
      injection hr2 with e1 e2
      subst e2
      have hlt : g < w.heap.size := (Array.getElem?_eq_some_iff.1 hg).1
      exact ⟨hown.1, .inr ⟨g, cap, cur, rfl, hbg, (heap_alloc_old w.drew _ hlt).trans hg, hnc, hcm, hcs, htake⟩⟩
/-- The operation 'append' itself. -/
theorem append_op {o : Oper} {a : Act} {v' : Value} {w' : World} (s x : Operand) (t : TypeId) (ho : o.op = .call { callee := .builtin .append, args := #[s, x], argTypes := #[t, t] })
    (hr : (Builtin.append_ #[t, t] o.type #[a.eval s, a.eval x]).run P w = .ok v' w') : (execOp a.eval o).run P w = .ok (.value v') w' := by
  unfold execOp
  simp only [ho, resolve, invoke, builtin, Sem.run_bind, Sem.run_pure, Result.andThen_ok, List.map_toArray, List.map_cons, List.map_nil, hr]
end
end Go.Proofs.YtckfgdohpmllmaaDoor
