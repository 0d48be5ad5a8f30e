/-
  Contract of laws.plain.
-/
import Derived.Test.YtaofindlomkbbaaDoorMem
namespace Go.Proofs.YtaofindlomkbbaaDoor
open Go Go.RowKit
theorem infoU8 : (Tryd.prog.info? 5).map (fun i => (i.zero, i.size, i.bytes)) = some (some (.int .u8 0), 1, 1) := by kernel_rfl
/-- What plain hands back: a new row with the same bytes, and no zone. -/
def PlainPost (w : World) (n : Nat) (bs : List UInt8) (e : Ending) (w' : World) : Prop :=
  ∃ A' c', e = .returned (.agg #[.slice A' n c', .string ⟨#[]⟩]) ∧ w'.ownsRow w.heap.size 5 1 (.slice A' n c') n (Lib.byteCells bs) ∧ Below w.heap.size w w'
set_option maxRecDepth 100000 in
theorem plain_c (A : Option Addr) (n c : Nat) (bs : List UInt8) (w : World) (hr : RB w A n bs) (hA : A = none → n = 0 ∧ c = 0) (hn : n ≤ 140737488355328) :
    Calls Tryd.prog 9 #[.slice A n c] w (PlainPost w n bs) := by
  obtain ⟨i0, hi, hz0, hz1, hz2⟩ := info_parts infoU8
  have hlen := hr.1
  have hbl := byteCells_len bs
  rcases A with _ | a0
  · obtain ⟨rfl, rfl⟩ := hA rfl
    obtain rfl : bs = [] := List.eq_nil_of_length_eq_zero hlen
    clear hlen hbl hA
    go_enter Tryd.func9, Tryd.ntmps9
    go_wp2_with (at_builtin; refine wpList_append_own_none rfl _ _ 22 rfl (w.heap.size + 1) 5 i0 1 Tryd.underlying22 hi _ _ [] rfl (World.ownsRow_nil _ _ _ _) rfl ?_)
    refine bodyPost_ret (v := .agg #[.slice none 0 0, .string ⟨#[]⟩]) (by simp [results, Tryd.results9, go_sem]) rfl ?_
    exact ⟨none, 0, rfl, World.ownsRow_nil _ _ _ _, by go_grown⟩
  · have hnews : ∀ (o1 : Obj) (j : Nat) (u : Value), (Lib.byteCells bs)[j]? = some u → (w.alloc o1).cell? (a0.add j) = some u := by
      intro o1 j u hj
      have hj' : j < bs.length := by have := (List.getElem?_eq_some_iff.1 hj).1; omega
      obtain ⟨g, o, e, hg, hc⟩ := hr.2 (by omega)
      injection e with e
      subst e
      rw [byteCells_get bs j hj'] at hj
      injection hj with hj
      subst hj
      have ha : (⟨g, o, none⟩ : Addr).add j = ⟨g, o + j, none⟩ := by unfold Addr.add; split <;> simp_all
      rw [ha, World.cell?_alloc_lt _ _ _ (by exact hg)]
      exact hc j (by omega)
    have HN := Lib.hid hnews
    clear hnews hr hA
    go_enter Tryd.func9, Tryd.ntmps9
    go_wp2_with (at_builtin; refine wpList_append_own _ rfl _ _ 22 rfl (w.heap.size + 1) 5 i0 (.int .u8 0) 1 1 Tryd.underlying22 hi hz0 hz1 hz2 rfl (by decide) _ 0 [] rfl (World.ownsRow_nil _ _ _ _) a0 n c (Lib.byteCells bs) rfl ?c0 ?c1 ?c2 ?c3 ?c4 ?c5 ?_)
    case c0 => omega
    case c1 => exact HN.out _
    case c2 => intro u hu; simp [Lib.byteCells] at hu; obtain ⟨b, _, rfl⟩ := hu; rfl
    case c3 => unfold maxLen; omega
    case c4 => omega
    case c5 => simp
    intro v' w1 hown hgrow _
    have hx : Boxes w [#[.slice none 0 0, .string ⟨#[]⟩]] w1 := (boxes1 _ _).grown hgrow (by intro g hg; cases hg)
    have hb := hx.below
    have r0 := hx.b0
    have f0 := hx.f0
    have hv : ∃ A' c', v' = .slice A' n c' := by
      rcases hown.2 with ⟨hv, hz⟩ | ⟨g, cap, cur, hv, _⟩
      · exact ⟨none, 0, by rw [hv]; congr 1; omega⟩
      · exact ⟨_, _, hv⟩
    obtain ⟨A', c', hv⟩ := hv
    rw [hv] at hown ⊢
    have H := Lib.hid hown
    clear hown hgrow
    go_wp2
    refine bodyPost_ret (v := .agg #[.slice A' n c', .string ⟨#[]⟩]) (by simp [results, Tryd.results9, go_sem, r0]) rfl ?_
    refine ⟨A', c', rfl, ?_, by go_grown⟩
    exact own_mono (ownsRow_setCell_below (ownsRow_setCell_below H.out (by show w.heap.size < _; omega) _) (by show w.heap.size < _; omega) _) (by omega)
end Go.Proofs.YtaofindlomkbbaaDoor
