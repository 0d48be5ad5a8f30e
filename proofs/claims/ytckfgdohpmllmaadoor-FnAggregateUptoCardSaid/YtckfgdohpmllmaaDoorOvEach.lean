/-
  Contracts of impl.OverlapsEach and laws.overlaps.
-/
import Derived.Test.YtckfgdohpmllmaaDoorOver2
namespace Go.Proofs.YtckfgdohpmllmaaDoor
open Go Go.RowKit
def ovs (p : List UInt8) (k : Nat) (ps : List (List UInt8 × Nat)) : List Bool := ps.map fun q => ovP p k q.1 q.2
def boolCells (l : List Bool) : List Value := l.map Value.bool
theorem ovs_take (p : List UInt8) (k : Nat) (es : List Pf) (i : Nat) (e : Pf) (h : es[i]? = some e) : boolCells (ovs p k ((es.map Pf.is).take (i + 1))) = boolCells (ovs p k ((es.map Pf.is).take i)) ++ [.bool (ovP p k e.bs e.k)] := by
  rw [List.take_add_one, List.getElem?_map, h]
  simp [ovs, boolCells, Pf.is]
/-- What OverlapsEach hands back. -/
def OvPost (w : World) (n : Nat) (l : List Bool) (e : Ending) (w' : World) : Prop :=
  ∃ A' c', e = .returned (.slice A' n c') ∧ w'.ownsRow w.heap.size 4 1 (.slice A' n c') n (boolCells l) ∧ Below w.heap.size w w'
set_option maxRecDepth 100000 in
theorem ovEach_none (A0 : Option Addr) (n0 c0 : Nat) (k : Int) (A : Option Addr) (c : Nat) (w : World) :
    Calls Tryd.prog 27 #[.agg #[.slice A0 n0 c0, .string ⟨#[]⟩, .int .i64 k], .slice A 0 c] w (OvPost w 0 []) := by
  go_enter Tryd.func27, Tryd.ntmps27
  go_wp2_with fail
  refine wp_loop_rounds 1 ?_
  rw [rounds_succ]
  go_wp2
  go_returns
  exact ⟨_, _, rfl, World.ownsRow_nil _ _ _ _, by go_grown⟩
set_option maxRecDepth 100000 in
set_option maxHeartbeats 8000000 in
theorem ovEach_some (A0 : Option Addr) (n0 c0 : Nat) (ps : List UInt8) (k0 : Nat) (g o : Nat) (n c : Nat) (es : List Pf) (z : ZP) (w : World) (hz : Zs w z) (hr : RB w A0 n0 ps) (hl0 : isLen ps.length) (hk0 : k0 ≤ 8 * ps.length) (hl : RP w (some ⟨g, o, none⟩) n es) (hv : ∀ e ∈ es, Vp e.is) (hn : n ≤ 1099511627776) :
    Calls Tryd.prog 27 #[.agg #[.slice A0 n0 c0, .string ⟨#[]⟩, .int .i64 k0], .slice (some ⟨g, o, none⟩) n c] w (OvPost w n (ovs ps k0 (es.map Pf.is))) := by
  obtain ⟨i0, hi, hz0, hz1, hz2⟩ := info_parts infoBool
  go_enter Tryd.func27, Tryd.ntmps27
  go_wp2_with fail
  go_loopw [5, 10] (fun v i wr => ∃ k : Nat, k ≤ n ∧ i = .int .i64 k ∧ wr.ownsRow (w.heap.size + 1) 4 1 v k (boolCells (ovs ps k0 ((es.map Pf.is).take k))) ∧ Boxes w [#[.slice A0 n0 c0, .string ⟨#[]⟩, .int .i64 k0]] wr) (fun _ i _ => n - (intOf i).toNat)
  case atStart => exact ⟨0, Nat.zero_le _, rfl, World.ownsRow_nil _ _ _ _, boxes1 _ _⟩
  case round =>
    obtain ⟨k, hk, rfl, hown, hbx⟩ := hrel
    by_cases hlt : k < n
    · obtain ⟨g', o', e, hA, hg, hek, hc0, hc1, hc2, hb⟩ := (hl.keep hbx.below).at hlt
      injection hA with hA
      injection hA with hA1 hA2
      subst hA1 hA2
      have hve := hv e (List.mem_of_getElem? hek)
      have HO := Lib.hid hown
      have HE := Lib.hid hek
      have HR := Lib.hid (own_row_ge hown)
      clear hown hek
      go_wp2_with fail
      refine region_mtail (Boxes wr [#[.slice e.a e.n e.c, .string ⟨#[]⟩, .int .i64 e.k]]) 5 (by kernel_rfl) (by kernel_rfl) ((boxes1 _ _).drew) ?_ (fun _ _ _ h => h) (Or.inl ⟨rfl, fun w1 => ?_⟩) ?_
      rotate_left
      (go_simp; with_reducible rfl)
      simp only [List.take_succ_cons, List.take_zero, List.drop_succ_cons, List.drop_zero, Act.put, List.setIfInBounds_toArray, List.set_cons_zero, List.set_cons_succ]
      repeat (first | (refine quiet_skip rfl ?_; (simp only [Act.put, List.setIfInBounds_toArray, List.set_cons_zero, List.set_cons_succ])) | (refine quiet_run ?_ rfl (fun w1 hw1 => ?_) ?_; rotate_left; (have r0 := hw1.b0; have r1 := (hbx.keep hw1.below).b0; go_simp; try (with_reducible rfl)); (simp only [Act.put, List.setIfInBounds_toArray, List.set_cons_zero, List.set_cons_succ])) | (refine quiet_call ?_ ?_ ?_ rfl (fun w1 hw1 => ?_) (fun w1 hw1 => ?_) ?_; rotate_left 3; (have r0 := hw1.b0; have r1 := (hbx.keep hw1.below).b0; go_simp; refine ⟨?_, ?_⟩ <;> with_reducible rfl); (first | (go_at_call 46; (with_reducible refine (prefix_c A0 n0 c0 ps k0 z w1 (hz.keep (hbx.keep hw1.below).below) (hr.keep (hbx.keep hw1.below).below) hl0 hk0).mono ?_); rintro e w2 ⟨rfl, hb⟩; refine ⟨?_, hw1.keep hb⟩; with_reducible rfl) | (go_at_call 46; (with_reducible refine (prefix_c e.a e.n e.c e.bs e.k z w1 (hz.keep (hbx.keep hw1.below).below) (hb.keep hw1.below) hve.1 hve.2).mono ?_); rintro e w2 ⟨rfl, hb⟩; refine ⟨?_, hw1.keep hb⟩; with_reducible rfl) | (go_at_call 47; (with_reducible refine (pfOverlaps_c ps e.bs k0 e.k z w1 (hz.keep (hbx.keep hw1.below).below) hl0 hk0 hve.1 hve.2).mono ?_); rintro e w2 ⟨rfl, hb⟩; refine ⟨?_, hw1.keep hb⟩; with_reducible rfl) | (go_at_call 46; (refine (prefix_c A0 n0 c0 ps k0 z w1 (hz.keep (hbx.keep hw1.below).below) (hr.keep (hbx.keep hw1.below).below) hl0 hk0).mono ?_); rintro e w2 ⟨rfl, hb⟩; refine ⟨?_, hw1.keep hb⟩; with_reducible rfl) | (go_at_call 46; (refine (prefix_c e.a e.n e.c e.bs e.k z w1 (hz.keep (hbx.keep hw1.below).below) (hb.keep hw1.below) hve.1 hve.2).mono ?_); rintro e w2 ⟨rfl, hb⟩; refine ⟨?_, hw1.keep hb⟩; with_reducible rfl) | (go_at_call 47; (refine (pfOverlaps_c ps e.bs k0 e.k z w1 (hz.keep (hbx.keep hw1.below).below) hl0 hk0 hve.1 hve.2).mono ?_); rintro e w2 ⟨rfl, hb⟩; refine ⟨?_, hw1.keep hb⟩; with_reducible rfl)); (simp only [Act.put, List.setIfInBounds_toArray, List.set_cons_zero, List.set_cons_succ])))
      refine wpQuiet_nil ?_
      intro w1 hw1
      have hown1 := own_below HO.out hw1.below
      have hbx1 := hbx.keep hw1.below
      have hs1 := hbx1.size
      clear hbx
      go_wp2_with ((at_builtin; refine append1 rfl _ _ 45 rfl (w.heap.size + 1) 4 i0 (.bool false) 1 1 Tryd.underlying45 hi hz0 hz1 hz2 rfl (by decide) _ _ _ rfl (hown1) _ _ [.bool (ovP ps k0 e.bs e.k)] rfl (by simp) rfl rfl (by unfold maxLen; omega) (by omega) (by first | omega | (simp; omega)) ?_))
      intro v' w2 hown2 hgrow
      have hbx2 := (hbx1.alloc _).grown hgrow (by simp; exact HR.out)
      rw [← ovs_take ps k0 es k e HE.out] at hown2
      have HO2 := Lib.hid hown2
      clear hown1 hown2 hbx1 hgrow hw1
      go_wp2
      go_roundw
      case rel => exact ⟨k + 1, by omega, by go_num, HO2.out, hbx2⟩
      case measure => simp [intOf]; omega
    · have hkn : k = n := by omega
      subst hkn
      have hb := hbx.below
      have HO := Lib.hid hown
      clear hown
      go_wp2
      go_returns
      obtain ⟨A', c', rfl⟩ := own_slice HO.out
      refine ⟨A', c', rfl, ?_, hb⟩
      have := HO.out
      rw [List.take_of_length_le (by rw [List.length_map, hl.1]; omega)] at this
      exact own_mono this (by omega)
theorem ovEach_c (A0 : Option Addr) (n0 c0 : Nat) (ps : List UInt8) (k0 : Nat) (A : Option Addr) (n c : Nat) (es : List Pf) (z : ZP) (w : World) (hz : Zs w z) (hr : RB w A0 n0 ps) (hl0 : isLen ps.length) (hk0 : k0 ≤ 8 * ps.length) (hl : RP w A n es) (hv : ∀ e ∈ es, Vp e.is) (hn : n ≤ 1099511627776) :
    Calls Tryd.prog 27 #[.agg #[.slice A0 n0 c0, .string ⟨#[]⟩, .int .i64 k0], .slice A n c] w (OvPost w n (ovs ps k0 (es.map Pf.is))) := by
  by_cases h0 : n = 0
  · subst h0
    obtain rfl : es = [] := List.eq_nil_of_length_eq_zero hl.1
    exact ovEach_none A0 n0 c0 k0 A c w
  · obtain ⟨g, o, rfl, _⟩ := hl.2.1 (by rw [pfCells_len, hl.1]; omega)
    exact ovEach_some A0 n0 c0 ps k0 g o n c es z w hz hr hl0 hk0 hl hv hn
set_option maxRecDepth 100000 in
set_option maxHeartbeats 4000000 in
theorem overlaps_c (A B : Option Addr) (n m c d : Nat) (ps qs : List UInt8) (k j : Nat) (z : ZP) (w : World) (hz : Zs w z) (h1 : RB w A n ps) (h2 : RB w B m qs) (hl : isLen ps.length) (hk : k ≤ 8 * ps.length) (hl' : isLen qs.length) (hj : j ≤ 8 * qs.length) :
    Calls Tryd.prog 29 #[.agg #[.slice A n c, .string ⟨#[]⟩, .int .i64 k], .agg #[.slice B m d, .string ⟨#[]⟩, .int .i64 j]] w fun e w' => e = .returned (.bool (ovP ps k qs j)) ∧ Below w.heap.size w w' := by
  go_enter Tryd.func29, Tryd.ntmps29
  go_wp2_with fail
  have hbx := boxes3 (x0 := #[.slice A n c, .string ⟨#[]⟩, .int .i64 k]) (x1 := #[.slice B m d, .string ⟨#[]⟩, .int .i64 j]) (x2 := #[.slice B m d, .string ⟨#[]⟩, .int .i64 j]) w 29 29 29
  have hrp : RP (((w.alloc (.cells #[.slice A n c, .string ⟨#[]⟩, .int .i64 k] 29)).alloc (.cells #[.slice B m d, .string ⟨#[]⟩, .int .i64 j] 29)).alloc (.cells #[.slice B m d, .string ⟨#[]⟩, .int .i64 j] 29)) (some ⟨w.heap.size + 1 + 1, 0, none⟩) 1 [⟨B, m, d, qs, j⟩] := by
    refine ⟨rfl, fun _ => ⟨_, _, rfl, by simp, fun i u hi => ?_⟩, fun e he => ?_⟩
    · rw [hbx.b2]
      match i, hi with
      | 0, hi => simpa [pfCells, Pf.cells] using hi
      | 1, hi => simpa [pfCells, Pf.cells] using hi
      | 2, hi => simpa [pfCells, Pf.cells] using hi
    · simp at he; subst he; exact h2.keep hbx.below
  refine (ovEach_c A n c ps k _ 1 1 [⟨B, m, d, qs, j⟩] z _ (hz.keep hbx.below) (h1.keep hbx.below) hl hk hrp (fun e he => by simp at he; subst he; exact ⟨hl', hj⟩) (by omega)).mono ?_
  rintro e w1 ⟨A', c', rfl, hown, hb⟩
  obtain ⟨g, hA, hg, hc⟩ := own_some hown (by omega)
  subst hA
  have hc0 := hc 0 (.bool (ovP ps k qs j)) rfl
  have hbb := (hbx.keep hb).below
  clear hown hc hrp hbx hb
  go_wp2
  go_returns
  exact ⟨rfl, hbb⟩
end Go.Proofs.YtckfgdohpmllmaaDoor
