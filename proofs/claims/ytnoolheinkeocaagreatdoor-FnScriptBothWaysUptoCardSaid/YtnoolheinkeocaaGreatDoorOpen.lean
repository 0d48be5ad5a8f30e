/-
  Arguments of a law under the bound of its second form: lists of slices of bytes.
-/
import Derived.Test.YtnoolheinkeocaaGreatDoorFrame
namespace Go.Proofs.YtnoolheinkeocaaGreatDoor
open Go Go.RowKit Go.ChangeShapes Go.WideShapes Go.ChangeAt Go.Deep
def TrueEnd (w : World) (e : Ending) (w' : World) : Prop := e = .returned (.bool true) ∧ Below w.heap.size w w'
theorem bulk_one {H : Type} (d : DataW H) : 1 ≤ Rows.uptoBulk d := by
  cases d with
  | lit l => cases l <;> simp [Rows.uptoBulk]
  | nil => simp [Rows.uptoBulk]
  | ptr d => simp [Rows.uptoBulk]
  | slice elems spare => simp [Rows.uptoBulk]
  | agg parts => simp [Rows.uptoBulk]
  | iface t d => simp [Rows.uptoBulk]
  | map entries => simp [Rows.uptoBulk]
  | held h => simp [Rows.uptoBulk]
theorem bulk_len {H : Type} (l : List (DataW H)) : l.length ≤ Rows.uptoBulkAll l := by
  induction l with
  | nil => simp
  | cons x r ih => have := bulk_one x; simp only [Rows.uptoBulkAll, List.length_cons]; omega
theorem bulk_mem {H : Type} {d : DataW H} {l : List (DataW H)} (h : d ∈ l) : Rows.uptoBulk d ≤ Rows.uptoBulkAll l := by
  induction l with
  | nil => cases h
  | cons x r ih =>
    simp only [Rows.uptoBulkAll]
    rcases List.mem_cons.1 h with rfl | e
    · omega
    · have := ih e; omega
theorem bulk_all {H : Type} {l : List (DataW H)} (hk : Rows.uptoSmall H l = true) : Rows.uptoBulkAll l ≤ 1048576 := of_decide_eq_true hk
section
variable {H : Type} {enc : TypeId × Value → H} {W : World} {base : Nat}
set_option maxRecDepth 100000 in
theorem open_bytes {v : Value} {d : DataW H} {p : List MemPlace} (hv : Value.okWide Tryz.prog W .any base 23 v) (h : DataW.Trod enc Tryz.prog W 0 (fun _ => true) true 23 v d p) :
    ∃ A n c bs, v = .slice A n c ∧ RB W A n bs ∧ (A = none → n = 0 ∧ c = 0) ∧ n + 1 ≤ Rows.uptoBulk d := by
  obtain ⟨a0, len, cap, rfl⟩ := okWide_slice Tryz.underlying23 hv
  obtain ⟨fuel, hf⟩ := h
  rcases open_ints Tryz.underlying23 Tryz.underlying5 cells8 hf with ⟨hcs, hx⟩ | ⟨a, len', cap', zs, hcs, _, hl, hm, hz, hx, hcell, hwz⟩
  · simp [Value.cells] at hcs
    obtain ⟨rfl, rfl, rfl⟩ := hcs
    simp only [Prod.mk.injEq] at hx
    rw [hx.1]
    exact ⟨none, 0, 0, [], rfl, RB.nil _ _, fun _ => ⟨rfl, rfl⟩, by simp [Rows.uptoBulk]⟩
  · simp [Value.cells] at hcs
    obtain ⟨rfl, rfl, rfl⟩ := hcs
    simp only [if_true] at hz
    refine ⟨some a, len, cap, _, rfl, rb_of (C := cap) (Z := zs) hl hz hwz (by simp) (fun a' ha c hc => ?_), by simp, ?_⟩
    · cases ha
      exact hcell c (by omega)
    · simp only [Prod.mk.injEq] at hx
      rw [hx.1]
      have h1 := bulk_len (H := H) (lits .u8 (zs.take len))
      have h2 : (lits (H := H) .u8 (zs.take len)).length = len := by simp [lits]; omega
      simp only [Rows.uptoBulk]
      omega
set_option maxRecDepth 100000 in
theorem open_bss {v : Value} {d : DataW H} {p : List MemPlace} (hv : Value.okWide Tryz.prog W .any base 22 v) (h : DataW.Trod enc Tryz.prog W 0 (fun _ => true) true 22 v d p) (hk : Rows.uptoBulk d ≤ 1048576) :
    ∃ A n c es, v = .slice A n c ∧ RS W A n es ∧ n ≤ 1048576 := by
  obtain ⟨a0, len, cap, rfl⟩ := okWide_slice Tryz.underlying22 hv
  obtain ⟨fuel, hf⟩ := h
  rcases open_int_rows Tryz.underlying22 Tryz.underlying23 Tryz.underlying5 cellsB cells8 hf with ⟨hcs, hx⟩ | ⟨a, len', cap', A, L, C, Z, hcs, _, hl, hm, hx, hrows⟩
  · simp [Value.cells] at hcs
    obtain ⟨rfl, rfl, rfl⟩ := hcs
    exact ⟨none, 0, 0, [], rfl, ⟨rfl, fun h => by simp at h, by simp⟩, by omega⟩
  · simp [Value.cells] at hcs
    obtain ⟨rfl, rfl, rfl⟩ := hcs
    simp only [Prod.mk.injEq] at hx
    rw [hx.1] at hk
    simp only [Rows.uptoBulk] at hk
    have hlen := bulk_len (H := H) ((List.range len).map fun r => intRow .u8 (A r) (L r) (Z r))
    rw [List.length_map, List.length_range] at hlen
    refine ⟨some a, len, cap, (List.range len).map fun r => ⟨A r, L r, C r, ((Z r).take (L r)).map toB⟩, rfl, ⟨by simp, fun hn => ?_, fun e he => ?_⟩, by omega⟩
    · have hn' : 0 < len := by simpa using hn
      have h0 := (hrows 0 (by omega)).1
      have hs : a.spot = none := spot_of (a := a) (by simpa [Addr.add] using h0)
      obtain ⟨g, o, s⟩ := a
      simp at hs
      subst hs
      refine ⟨g, o, rfl, World.block_lt_of_cell? W _ (by simpa [Addr.add] using h0), fun i u hi => ?_⟩
      have hil : i < len := by
        rcases Nat.lt_or_ge i len with h | h
        · exact h
        · simp [h] at hi
      have h1 := (hrows i (by omega)).1
      rw [add_none] at h1
      rw [h1, ← hi]
      simp [hil]
    · obtain ⟨r, hr, rfl⟩ := List.mem_map.1 he
      have hr' : r < len := List.mem_range.1 hr
      obtain ⟨h1, h2, h3, h4, h5, h6, h7⟩ := hrows r (by omega)
      refine ⟨rb_of h2 h4 h5 h6 (fun a' ha => (h7 a' ha).2), fun hn => ?_, ?_⟩
      · have := h6 hn
        exact ⟨by show L r = 0; omega, this⟩
      · have hm := bulk_mem (H := H) (List.mem_map.2 ⟨r, hr, rfl⟩ : intRow .u8 (A r) (L r) (Z r) ∈ (List.range len).map fun r => intRow .u8 (A r) (L r) (Z r))
        have hm' : Rows.uptoBulk (H := H) (intRow .u8 (A r) (L r) (Z r)) ≤ 1048576 := by omega
        clear hm
        show L r ≤ 140737488355328
        cases hA : A r with
        | none => have := h6 hA; omega
        | some a' =>
          rw [hA] at hm'
          simp only [intRow, Rows.uptoBulk] at hm'
          have hl2 := bulk_len (H := H) (lits .u8 ((Z r).take (L r)))
          have hl3 : (lits (H := H) .u8 ((Z r).take (L r))).length = L r := by simp [lits]; omega
          omega
end
end Go.Proofs.YtnoolheinkeocaaGreatDoor
