/-
  A list of slices of bytes under the reach of the form (the first form of the statement).
-/
import Derived.Test.YtocckokbdacdfaaDoorOpenW
namespace Go.Proofs.YtocckokbdacdfaaDoor
open Go Go.RowKit Go.ChangeShapes Go.WideShapes Go.ChangeAt Go.Deep
theorem bytesB : (Tryd.prog).bytesOf 26 = 24 := by kernel_rfl
section
variable {H : Type} {enc : TypeId × Value → H} {W : World} {base : Nat}
theorem weightsAll_mem {e : TypeId} {d : DataW H} {x : Nat} : ∀ {l : List (DataW H)}, d ∈ l → x ∈ DataW.weights Tryd.prog e d → x ∈ DataW.weightsAll Tryd.prog e l
  | y :: r, hm, hx => by
    unfold DataW.weightsAll
    rcases List.mem_cons.1 hm with rfl | hm
    · exact List.mem_append_left _ hx
    · exact List.mem_append_right _ (weightsAll_mem hm hx)
set_option maxRecDepth 100000 in
theorem open_bss_w {v : Value} {d : DataW H} {p : List MemPlace} (hv : Value.okWide Tryd.prog W .any base 22 v) (h : DataW.Trod enc Tryd.prog W 0 (fun _ => true) true 22 v d p) (hk : Light 22 d) :
    ∃ A n c es, v = .slice A n c ∧ RS W A n es ∧ n * 24 ≤ 140737488351232 := by
  obtain ⟨a0, len, cap, rfl⟩ := okWide_slice Tryd.underlying22 hv
  obtain ⟨fuel, hf⟩ := h
  rcases open_int_rows Tryd.underlying22 Tryd.underlying26 Tryd.underlying5 cellsB cells8 hf with ⟨hcs, hx⟩ | ⟨a, len', cap', A, L, C, Z, hcs, _, hl, hm, hx, hrows⟩
  · simp [Value.cells] at hcs
    obtain ⟨rfl, rfl, rfl⟩ := hcs
    exact ⟨none, 0, 0, [], rfl, ⟨rfl, fun h => by simp at h, by simp⟩, by omega⟩
  · simp [Value.cells] at hcs
    obtain ⟨rfl, rfl, rfl⟩ := hcs
    simp only [Prod.mk.injEq] at hx
    rw [hx.1] at hk
    have hlen : len * 24 ≤ 140737488351232 := by
      have h1 := List.all_eq_true.1 hk ((((List.range len).map fun r => intRow (H := H) .u8 (A r) (L r) (Z r)).length + ((List.range (cap - len)).map fun j => intRow (H := H) .u8 (A (len + j)) (L (len + j)) (Z (len + j))).length) * (Tryd.prog).bytesOf 26) (by simp [DataW.weights, Tryd.underlying22])
      rw [bytesB] at h1
      simp only [List.length_map, List.length_range, reachBytes, decide_eq_true_eq] at h1
      omega
    refine ⟨some a, len, cap, (List.range len).map fun r => ⟨A r, L r, C r, ((Z r).take (L r)).map toB⟩, rfl, ⟨by simp, fun hn => ?_, fun e he => ?_⟩, hlen⟩
    · have hn' : 0 < len := by simpa using hn
      have h0 := (hrows 0 (by omega)).1
      have hs : a.spot = none := spot_of (a := a) (by simpa [Addr.add] using h0)
      obtain ⟨g, o, s⟩ := a
      simp at hs
      subst hs
      refine ⟨g, o, rfl, World.block_lt_of_cell? W _ (by simpa [Addr.add] using h0), fun i u hi => ?_⟩
      have hil : i < len := by
        rcases Nat.lt_or_ge i len with h | h
        · exact h
        · simp [h] at hi
      have h1 := (hrows i (by omega)).1
      rw [add_none] at h1
      rw [h1, ← hi]
      simp [hil]
    · obtain ⟨r, hr, rfl⟩ := List.mem_map.1 he
      have hr' : r < len := List.mem_range.1 hr
      obtain ⟨h1, h2, h3, h4, h5, h6, h7⟩ := hrows r (by omega)
      refine ⟨rb_of h2 h4 h5 h6 (fun a' ha => (h7 a' ha).2), fun hn => ?_, ?_⟩
      · have := h6 hn
        exact ⟨by show L r = 0; omega, this⟩
      · show L r ≤ 140737488355328
        cases hA : A r with
        | none => have := h6 hA; omega
        | some a' =>
          have hmem : intRow (H := H) .u8 (A r) (L r) (Z r) ∈ (List.range len).map fun r => intRow (H := H) .u8 (A r) (L r) (Z r) := List.mem_map.2 ⟨r, hr, rfl⟩
          have hw : ((lits (H := H) .u8 ((Z r).take (L r))).length + (lits (H := H) .u8 ((Z r).drop (L r))).length) * (Tryd.prog).bytesOf 5 ∈ DataW.weights (H := H) Tryd.prog 26 (intRow .u8 (A r) (L r) (Z r)) := by
            rw [hA]
            simp [intRow, DataW.weights, Tryd.underlying26]
          have h8 := List.all_eq_true.1 hk _ (by
            simp only [DataW.weights, Tryd.underlying22]
            exact List.mem_cons_of_mem _ (List.mem_append_left _ (weightsAll_mem hmem hw)))
          rw [bytesU8] at h8
          simp only [lits, List.length_map, List.length_take, List.length_drop, reachBytes, decide_eq_true_eq] at h8
          omega
end
end Go.Proofs.YtocckokbdacdfaaDoor
