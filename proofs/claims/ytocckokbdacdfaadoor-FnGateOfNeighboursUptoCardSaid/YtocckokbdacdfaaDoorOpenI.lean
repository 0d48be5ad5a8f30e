/-
  A list of numbers as an argument of a law.
-/
import Derived.Test.YtocckokbdacdfaaDoorOpenW2
import Derived.Test.YtocckokbdacdfaaDoorGates
namespace Go.Proofs.YtocckokbdacdfaaDoor
open Go Go.RowKit Go.ChangeShapes Go.WideShapes Go.ChangeAt Go.Deep
theorem cellsI : (Tryd.prog).cellsOf 3 = 1 := by kernel_rfl
section
variable {H : Type} {enc : TypeId × Value → H} {W : World} {base : Nat}
set_option maxRecDepth 100000 in
theorem open_nums {v : Value} {d : DataW H} {p : List MemPlace} (hv : Value.okWide Tryd.prog W .any base 25 v) (h : DataW.Trod enc Tryd.prog W 0 (fun _ => true) true 25 v d p) :
    ∃ A n c xs, v = .slice A n c ∧ RI W A n xs := by
  obtain ⟨a0, len, cap, rfl⟩ := okWide_slice Tryd.underlying25 hv
  obtain ⟨fuel, hf⟩ := h
  rcases open_ints Tryd.underlying25 Tryd.underlying3 cellsI hf with ⟨hcs, hx⟩ | ⟨a, len', cap', zs, hcs, _, hl, hm, hz, hx, hcell, hwz⟩
  · simp [Value.cells] at hcs
    obtain ⟨rfl, rfl, rfl⟩ := hcs
    exact ⟨none, 0, 0, [], rfl, rfl, fun h => by simp at h⟩
  · simp [Value.cells] at hcs
    obtain ⟨rfl, rfl, rfl⟩ := hcs
    simp only [if_true] at hz
    refine ⟨some a, len, cap, zs.take len, rfl, by simp; omega, fun hn => ?_⟩
    have hn' : 0 < zs.length := by simp at hn; omega
    have h0 := hcell 0 hn'
    have hs : a.spot = none := spot_of (a := a) (by simpa [Addr.add] using h0)
    obtain ⟨g, o, s⟩ := a
    simp at hs
    subst hs
    refine ⟨g, o, rfl, World.block_lt_of_cell? W _ (by simpa [Addr.add] using h0), fun i u hi => ?_⟩
    have hil : i < (zs.take len).length := by
      rcases Nat.lt_or_ge i (zs.take len).length with h | h
      · exact h
      · rw [List.getElem?_eq_none (by simpa using h)] at hi; cases hi
    have hiz : i < zs.length := by simp at hil; omega
    rw [List.getElem?_map, List.getElem?_eq_getElem hil] at hi
    simp only [Option.map_some, Option.some.injEq] at hi
    subst hi
    have h1 := hcell i hiz
    rw [List.getElem_take]
    have ha : (⟨g, o, none⟩ : Addr).add i = ⟨g, o + i, none⟩ := by unfold Addr.add; split <;> simp_all
    rw [ha] at h1
    simpa [List.getD, List.getElem?_eq_getElem hiz] using h1
end
end Go.Proofs.YtocckokbdacdfaaDoor
