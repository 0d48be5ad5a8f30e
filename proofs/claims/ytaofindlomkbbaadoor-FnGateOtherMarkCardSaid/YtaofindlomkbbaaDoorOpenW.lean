/-
  Arguments of a law under the reach of the form (the first form of the statement).
-/
import Derived.Test.YtaofindlomkbbaaDoorOpen
namespace Go.Proofs.YtaofindlomkbbaaDoor
open Go Go.RowKit Go.ChangeShapes Go.WideShapes Go.ChangeAt Go.Deep
theorem bytesU8 : (Tryd.prog).bytesOf 5 = 1 := by kernel_rfl
section
variable {H : Type} {enc : TypeId × Value → H} {W : World} {base : Nat}
def Light (t : TypeId) (d : DataW H) : Prop := (DataW.weights Tryd.prog t d).all (· ≤ reachBytes) = true
theorem light_cons {t : TypeId} {ts : List TypeId} {d : DataW H} {ds : List (DataW H)} (h : (DataW.weightsEach Tryd.prog (t :: ts) (d :: ds)).all (· ≤ reachBytes) = true) : Light t d ∧ (DataW.weightsEach Tryd.prog ts ds).all (· ≤ reachBytes) = true := by
  unfold Light
  simp only [DataW.weightsEach, List.all_append, Bool.and_eq_true] at h
  exact h
set_option maxRecDepth 100000 in
theorem open_bytes_w {v : Value} {d : DataW H} {p : List MemPlace} (hv : Value.okWide Tryd.prog W .any base 22 v) (h : DataW.Trod enc Tryd.prog W 0 (fun _ => true) true 22 v d p) (hk : Light 22 d) :
    ∃ A n c bs, v = .slice A n c ∧ RB W A n bs ∧ (A = none → n = 0 ∧ c = 0) ∧ n ≤ 140737488351232 := by
  obtain ⟨a0, len, cap, rfl⟩ := okWide_slice Tryd.underlying22 hv
  obtain ⟨fuel, hf⟩ := h
  rcases open_ints Tryd.underlying22 Tryd.underlying5 cells8 hf with ⟨hcs, hx⟩ | ⟨a, len', cap', zs, hcs, _, hl, hm, hz, hx, hcell, hwz⟩
  · simp [Value.cells] at hcs
    obtain ⟨rfl, rfl, rfl⟩ := hcs
    exact ⟨none, 0, 0, [], rfl, RB.nil _ _, fun _ => ⟨rfl, rfl⟩, by omega⟩
  · simp [Value.cells] at hcs
    obtain ⟨rfl, rfl, rfl⟩ := hcs
    simp only [if_true] at hz
    refine ⟨some a, len, cap, _, rfl, rb_of (C := cap) (Z := zs) hl hz hwz (by simp) (fun a' ha c hc => ?_), by simp, ?_⟩
    · cases ha
      exact hcell c (by omega)
    · simp only [Prod.mk.injEq] at hx
      rw [hx.1] at hk
      have h1 := List.all_eq_true.1 hk (((lits (H := H) .u8 (zs.take len)).length + (lits (H := H) .u8 (zs.drop len)).length) * (Tryd.prog).bytesOf 5) (by simp [DataW.weights, Tryd.underlying22])
      rw [bytesU8] at h1
      simp only [lits, List.length_map, List.length_take, List.length_drop, reachBytes, decide_eq_true_eq] at h1
      omega
end
end Go.Proofs.YtaofindlomkbbaaDoor
