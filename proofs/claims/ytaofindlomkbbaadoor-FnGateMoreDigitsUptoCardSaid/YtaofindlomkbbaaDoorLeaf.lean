/-
  Contracts of the small functions of net/netip.
-/
import Derived.Test.YtaofindlomkbbaaDoorBase
namespace Go.Proofs.YtaofindlomkbbaaDoor
open Go.RowKit
def bl : Option Bool → Int
  | none => 0
  | some false => 32
  | some true => 128
theorem is4_c (h l : Int) (k : Option Bool) (z : ZP) (w : World) (hz : Zs w z) :
    Calls Tryd.prog 28 #[.agg #[.int .u64 h, .int .u64 l, .pointer (z.ptr k)]] w fun e w' => e = .returned (.bool (k == some false)) ∧ Below w.heap.size w w' := by
  obtain ⟨s0, s1, s2, q4, q6, h4, h6, h0, hne, hne', p4, p6⟩ := hz.lay
  clear hz
  rcases k with _ | _ | _ <;> simp only [ptr0, ptr4, ptr6]
  all_goals
    go_enter Tryd.func28, Tryd.ntmps28
    go_wp2
    go_returns
    exact ⟨rfl, by go_grown⟩
theorem is6_c (h l : Int) (k : Option Bool) (z : ZP) (w : World) (hz : Zs w z) :
    Calls Tryd.prog 29 #[.agg #[.int .u64 h, .int .u64 l, .pointer (z.ptr k)]] w fun e w' => e = .returned (.bool (k == some true)) ∧ Below w.heap.size w w' := by
  obtain ⟨s0, s1, s2, q4, q6, h4, h6, h0, hne, hne', p4, p6⟩ := hz.lay
  clear hz
  rcases k with _ | _ | _ <;> simp only [ptr0, ptr4, ptr6]
  all_goals
    go_enter Tryd.func29, Tryd.ntmps29
    go_wp2
    go_returns
    exact ⟨rfl, by go_grown⟩
theorem zone_c (h l : Int) (k : Option Bool) (z : ZP) (w : World) (hz : Zs w z) :
    Calls Tryd.prog 47 #[.agg #[.int .u64 h, .int .u64 l, .pointer (z.ptr k)]] w fun e w' => e = .returned (.string ⟨#[]⟩) ∧ Below w.heap.size w w' := by
  obtain ⟨s0, s1, s2, q4, q6, h4, h6, h0, hne, hne', p4, p6⟩ := hz.lay
  have d4 := hz.d4
  have d4' := hz.d4'
  have d6 := hz.d6
  have d6' := hz.d6'
  clear hz
  rcases k with _ | _ | _ <;> simp only [ptr0, ptr4, ptr6]
  all_goals
    go_enter Tryd.func47, Tryd.ntmps47
    go_wp2
    go_returns
    exact ⟨rfl, by go_grown⟩
end Go.Proofs.YtaofindlomkbbaaDoor
