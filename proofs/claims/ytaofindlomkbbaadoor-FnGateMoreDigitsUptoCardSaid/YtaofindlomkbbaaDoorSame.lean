/-
  Contracts of laws.sameAddress, laws.samePrefix.
-/
import Derived.Test.YtaofindlomkbbaaDoorEqual
import Derived.Test.YtaofindlomkbbaaDoorRegion2
import Derived.Test.YtaofindlomkbbaaDoorRegion3
namespace Go.Proofs.YtaofindlomkbbaaDoor
open Go Go.RowKit
set_option maxRecDepth 100000 in
theorem sameAddr_c (A B : Option Addr) (n m c d : Nat) (bs cs : List UInt8) (w : World) (h1 : RB w A n bs) (h2 : RB w B m cs) (hn : n ≤ 9223372036854775807) :
    Calls Tryd.prog 12 #[.agg #[.slice A n c, .string ⟨#[]⟩], .agg #[.slice B m d, .string ⟨#[]⟩]] w fun e w' => e = .returned (.bool (decide (bs = cs))) ∧ Below w.heap.size w w' := by
  have hbx : Boxes w [#[.slice A n c, .string ⟨#[]⟩], #[.slice B m d, .string ⟨#[]⟩]] ((w.alloc (.cells #[.slice A n c, .string ⟨#[]⟩] 26)).alloc (.cells #[.slice B m d, .string ⟨#[]⟩] 26)) := boxes2 _ _ _
  go_enter Tryd.func12, Tryd.ntmps12
  go_wp2_with fail
  refine (equal_c A B n m c d bs cs _ (h1.keep hbx.below) (h2.keep hbx.below) hn).mono ?_
  rintro e w1 ⟨rfl, hb⟩
  have hw1 := hbx.keep hb
  have r0 := hw1.b0
  have r1 := hw1.b1
  have bb := hw1.below
  clear hbx hb
  by_cases hbc : bs = cs
  · rw [show decide (bs = cs) = true by simpa using hbc]
    go_wp2
    go_returns
    exact ⟨by simp [hbc], bb⟩
  · rw [show decide (bs = cs) = false by simpa using hbc]
    go_wp2
    go_returns
    exact ⟨by simp [hbc], bb⟩
end Go.Proofs.YtaofindlomkbbaaDoor
