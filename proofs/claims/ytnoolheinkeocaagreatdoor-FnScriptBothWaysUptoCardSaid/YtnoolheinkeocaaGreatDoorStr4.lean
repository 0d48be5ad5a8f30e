/-
  Contracts: Prefix.AppendTo at valid prefixes.
-/
import Derived.Test.YtnoolheinkeocaaGreatDoorStr3
namespace Go.Proofs.YtnoolheinkeocaaGreatDoor
open Go Go.RowKit
end Go.Proofs.YtnoolheinkeocaaGreatDoor
