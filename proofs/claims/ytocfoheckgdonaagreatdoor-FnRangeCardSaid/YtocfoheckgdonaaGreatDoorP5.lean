/-
  A query of a kind with its settings alone.
-/
import Derived.Test.YtocfoheckgdonaaGreatDoorP4
import Derived.Laws.AppendOwnNone
namespace Go.Proofs.YtocfoheckgdonaaGreatDoor
open Go.RowKit

end Go.Proofs.YtocfoheckgdonaaGreatDoor
