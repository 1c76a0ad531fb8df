/-
  A query that has its settings beside, read as it stands.
-/
import Derived.Test.YtocfoheckgdonaaGreatDoorR1
namespace Go.Proofs.YtocfoheckgdonaaGreatDoor
open Go.RowKit

end Go.Proofs.YtocfoheckgdonaaGreatDoor
