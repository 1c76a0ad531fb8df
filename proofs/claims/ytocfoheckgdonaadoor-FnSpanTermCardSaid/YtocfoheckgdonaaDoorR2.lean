/-
  A query that has its settings beside, read as it stands.
-/
import Derived.Test.YtocfoheckgdonaaDoorR1
namespace Go.Proofs.YtocfoheckgdonaaDoor
open Go.RowKit

end Go.Proofs.YtocfoheckgdonaaDoor
