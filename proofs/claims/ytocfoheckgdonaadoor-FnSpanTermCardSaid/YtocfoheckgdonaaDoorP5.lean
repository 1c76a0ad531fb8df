/-
  A query of a kind with its settings alone.
-/
import Derived.Test.YtocfoheckgdonaaDoorP4
import Derived.Laws.AppendOwnNone
namespace Go.Proofs.YtocfoheckgdonaaDoor
open Go.RowKit

end Go.Proofs.YtocfoheckgdonaaDoor
