/-
  A query that has its settings beside, read as it stands.
-/
import Derived.Test.YtfngaoicoecncaaDoorR1
namespace Go.Proofs.YtfngaoicoecncaaDoor
open Go.RowKit

end Go.Proofs.YtfngaoicoecncaaDoor
