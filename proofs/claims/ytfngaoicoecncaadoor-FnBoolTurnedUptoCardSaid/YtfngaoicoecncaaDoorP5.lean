/-
  A query of a kind with its settings alone.
-/
import Derived.Test.YtfngaoicoecncaaDoorP4
import Derived.Laws.AppendOwnNone
namespace Go.Proofs.YtfngaoicoecncaaDoor
open Go.RowKit

end Go.Proofs.YtfngaoicoecncaaDoor
