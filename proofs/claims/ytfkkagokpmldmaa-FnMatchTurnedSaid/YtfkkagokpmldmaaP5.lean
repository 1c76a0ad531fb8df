/-
  A query of a kind with its settings alone.
-/
import Derived.Test.YtfkkagokpmldmaaP4
import Derived.Laws.AppendOwnNone
namespace Go.Proofs.Ytfkkagokpmldmaa
open Go.RowKit

end Go.Proofs.Ytfkkagokpmldmaa
