/-
  A query of a kind with its settings alone.
-/
import Derived.Test.YtdjojnlejkljdaaP4
import Derived.Laws.AppendOwnNone
namespace Go.Proofs.Ytdjojnlejkljdaa
open Go.RowKit

end Go.Proofs.Ytdjojnlejkljdaa
