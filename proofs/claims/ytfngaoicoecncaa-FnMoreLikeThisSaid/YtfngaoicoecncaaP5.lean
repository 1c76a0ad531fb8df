/-
  A query of a kind with its settings alone.
-/
import Derived.Test.YtfngaoicoecncaaP4
import Derived.Laws.AppendOwnNone
namespace Go.Proofs.Ytfngaoicoecncaa
open Go.RowKit

end Go.Proofs.Ytfngaoicoecncaa
