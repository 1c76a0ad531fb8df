/-
  A list of texts as a tree; its length is bound.
-/
import Derived.Test.YtfngaoicoecncaaDoorZz
import Derived.Test.YtfngaoicoecncaaDoorTell
namespace Go.Proofs.YtfngaoicoecncaaDoor
open Go.RowKit

end Go.Proofs.YtfngaoicoecncaaDoor
