/-
  A query that has its settings beside, read as it stands.
-/
import Derived.Test.YtfkkagokpmldmaaR1
namespace Go.Proofs.Ytfkkagokpmldmaa
open Go.RowKit

end Go.Proofs.Ytfkkagokpmldmaa
