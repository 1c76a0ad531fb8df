/-
  A query that has its settings beside, read as it stands.
-/
import Derived.Test.YtdjojnlejkljdaaGreatR1
namespace Go.Proofs.YtdjojnlejkljdaaGreat
open Go.RowKit

end Go.Proofs.YtdjojnlejkljdaaGreat
