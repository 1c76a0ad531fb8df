/-
  A query that has its settings beside, read as it stands.
-/
import Derived.Test.YtegnnbpobcmgcaaGreatR1
namespace Go.Proofs.YtegnnbpobcmgcaaGreat
open Go.RowKit

end Go.Proofs.YtegnnbpobcmgcaaGreat
