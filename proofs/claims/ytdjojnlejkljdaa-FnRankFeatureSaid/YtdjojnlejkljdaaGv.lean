/-
  A tree as a query: what it gives.
-/
import Derived.Test.YtdjojnlejkljdaaPq
namespace Go.Proofs.Ytdjojnlejkljdaa
open Go.RowKit Go.Maps

end Go.Proofs.Ytdjojnlejkljdaa
