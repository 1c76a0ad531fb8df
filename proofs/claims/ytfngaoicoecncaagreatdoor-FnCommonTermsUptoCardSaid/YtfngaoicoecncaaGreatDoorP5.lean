/-
  A query of a kind with its settings alone.
-/
import Derived.Test.YtfngaoicoecncaaGreatDoorP4
import Derived.Laws.AppendOwnNone
namespace Go.Proofs.YtfngaoicoecncaaGreatDoor
open Go.RowKit

end Go.Proofs.YtfngaoicoecncaaGreatDoor
