/-
  The package variables that the rows list, laid in a world: one input that fits.
-/
import Derived.Test.YtocfoheckgdonaaGreatDoorCards
import Derived.Lay
import Derived.LaidMore
import Derived.SevenTiedAt
import Derived.ProofKit
import Derived.OpenShut
import Derived.Stop.Joined
namespace Go.Proofs.YtocfoheckgdonaaGreatDoor
open Go.ChangeShapes Go.WideShapes Go.ChangeAt Go.RowKit

set_option maxRecDepth 100000 in
theorem lay_shaped (os : Os) (args : Array Value) : World.Shaped Tryz.prog ((World.laidAll Tryz.prog os Rows.fnMatchPhraseRow.laid).forCall (fun _ _ => 0) ⟨#[], args, []⟩) := World.shaped_of_ZipB (by kernel_rfl) (by kernel_rfl)
set_option maxRecDepth 100000 in
theorem lay_met (os : Os) (args : Array Value) : laidMetH Tryz.prog Rows.fnMatchPhraseRow.laid ((World.laidAll Tryz.prog os Rows.fnMatchPhraseRow.laid).forCall (fun _ _ => 0) ⟨#[], args, []⟩).memory := by
  rw [MakeChecks.laidMetH_plain _ _ _ (by kernel_rfl)]
  exact laidMet_laidAll _ (by kernel_rfl) (by kernel_rfl)
end Go.Proofs.YtocfoheckgdonaaGreatDoor
