/-
  The package variables that the rows list, laid in a world: one input that fits.
-/
import Derived.Test.YtocfoheckgdonaaGreatDoorCards
import Derived.Lay
import Derived.LaidMore
import Derived.SevenTiedAt
import Derived.ProofKit
import Derived.OpenShut
import Derived.Stop.Joined
import Derived.Deep.DeepHandedRow
namespace Go.Proofs.YtocfoheckgdonaaGreatDoor
open Go.ChangeShapes Go.WideShapes Go.ChangeAt Go.RowKit

set_option maxRecDepth 100000 in
theorem lay_shaped (os : Os) (args : Array Value) : World.Shaped Tryz.prog ((World.laidAll Tryz.prog os Rows.fnMatchPhraseRow.laid).forCall (fun _ _ => 0) ⟨#[], args, []⟩) := World.shaped_of_ZipB (by kernel_rfl) (by kernel_rfl)
set_option maxRecDepth 100000 in
theorem lay_met (os : Os) (args : Array Value) : laidMetH Tryz.prog Rows.fnMatchPhraseRow.laid ((World.laidAll Tryz.prog os Rows.fnMatchPhraseRow.laid).forCall (fun _ _ => 0) ⟨#[], args, []⟩).memory := by
  rw [MakeChecks.laidMetH_plain _ _ _ (by kernel_rfl)]
  exact laidMet_laidAll _ (by kernel_rfl) (by kernel_rfl)
theorem witness_laid {H : Type} {enc : TypeId × Value → H} (os : Os) (args : Array Value) {f : FuncId} {fn : Func} {s : OpenSpec} {conds : List PathCond} {apart : Bool} {laid : List (String × DataW Unit)}
    (hok : Input.okWideB Tryz.prog ((World.laidAll Tryz.prog os Rows.fnMatchPhraseRow.laid).forCall (fun _ _ => 0) ⟨#[], args, []⟩) f ⟨#[], args, []⟩ = true)
    (hrow : s.preRow enc Tryz.prog fn conds apart laid ((World.laidAll Tryz.prog os Rows.fnMatchPhraseRow.laid).forCall (fun _ _ => 0) ⟨#[], args, []⟩).memory args) :
    ∃ (w : World) (tape : Tape) (i : Input), w.os = os ∧ (w.forCall tape i).Shaped Tryz.prog ∧ i.vars = [] ∧ Input.okWide Tryz.prog (w.forCall tape i) .any w.heap.size f i ∧
      s.preRow enc Tryz.prog fn conds apart laid (w.forCall tape i).memory i.args ∧ ({} : Assume).holds Tryz.prog (lone (Frame.enter Tryz.prog f i.args .normal) [] (w.forCall tape i)) :=
  ⟨World.laidAll Tryz.prog os Rows.fnMatchPhraseRow.laid, fun _ _ => 0, ⟨#[], args, []⟩, World.laidAll_os _ _ _, lay_shaped os args, (Input.okWide_of_okWideB (base := 0) hok).1, (Input.okWide_of_okWideB hok).2, hrow, by
    simp only [Assume.holds]
    exact ⟨by simp, by simp, by simp, by simp, by simp⟩⟩
end Go.Proofs.YtocfoheckgdonaaGreatDoor
