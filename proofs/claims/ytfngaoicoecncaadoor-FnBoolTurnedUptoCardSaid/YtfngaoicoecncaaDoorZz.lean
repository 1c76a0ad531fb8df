/-
  Bounds on lists and trees; lists that are filled.
-/
import Derived.Test.YtfngaoicoecncaaDoorF3
namespace Go.Proofs.YtfngaoicoecncaaDoor
open Go.RowKit

theorem scalar_yes {S : Nat → Prop} (e : El) (t : T) (w : World) (h : TreeAt S w e t) : Calls Tryd.prog 25 #[e.val] w (Yes (scalarT t = true) w) :=
  (scalar_any e t w h).mono fun _ _ ⟨h1, h2⟩ => ⟨_, h1, id, h2⟩
end Go.Proofs.YtfngaoicoecncaaDoor
