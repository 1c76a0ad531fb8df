/-
  Map, and the small makers of trees.
-/
import Derived.Test.YtfngaoicoecncaaDoorOwn
import Derived.Test.YtfngaoicoecncaaDoorDraw
import Derived.Test.YtfngaoicoecncaaDoorW3
namespace Go.Proofs.YtfngaoicoecncaaDoor
open Go.RowKit

/-- Fields that a maker of trees leaves as they are. -/
theorem strs_none {S : Nat → Prop} (w : World) : StrsAt S w none 0 0 [] := ⟨rfl, Nat.le_refl _, by simp [maxLen], fun _ _ h => by simp at h⟩
theorem kids_none {S : Nat → Prop} (w : World) : KidsAt S w none 0 0 [] := KidsAt.of rfl (Nat.le_refl _) (by simp [maxLen]) fun _ _ h => by simp at h

def textT (s : ByteArray) : T := .mk 1 s 0 false [] []
def listT (l : List T) : T := .mk 4 emptyS 0 false [] l

end Go.Proofs.YtfngaoicoecncaaDoor
