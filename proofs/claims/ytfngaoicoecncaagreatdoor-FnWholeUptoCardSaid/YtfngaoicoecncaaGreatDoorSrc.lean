/-
  Small laws for the walks of what builders give.
-/
import Derived.Test.YtfngaoicoecncaaGreatDoorP5
namespace Go.Proofs.YtfngaoicoecncaaGreatDoor
open Go.RowKit

theorem ext_put {w0 w w' : World} (h : Ext w0 w) {b : Nat} (g : w.grownBy w' (some b)) (hb : w0.heap.size ≤ b) : Ext w0 w' := ext_grown h g (fun k hk => by injection hk with hk; omega)

theorem MapAt.at {w : World} {b : Nat} (hb : w.heap.size = b) : MapAt (w.alloc (.map #[] 0)) b [] := hb ▸ MapAt.made w
theorem MapAt.putExt {w0 w w' : World} {b : Nat} (h : Ext w0 w) (g : w.grownBy w' (some b)) (hb : w0.heap.size ≤ b) : Ext w0 w' := ext_put h g hb
end Go.Proofs.YtfngaoicoecncaaGreatDoor
