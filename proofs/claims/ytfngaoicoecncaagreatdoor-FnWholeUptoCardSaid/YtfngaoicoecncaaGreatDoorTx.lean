/-
  A list of texts as a tree; its length is bound.
-/
import Derived.Test.YtfngaoicoecncaaGreatDoorZz
import Derived.Test.YtfngaoicoecncaaGreatDoorTell
namespace Go.Proofs.YtfngaoicoecncaaGreatDoor
open Go.RowKit

set_option maxHeartbeats 400000 in
theorem list_exact (a : Option Addr) (n c : Nat) (w : World) : Calls Tryz.prog 66 #[.slice a n c] w fun r w' => r = .returned (⟨4, ⟨#[]⟩, 0, false, none, 0, 0, a, n, c⟩ : El).val ∧ Ext w w' := by
  go_enter Tryz.func66, Tryz.ntmps66
  go_wp2
  refine post_tree rfl rfl (Box.at rfl _ _) rfl ⟨rfl, by (repeat (first | exact ext_refl _ | assumption | refine ext_alloc ?_ _ | refine ext_drew ?_ | refine ext_set ?_ (by simp) _ | refine ext_trans ?_ (by assumption)))⟩
end Go.Proofs.YtfngaoicoecncaaGreatDoor
