/-
  A tree as a query: what it gives.
-/
import Derived.Test.YtfngaoicoecncaaGreatDoorPq
namespace Go.Proofs.YtfngaoicoecncaaGreatDoor
open Go.RowKit Go.Maps

@[go_sem] theorem given_method (fuel : Nat) (v : Value) (w : World) : (method (fuel + 1) 136 v "Source").run Tryz.prog w = .ok (192, v) w := by kernel_rfl
set_option maxRecDepth 20000 in
set_option maxHeartbeats 1000000 in
theorem given_src {S : Nat → Prop} (e : El) (t : T) (w : World) (h : TreeAt S w e t) (hF : FullT t) : Calls Tryz.prog 192 #[e.val] w fun r w' => ∃ ty x, r = .returned (.tuple #[.iface ty x, .nilIface]) ∧ JAt (fun b => w.heap.size ≤ b) w' (.iface ty x) (jFull t) ∧ Ext w w' := by
  obtain ⟨k, x, d, y, ka, n, kc, ca, m, cc⟩ := e
  have hC := Lib.hid fun w' (xx : Ext w w') => plained t hF S _ w' (h.ext xx)
  clear h
  simp only [El.val]
  go_enter Tryz.func192, Tryz.ntmps192
  go_wp2_with (go_at_call 29; refine (hC.out _ (by (repeat (first | exact ext_refl _ | assumption | refine ext_alloc ?_ _ | refine ext_drew ?_ | refine ext_set ?_ (by simp) _ | refine ext_trans ?_ (by assumption))))).mono ?_; rintro r w2 ⟨ty, px, rfl, hJ, hx2⟩)
  go_ret2
  exact ⟨_, _, rfl, hJ.to (fun b hb _ => by simp at hb; omega), ext_trans (by (repeat (first | exact ext_refl _ | assumption | refine ext_alloc ?_ _ | refine ext_drew ?_ | refine ext_set ?_ (by simp) _ | refine ext_trans ?_ (by assumption)))) hx2⟩
end Go.Proofs.YtfngaoicoecncaaGreatDoor
