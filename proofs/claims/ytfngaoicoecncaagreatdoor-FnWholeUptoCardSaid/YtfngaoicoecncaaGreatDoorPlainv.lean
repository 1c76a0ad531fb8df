/-
  The plain value of a scalar.
-/
import Derived.Test.YtfngaoicoecncaaGreatDoorNm2
namespace Go.Proofs.YtfngaoicoecncaaGreatDoor
open Go.RowKit

set_option maxHeartbeats 1000000 in
theorem plain_any {S : Nat → Prop} (e : El) (t : T) (w : World) (h : TreeAt S w e t) (hs : scalarT t = true) : Calls Tryz.prog 29 #[e.val] w fun r w' => ∃ v, r = .returned v ∧ JAt (fun _ => False) w' v (jOf t) ∧ Ext w w' := by
  obtain ⟨k, x, d, y, ka, n, kc, ca, m, cc⟩ := e
  obtain ⟨hk, hx, hd, hy, -, -⟩ := h.parts
  have hkk := scalar_kind hs
  have HX := Lib.hid hx
  have HD := Lib.hid hd
  have HY := Lib.hid hy
  have HK := Lib.hid hk
  simp only at hk
  clear h hs hx hd hy
  simp only [El.val]
  rcases hkk with hkk | hkk | hkk
  · rw [hkk] at hk
    have hj := Lib.hid (show jOf t = .str x by rw [jOf, if_pos hkk]; exact congrArg J.str HX.out.symm)
    subst hk
    go_enter Tryz.func29, Tryz.ntmps29
    go_wp2_with fail
    go_ret
    exact ⟨_, rfl, by rw [hj.out]; simp [JAt], by (repeat (first | exact ext_refl _ | assumption | refine ext_alloc ?_ _ | refine ext_drew ?_ | refine ext_set ?_ (by simp) _ | refine ext_trans ?_ (by assumption)))⟩
  · rw [hkk] at hk
    have hj := Lib.hid (show jOf t = .num d by rw [jOf, if_neg (by omega), if_pos hkk]; exact congrArg J.num HD.out.symm)
    subst hk
    go_enter Tryz.func29, Tryz.ntmps29
    go_wp2_with fail
    go_ret
    exact ⟨_, rfl, by rw [hj.out]; simp [JAt], by (repeat (first | exact ext_refl _ | assumption | refine ext_alloc ?_ _ | refine ext_drew ?_ | refine ext_set ?_ (by simp) _ | refine ext_trans ?_ (by assumption)))⟩
  · rw [hkk] at hk
    have hj := Lib.hid (show jOf t = .yes y by rw [jOf, if_neg (by omega), if_neg (by omega)]; exact congrArg J.yes HY.out.symm)
    subst hk
    go_enter Tryz.func29, Tryz.ntmps29
    go_wp2_with fail
    go_ret
    exact ⟨_, rfl, by rw [hj.out]; simp [JAt], by (repeat (first | exact ext_refl _ | assumption | refine ext_alloc ?_ _ | refine ext_drew ?_ | refine ext_set ?_ (by simp) _ | refine ext_trans ?_ (by assumption)))⟩
theorem plain_text {t : T} {S : Nat → Prop} {w : World} {v : Value} (hk : t.kind = 1) (h : JAt S w v (jOf t)) : v = .iface 9 (.string t.text) := by
  unfold jOf at h
  rw [if_pos hk] at h
  simpa only [JAt] using h
theorem plain_iface {t : T} {S : Nat → Prop} {w : World} {v : Value} (hs : scalarT t = true) (h : JAt S w v (jOf t)) : ∃ ty x, v = .iface ty x := by
  unfold jOf at h
  rcases scalar_kind hs with hk | hk | hk
  · rw [if_pos hk] at h; simp only [JAt] at h; exact ⟨_, _, h⟩
  · rw [if_neg (by omega), if_pos hk] at h; simp only [JAt] at h; exact ⟨_, _, h⟩
  · rw [if_neg (by omega), if_neg (by omega)] at h; simp only [JAt] at h; exact ⟨_, _, h⟩
end Go.Proofs.YtfngaoicoecncaaGreatDoor
