/-
  Whether a value is of a kind.
-/
import Derived.Test.YtfngaoicoecncaaDoorP4
import Derived.Test.YtfngaoicoecncaaDoorW1
import Derived.Test.YtfngaoicoecncaaDoorW4
import Derived.Test.YtfngaoicoecncaaDoorFl
namespace Go.Proofs.YtfngaoicoecncaaDoor
open Go.RowKit

theorem scal {S : Nat → Prop} {k : Int} {x : ByteArray} {d : Nat} {y : Bool} {ka : Option Addr} {n kc : Nat} {ca : Option Addr} {m cc : Nat} {t : T} {w : World} (h : TreeAt S w ⟨k, x, d, y, ka, n, kc, ca, m, cc⟩ t) :
    ∀ w', Ext w w' → Calls Tryd.prog 25 #[.agg #[.int .i64 k, .string x, .float .f64 d, .bool y, .slice ka n kc, .slice ca m cc]] w' fun r w'' => r = .returned (.bool (scalarT t)) ∧ Ext w' w'' :=
  fun w' z => scalar_any ⟨k, x, d, y, ka, n, kc, ca, m, cc⟩ t w' (h.ext z)

set_option maxRecDepth 4000 in
set_option maxHeartbeats 400000 in
theorem fit_text {S : Nat → Prop} (e : El) (t : T) (w : World) (h : TreeAt S w e t) : Calls Tryd.prog 9 #[.string ⟨#[116]⟩, e.val] w fun r w' => r = .returned (.bool (t.kind == 1 && scalarT t)) ∧ Ext w w' := by
  have hk := h.parts.1
  rw [← hk]
  clear hk
  obtain ⟨k, x, d, y, ka, n, kc, ca, m, cc⟩ := e
  have HS := Lib.hid (scal h)
  clear h
  generalize scalarT t = b at HS ⊢
  simp only [El.val]
  go_enter Tryd.func9, Tryd.ntmps9
  by_cases hk : k = 1
  · subst hk
    go_wp2_with (go_at_call 25; refine (HS.out _ (by (repeat (first | exact ext_refl _ | assumption | refine ext_alloc ?_ _ | refine ext_drew ?_ | refine ext_set ?_ (by simp) _ | refine ext_trans ?_ (by assumption))))).mono ?_; rintro r w2 ⟨rfl, hx⟩)
    go_ret
    exact ⟨ret_bool (by simp), by (repeat (first | exact ext_refl _ | assumption | refine ext_alloc ?_ _ | refine ext_drew ?_ | refine ext_set ?_ (by simp) _ | refine ext_trans ?_ (by assumption)))⟩
  · go_wp2_with fail
    go_ret
    exact ⟨ret_bool (by simp [hk]), by (repeat (first | exact ext_refl _ | assumption | refine ext_alloc ?_ _ | refine ext_drew ?_ | refine ext_set ?_ (by simp) _ | refine ext_trans ?_ (by assumption)))⟩
set_option maxRecDepth 4000 in
set_option maxHeartbeats 400000 in
theorem fit_num {S : Nat → Prop} (e : El) (t : T) (w : World) (h : TreeAt S w e t) : Calls Tryd.prog 9 #[.string ⟨#[110]⟩, e.val] w fun r w' => r = .returned (.bool (t.kind == 2 && scalarT t)) ∧ Ext w w' := by
  have hk := h.parts.1
  rw [← hk]
  clear hk
  obtain ⟨k, x, d, y, ka, n, kc, ca, m, cc⟩ := e
  have HS := Lib.hid (scal h)
  clear h
  generalize scalarT t = b at HS ⊢
  simp only [El.val]
  go_enter Tryd.func9, Tryd.ntmps9
  by_cases hk : k = 2
  · subst hk
    go_wp2_with (go_at_call 25; refine (HS.out _ (by (repeat (first | exact ext_refl _ | assumption | refine ext_alloc ?_ _ | refine ext_drew ?_ | refine ext_set ?_ (by simp) _ | refine ext_trans ?_ (by assumption))))).mono ?_; rintro r w2 ⟨rfl, hx⟩)
    go_ret
    exact ⟨ret_bool (by simp), by (repeat (first | exact ext_refl _ | assumption | refine ext_alloc ?_ _ | refine ext_drew ?_ | refine ext_set ?_ (by simp) _ | refine ext_trans ?_ (by assumption)))⟩
  · go_wp2_with fail
    go_ret
    exact ⟨ret_bool (by simp [hk]), by (repeat (first | exact ext_refl _ | assumption | refine ext_alloc ?_ _ | refine ext_drew ?_ | refine ext_set ?_ (by simp) _ | refine ext_trans ?_ (by assumption)))⟩
set_option maxRecDepth 4000 in
set_option maxHeartbeats 400000 in
theorem fit_yes {S : Nat → Prop} (e : El) (t : T) (w : World) (h : TreeAt S w e t) : Calls Tryd.prog 9 #[.string ⟨#[98]⟩, e.val] w fun r w' => r = .returned (.bool (t.kind == 3 && scalarT t)) ∧ Ext w w' := by
  have hk := h.parts.1
  rw [← hk]
  clear hk
  obtain ⟨k, x, d, y, ka, n, kc, ca, m, cc⟩ := e
  have HS := Lib.hid (scal h)
  clear h
  generalize scalarT t = b at HS ⊢
  simp only [El.val]
  go_enter Tryd.func9, Tryd.ntmps9
  by_cases hk : k = 3
  · subst hk
    go_wp2_with (go_at_call 25; refine (HS.out _ (by (repeat (first | exact ext_refl _ | assumption | refine ext_alloc ?_ _ | refine ext_drew ?_ | refine ext_set ?_ (by simp) _ | refine ext_trans ?_ (by assumption))))).mono ?_; rintro r w2 ⟨rfl, hx⟩)
    go_ret
    exact ⟨ret_bool (by simp), by (repeat (first | exact ext_refl _ | assumption | refine ext_alloc ?_ _ | refine ext_drew ?_ | refine ext_set ?_ (by simp) _ | refine ext_trans ?_ (by assumption)))⟩
  · go_wp2_with fail
    go_ret
    exact ⟨ret_bool (by simp [hk]), by (repeat (first | exact ext_refl _ | assumption | refine ext_alloc ?_ _ | refine ext_drew ?_ | refine ext_set ?_ (by simp) _ | refine ext_trans ?_ (by assumption)))⟩
set_option maxRecDepth 4000 in
set_option maxHeartbeats 400000 in
theorem fit_any {S : Nat → Prop} (e : El) (t : T) (w : World) (h : TreeAt S w e t) : Calls Tryd.prog 9 #[.string ⟨#[118]⟩, e.val] w fun r w' => r = .returned (.bool (scalarT t)) ∧ Ext w w' := by
  obtain ⟨k, x, d, y, ka, n, kc, ca, m, cc⟩ := e
  have HS := Lib.hid (scal h)
  clear h
  generalize scalarT t = b at HS ⊢
  simp only [El.val]
  go_enter Tryd.func9, Tryd.ntmps9
  go_wp2_with (go_at_call 25; refine (HS.out _ (by (repeat (first | exact ext_refl _ | assumption | refine ext_alloc ?_ _ | refine ext_drew ?_ | refine ext_set ?_ (by simp) _ | refine ext_trans ?_ (by assumption))))).mono ?_; rintro r w2 ⟨rfl, hx⟩)
  go_ret
  exact ⟨rfl, by (repeat (first | exact ext_refl _ | assumption | refine ext_alloc ?_ _ | refine ext_drew ?_ | refine ext_set ?_ (by simp) _ | refine ext_trans ?_ (by assumption)))⟩
set_option maxRecDepth 4000 in
set_option maxHeartbeats 400000 in
theorem fit_none (e : El) (w : World) : Calls Tryd.prog 9 #[.string ⟨#[]⟩, e.val] w fun r w' => r = .returned (.bool false) ∧ Ext w w' := by
  obtain ⟨k, x, d, y, ka, n, kc, ca, m, cc⟩ := e
  simp only [El.val]
  go_enter Tryd.func9, Tryd.ntmps9
  go_wp2_with fail
  go_ret
  exact ⟨rfl, by (repeat (first | exact ext_refl _ | assumption | refine ext_alloc ?_ _ | refine ext_drew ?_ | refine ext_set ?_ (by simp) _ | refine ext_trans ?_ (by assumption)))⟩
/-- A number is a whole one. -/
def wholeP (d : Nat) : Prop := ∃ n, floatToIntVal .f64 d .i64 = some n ∧ orderB2 (floatOfInt .f64 n) d = true
/-- An answer that tells something when it is yes. -/
def Yes (p : Prop) (w : World) (r : Ending) (w' : World) : Prop := ∃ b : Bool, r = .returned (.bool b) ∧ (b = true → p) ∧ Ext w w'
set_option maxRecDepth 4000 in
set_option maxHeartbeats 800000 in
theorem fit_whole {S : Nat → Prop} (e : El) (t : T) (w : World) (h : TreeAt S w e t) : Calls Tryd.prog 9 #[.string ⟨#[119]⟩, e.val] w (Yes (t.kind = 2 ∧ scalarT t = true ∧ wholeP t.num) w) := by
  have hk := h.parts.1
  have hd := h.parts.2.2.1
  rw [← hk]
  clear hk
  obtain ⟨k, x, d, y, ka, n, kc, ca, m, cc⟩ := e
  have HS := Lib.hid (scal h)
  have HD := Lib.hid hd
  clear h hd
  generalize scalarT t = b at HS ⊢
  simp only [El.val]
  go_enter Tryd.func9, Tryd.ntmps9
  by_cases hk : k = 2
  · subst hk
    have hb0 : Box (w.alloc (.cells #[.int .i64 2, .string x, .float .f64 d, .bool y, .slice ka n kc, .slice ca m cc] 29)) w.heap.size _ _ := Box.at rfl _ _
    cases b
    · go_wp2_with (go_at_call 25; refine (HS.out _ (by (repeat (first | exact ext_refl _ | assumption | refine ext_alloc ?_ _ | refine ext_drew ?_ | refine ext_set ?_ (by simp) _ | refine ext_trans ?_ (by assumption))))).mono ?_; rintro r w2 ⟨rfl, hx⟩)
      go_ret
      exact ⟨false, rfl, by simp, ext_trans (ext_alloc (ext_refl _) _) hx⟩
    · go_upto_region 7 with fail
      generalize hc1 : (FloatKind.f64.format.order d 0 == some .gt || FloatKind.f64.format.order d 0 == some .eq) = c1
      generalize hc2 : (FloatKind.f64.format.order d 4696837146684686336 == some .lt || FloatKind.f64.format.order d 4696837146684686336 == some .eq) = c2
      cases c1
      · go_wp2_with (go_at_call 25; refine (HS.out _ (by (repeat (first | exact ext_refl _ | assumption | refine ext_alloc ?_ _ | refine ext_drew ?_ | refine ext_set ?_ (by simp) _ | refine ext_trans ?_ (by assumption))))).mono ?_; rintro r w2 ⟨rfl, hx⟩; obtain ⟨o0, o1, o2, o3, o4, o5⟩ := (hb0.ext hx).six)
        go_ret
        exact ⟨false, rfl, by simp, ext_trans (ext_alloc (ext_refl _) _) hx⟩
      · cases c2
        · go_wp2_with (go_at_call 25; refine (HS.out _ (by (repeat (first | exact ext_refl _ | assumption | refine ext_alloc ?_ _ | refine ext_drew ?_ | refine ext_set ?_ (by simp) _ | refine ext_trans ?_ (by assumption))))).mono ?_; rintro r w2 ⟨rfl, hx⟩; obtain ⟨o0, o1, o2, o3, o4, o5⟩ := (hb0.ext hx).six)
          go_ret
          exact ⟨false, rfl, by simp, ext_trans (ext_alloc (ext_refl _) _) hx⟩
        · obtain ⟨z, hz⟩ := whole_some hc2 hc1
          have hcv : ∀ w, (convert 25 3 (.float .f64 d)).run Tryd.prog w = .ok (.int .i64 z) w := fun w => run_convert_float_int w 25 3 .f64 .i64 d z (by rw [Tryd.underlying25]; rfl) Tryd.underlying3 hz
          have HZ := Lib.hid hz
          clear hz
          go_wp2_with (go_at_call 25; refine (HS.out _ (by (repeat (first | exact ext_refl _ | assumption | refine ext_alloc ?_ _ | refine ext_drew ?_ | refine ext_set ?_ (by simp) _ | refine ext_trans ?_ (by assumption))))).mono ?_; rintro r w2 ⟨rfl, hx⟩; obtain ⟨o0, o1, o2, o3, o4, o5⟩ := (hb0.ext hx).six)
          go_ret
          exact ⟨_, rfl, fun hq => ⟨by trivial, by trivial, z, by rw [← HD.out]; exact HZ.out, by rw [← HD.out]; exact hq⟩, ext_trans (ext_alloc (ext_refl _) _) hx⟩
  · go_wp2_with fail
    go_ret
    exact ⟨false, rfl, by simp, by (repeat (first | exact ext_refl _ | assumption | refine ext_alloc ?_ _ | refine ext_drew ?_ | refine ext_set ?_ (by simp) _ | refine ext_trans ?_ (by assumption)))⟩
end Go.Proofs.YtfngaoicoecncaaDoor
