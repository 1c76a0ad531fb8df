/-
  Bounds on lists and trees; lists that are filled.
-/
import Derived.Test.YtfngaoicoecncaaGreatDoorF3
namespace Go.Proofs.YtfngaoicoecncaaGreatDoor
open Go.RowKit

theorem scalar_yes {S : Nat → Prop} (e : El) (t : T) (w : World) (h : TreeAt S w e t) : Calls Tryz.prog 7 #[e.val] w (Yes (scalarT t = true) w) :=
  (scalar_any e t w h).mono fun _ _ ⟨h1, h2⟩ => ⟨_, h1, id, h2⟩
set_option maxHeartbeats 400000 in
theorem zzFits1_any {S : Nat → Prop} (a : Option Addr) (n c : Nat) (ss : List ByteArray) (w : World) (h : StrsAt S w a n c ss) :
    Calls Tryz.prog 22 #[.slice a n c] w (Yes (n ≤ 2147483647) w) := by
  obtain ⟨hl, hn, hm, hc⟩ := h
  unfold maxLen at hm
  have HL := Lib.hid hl
  clear hl
  go_enter Tryz.func22, Tryz.ntmps22
  by_cases hbig : 2147483647 < n
  · go_wp2_with fail
    go_ret
    exact ⟨false, rfl, by simp, by (repeat (first | exact ext_refl _ | assumption | refine ext_alloc ?_ _ | refine ext_drew ?_ | refine ext_set ?_ (by simp) _ | refine ext_trans ?_ (by assumption)))⟩
  · go_wp2_with fail
    go_loopw [10] (fun i wr => Ext w wr ∧ ∃ k : Nat, k ≤ n ∧ i = .int .i64 k) (fun i _ => n - (intOf i).toNat)
    case atStart => exact ⟨ext_refl _, 0, Nat.zero_le _, rfl⟩
    case round =>
      obtain ⟨hx, k, hk, rfl⟩ := hrel
      by_cases hlt : k < n
      · obtain ⟨t, ht⟩ := some_of_lt HL.out hlt
        obtain ⟨b, off, rfl, -, hcell⟩ := hc k t ht
        have hcell := hx.cell hcell
        by_cases hsz : 2147483647 < t.size
        · go_wp2_with fail
          go_ret
          exact ⟨false, rfl, by simp, by (repeat (first | exact ext_refl _ | assumption | refine ext_alloc ?_ _ | refine ext_drew ?_ | refine ext_set ?_ (by simp) _ | refine ext_trans ?_ (by assumption)))⟩
        · go_wp2_with fail
          go_roundw
          case rel => exact ⟨by (repeat (first | exact ext_refl _ | assumption | refine ext_alloc ?_ _ | refine ext_drew ?_ | refine ext_set ?_ (by simp) _ | refine ext_trans ?_ (by assumption))), k + 1, by omega, by go_num⟩
          case measure => simp [intOf]; omega
      · go_wp2_with fail
        go_ret
        exact ⟨true, rfl, fun _ => by omega, by (repeat (first | exact ext_refl _ | assumption | refine ext_alloc ?_ _ | refine ext_drew ?_ | refine ext_set ?_ (by simp) _ | refine ext_trans ?_ (by assumption)))⟩
set_option maxHeartbeats 400000 in
theorem zzFits5_any {S : Nat → Prop} (e : El) (t : T) (w : World) (h : TreeAt S w e t) :
    Calls Tryz.prog 6 #[e.val] w (Yes True w) := by
  obtain ⟨k, x, d, y, ka, n, kc, ca, m, cc⟩ := e
  have hz := Lib.hid fun w' (xx : Ext w w') => zzFits1_any ka n kc t.keys w' (h.parts.2.2.2.2.1.ext xx)
  clear h
  simp only [El.val]
  have hb0 : Box (w.alloc (.cells #[.int .i64 k, .string x, .float .f64 d, .bool y, .slice ka n kc, .slice ca m cc] 26)) w.heap.size _ _ := Box.at rfl _ _
  have hx0 : Ext w (w.alloc (.cells #[.int .i64 k, .string x, .float .f64 d, .bool y, .slice ka n kc, .slice ca m cc] 26)) := ext_alloc (ext_refl _) _
  go_enter Tryz.func6, Tryz.ntmps6
  by_cases h1 : 2147483647 < x.size
  · go_wp2_with fail
    go_ret
    exact ⟨false, rfl, by simp, by (repeat (first | exact ext_refl _ | assumption | refine ext_alloc ?_ _ | refine ext_drew ?_ | refine ext_set ?_ (by simp) _ | refine ext_trans ?_ (by assumption)))⟩
  · go_wp2_with (go_at_call 22; refine (hz.out _ hx0).mono ?_; rintro r w2 ⟨b, rfl, -, hx⟩; obtain ⟨o0, o1, o2, o3, o4, o5⟩ := (hb0.ext hx).six; cases b)
    · go_ret
      exact ⟨false, rfl, by simp, ext_trans hx0 hx⟩
    · go_ret
      exact ⟨false, rfl, by simp, ext_trans hx0 hx⟩
    · go_ret
      exact ⟨true, rfl, by simp, ext_trans hx0 hx⟩
end Go.Proofs.YtfngaoicoecncaaGreatDoor
