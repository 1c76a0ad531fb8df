/-
  Bounds on lists and trees; lists that are filled.
-/
import Derived.Test.YtfngaoicoecncaaF3
namespace Go.Proofs.Ytfngaoicoecncaa
open Go.RowKit

theorem scalar_yes {S : Nat → Prop} (e : El) (t : T) (w : World) (h : TreeAt S w e t) : Calls Try.prog 81 #[e.val] w (Yes (scalarT t = true) w) :=
  (scalar_any e t w h).mono fun _ _ ⟨h1, h2⟩ => ⟨_, h1, id, h2⟩
set_option maxHeartbeats 400000 in
theorem zzFits1_any {S : Nat → Prop} (a : Option Addr) (n c : Nat) (ss : List ByteArray) (w : World) (h : StrsAt S w a n c ss) :
    Calls Try.prog 12 #[.slice a n c] w (Yes (n ≤ 2147483647) w) := by
  obtain ⟨hl, hn, hm, hc⟩ := h
  unfold maxLen at hm
  have HL := Lib.hid hl
  clear hl
  go_enter Try.func12, Try.ntmps12
  by_cases hbig : 2147483647 < n
  · go_wp2_with fail
    go_ret
    exact ⟨false, rfl, by simp, by (repeat (first | exact ext_refl _ | assumption | refine ext_alloc ?_ _ | refine ext_drew ?_ | refine ext_set ?_ (by simp) _ | refine ext_trans ?_ (by assumption)))⟩
  · go_wp2_with fail
    go_loopw [10] (fun i wr => Ext w wr ∧ ∃ k : Nat, k ≤ n ∧ i = .int .i64 k) (fun i _ => n - (intOf i).toNat)
    case atStart => exact ⟨ext_refl _, 0, Nat.zero_le _, rfl⟩
    case round =>
      obtain ⟨hx, k, hk, rfl⟩ := hrel
      by_cases hlt : k < n
      · obtain ⟨t, ht⟩ := some_of_lt HL.out hlt
        obtain ⟨b, off, rfl, -, hcell⟩ := hc k t ht
        have hcell := hx.cell hcell
        by_cases hsz : 2147483647 < t.size
        · go_wp2_with fail
          go_ret
          exact ⟨false, rfl, by simp, by (repeat (first | exact ext_refl _ | assumption | refine ext_alloc ?_ _ | refine ext_drew ?_ | refine ext_set ?_ (by simp) _ | refine ext_trans ?_ (by assumption)))⟩
        · go_wp2_with fail
          go_roundw
          case rel => exact ⟨by (repeat (first | exact ext_refl _ | assumption | refine ext_alloc ?_ _ | refine ext_drew ?_ | refine ext_set ?_ (by simp) _ | refine ext_trans ?_ (by assumption))), k + 1, by omega, by go_num⟩
          case measure => simp [intOf]; omega
      · go_wp2_with fail
        go_ret
        exact ⟨true, rfl, fun _ => by omega, by (repeat (first | exact ext_refl _ | assumption | refine ext_alloc ?_ _ | refine ext_drew ?_ | refine ext_set ?_ (by simp) _ | refine ext_trans ?_ (by assumption)))⟩
end Go.Proofs.Ytfngaoicoecncaa
