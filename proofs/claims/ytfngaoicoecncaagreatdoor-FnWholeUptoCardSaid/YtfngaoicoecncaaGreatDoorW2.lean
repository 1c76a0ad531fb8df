/-
  What the reference's functions over lists of trees do: loops.
-/
import Derived.Test.YtfngaoicoecncaaGreatDoorW1
namespace Go.Proofs.YtfngaoicoecncaaGreatDoor
open Go.RowKit

theorem all_snoc {α : Type} {p : α → Bool} {l : List α} {x : α} {k : Nat} (hx : l[k]? = some x) (h : (l.take k).all p = true) : (l.take (k + 1)).all p = p x := by
  rw [List.take_add_one, hx]
  simp only [Option.toList_some, List.all_append, List.all_cons, List.all_nil, Bool.and_true]
  rw [h, Bool.true_and]
theorem all_false {α : Type} {p : α → Bool} {l : List α} {x : α} {k : Nat} (hx : l[k]? = some x) (h : p x = false) : l.all p = false := by
  rw [Bool.eq_false_iff]
  intro hh
  have := List.all_eq_true.1 hh x (List.mem_of_getElem? hx)
  rw [h] at this
  cases this

set_option maxHeartbeats 400000 in
theorem scalars_any {S : Nat → Prop} (a : Option Addr) (n c : Nat) (ts : List T) (w : World) (h : KidsAt S w a n c ts) :
    Calls Tryz.prog 72 #[.slice a n c] w fun r w' => r = .returned (.bool (scalarsT ts)) ∧ Ext w w' := by
  have HK := Lib.hid h
  obtain ⟨hl, hn, hm, -⟩ := h
  unfold maxLen at hm
  have HL := Lib.hid hl
  clear hl
  go_enter Tryz.func72, Tryz.ntmps72
  go_wp2
  go_loopw [3] (fun i wr => Ext w wr ∧ ∃ k : Nat, k ≤ n ∧ i = .int .i64 k ∧ (ts.take k).all scalarT = true) (fun i _ => n - (intOf i).toNat)
  case atStart => exact ⟨ext_refl _, 0, Nat.zero_le _, rfl, rfl⟩
  case round =>
    obtain ⟨hx, k, hk, rfl, hall⟩ := hrel
    have HA := Lib.hid hall
    clear hall
    by_cases hlt : k < n
    · obtain ⟨t, ht⟩ := some_of_lt HL.out hlt
      obtain ⟨b, off, e, rfl, -, hcell, hT⟩ := (KidsAt.ext hx HK.out).get ht
      have HT := Lib.hid ht
      clear ht
      obtain ⟨c0, c1, c2, c3, c4, c5⟩ := hcell
      go_wp2_with (go_at_call 7; refine (scalar_any e _ _ hT).mono ?_; rintro r w' ⟨rfl, hx2⟩)
      · go_ret
        exact ⟨ret_bool (by rw [scalarsT, all_false HT.out (by simpa using ‹(!scalarT t) = true›), Bool.false_and]), by (repeat (first | exact ext_refl _ | assumption | refine ext_alloc ?_ _ | refine ext_drew ?_ | refine ext_set ?_ (by simp) _ | refine ext_trans ?_ (by assumption)))⟩
      · go_roundw
        case rel => exact ⟨by (repeat (first | exact ext_refl _ | assumption | refine ext_alloc ?_ _ | refine ext_drew ?_ | refine ext_set ?_ (by simp) _ | refine ext_trans ?_ (by assumption))), k + 1, by omega, by go_num, by rw [all_snoc HT.out HA.out]; simpa using ‹(!scalarT t) = false›⟩
        case measure => simp [intOf]; omega
    · go_wp2
      go_ret
      exact ⟨ret_bool (by
        have := HA.out
        rw [List.take_of_length_le (by have := HL.out; omega)] at this
        rw [scalarsT, this, Bool.true_and, HL.out]), by (repeat (first | exact ext_refl _ | assumption | refine ext_alloc ?_ _ | refine ext_drew ?_ | refine ext_set ?_ (by simp) _ | refine ext_trans ?_ (by assumption)))⟩
end Go.Proofs.YtfngaoicoecncaaGreatDoor
