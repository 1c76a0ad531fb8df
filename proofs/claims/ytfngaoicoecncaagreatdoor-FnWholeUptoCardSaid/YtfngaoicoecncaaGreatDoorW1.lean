/-
  What the reference's small functions do.
-/
import Derived.Test.YtfngaoicoecncaaGreatDoorPure
import Derived.Laws.FloatArith
import Derived.Lib.Hide
namespace Go.Proofs.YtfngaoicoecncaaGreatDoor
open Go.RowKit

set_option maxHeartbeats 400000 in
theorem finite_any (x : Nat) (w : World) : Calls Tryz.prog 23 #[.float .f64 x] w fun e w' => e = .returned (.bool (finiteB x)) ∧ Ext w w' := by
  by_cases h : finiteB x = true
  · have hs : ∀ w, (binOp .sub 22 (.float .f64 x) (.float .f64 x)).run Tryz.prog w = .ok (.float .f64 0) w := fun w => run_float_arith w .sub _ _ _ _ _ (sub_finite h)
    rw [h]; clear h
    go_enter Tryz.func23, Tryz.ntmps23
    go_wp2
    go_ret
    exact ⟨ret_bool (by decide), by (repeat (first | exact ext_refl _ | assumption | refine ext_alloc ?_ _ | refine ext_drew ?_ | refine ext_set ?_ (by simp) _ | refine ext_trans ?_ (by assumption)))⟩
  · rw [Bool.not_eq_true] at h
    have hs : (binOp .sub 22 (.float .f64 x) (.float .f64 x)).run Tryz.prog w = .ok (.float .f64 ((Question.nanBits .f64 x x).cut (w.tape w.drawn (.nanBits .f64 x x)))) w.drew := by
      simp [binOp, Op.floatArith, sub_not_finite h, choose, Sem.run, Question.forced]
    have ho := fun v => order_nan (t := w.tape w.drawn (.nanBits .f64 x x)) x x rfl v
    rw [h]; clear h
    generalize (Question.nanBits .f64 x x).cut (w.tape w.drawn (.nanBits .f64 x x)) = q at hs ho
    go_enter Tryz.func23, Tryz.ntmps23
    go_wp2
    go_ret
    exact ⟨ret_bool (by simp), by (repeat (first | exact ext_refl _ | assumption | refine ext_alloc ?_ _ | refine ext_drew ?_ | refine ext_set ?_ (by simp) _ | refine ext_trans ?_ (by assumption)))⟩

set_option maxHeartbeats 400000 in
theorem scalar_any {S : Nat → Prop} (e : El) (t : T) (w : World) (h : TreeAt S w e t) :
    Calls Tryz.prog 7 #[e.val] w fun r w' => r = .returned (.bool (scalarT t)) ∧ Ext w w' := by
  cases t
  simp only [TreeAt] at h
  obtain ⟨rfl, rfl, rfl, rfl, h5, h6, -⟩ := h
  have h5 := h5.1
  simp only [scalarT, T.kind, T.text, T.num, T.keys, T.kids, h5, h6]
  clear h5 h6
  cases e
  simp only [El.val]
  rename_i k x d y ka n kc ca m cc _ _
  go_enter Tryz.func7, Tryz.ntmps7
  go_wp2_with (go_at_call 23; refine (finite_any _ _).mono ?_; rintro e w' ⟨rfl, hx⟩)
  all_goals go_ret
  all_goals refine ⟨ret_bool ?_, by (repeat (first | exact ext_refl _ | assumption | refine ext_alloc ?_ _ | refine ext_drew ?_ | refine ext_set ?_ (by simp) _ | refine ext_trans ?_ (by assumption)))⟩
  all_goals (go_tidy; simp_all [scalarF])

theorem hasS_snoc {l : List ByteArray} {s x : ByteArray} {k : Nat} (hx : l[k]? = some x) (h : hasS (l.take k) s = false) : hasS (l.take (k + 1)) s = seq x s := by
  rw [List.take_add_one, hx]
  simp only [hasS, Option.toList_some, List.any_append, List.any_cons, List.any_nil, Bool.or_false] at h ⊢
  rw [h, Bool.false_or]
theorem hasS_of_take {l : List ByteArray} {s : ByteArray} {k : Nat} (h : hasS (l.take k) s = true) : hasS l s = true := by
  simp only [hasS, List.any_eq_true] at h ⊢
  obtain ⟨x, hx, hs⟩ := h
  exact ⟨x, List.mem_of_mem_take hx, hs⟩

set_option maxHeartbeats 400000 in
theorem has_any {S : Nat → Prop} (a : Option Addr) (n c : Nat) (ss : List ByteArray) (s : ByteArray) (w : World) (h : StrsAt S w a n c ss) :
    Calls Tryz.prog 25 #[.slice a n c, .string s] w fun r w' => r = .returned (.bool (hasS ss s)) ∧ w = w' := by
  obtain ⟨hl, hn, hm, hc⟩ := h
  unfold maxLen at hm
  have HL := Lib.hid hl
  clear hl
  go_enter Tryz.func25, Tryz.ntmps25
  go_wp2
  go_loop [5] (fun i => ∃ k : Nat, k ≤ n ∧ i = .int .i64 k ∧ hasS (ss.take k) s = false) (fun i => n - (intOf i).toNat)
  case atStart => exact ⟨0, Nat.zero_le _, rfl, rfl⟩
  case round =>
    obtain ⟨k, hk, rfl, hany⟩ := hrel
    have HA := Lib.hid hany
    clear hany
    by_cases hlt : k < n
    · obtain ⟨x, hx⟩ := some_of_lt HL.out hlt
      obtain ⟨b, off, rfl, -, hcell⟩ := hc k x hx
      have HX := Lib.hid hx
      clear hc hx
      go_wp2
      · go_ret
        exact ⟨ret_bool (hasS_of_take (k := k + 1) (by rw [hasS_snoc HX.out HA.out]; assumption)).symm, rfl⟩
      · go_round
        case rel => exact ⟨k + 1, by omega, by go_num, by rw [hasS_snoc HX.out HA.out]; assumption⟩
        case measure => simp [intOf]; omega
    · clear hc
      go_wp2
      go_ret
      exact ⟨ret_bool (by have := HA.out; rwa [List.take_of_length_le (by have := HL.out; omega), eq_comm] at this), rfl⟩
end Go.Proofs.YtfngaoicoecncaaGreatDoor
