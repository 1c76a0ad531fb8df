/-
  A whole number that is not less than 0 and not greater than 1000000 is a number of JSON; a number as a tree.
-/
import Derived.Test.YtfngaoicoecncaaGreatDoorW5
import Derived.Test.YtfngaoicoecncaaGreatDoorJ
import Derived.Laws.FloatArith
namespace Go.Proofs.YtfngaoicoecncaaGreatDoor
open Go.RowKit

theorem finite_low {x : Nat} (h : x < FloatKind.f64.format.infRung) : finiteB x = true := by
  have hs : FloatKind.f64.format.signWeight = 9223372036854775808 := by decide
  have hi : FloatKind.f64.format.infRung = 9218868437227405312 := by decide
  have hr : x % FloatKind.f64.format.signWeight = x := Nat.mod_eq_of_lt (by omega)
  unfold finiteB Ieee.Format.read
  dsimp only
  rw [hr, if_pos h]
  by_cases hb : x < FloatKind.f64.format.binade
  · rw [if_pos hb]
  · rw [if_neg hb]
theorem near_low {m : Nat} (h : m ≤ 1000000) : FloatKind.f64.format.nearest false m 0 < FloatKind.f64.format.infRung := by
  have hi : FloatKind.f64.format.infRung = 9218868437227405312 := by decide
  have hb : FloatKind.f64.format.binade = 4503599627370496 := by decide
  have hf : FloatKind.f64.format.fractionBits = 52 := by decide
  have hl : FloatKind.f64.format.leastPlace = -1074 := by decide
  unfold Ieee.Format.nearest
  by_cases h0 : m = 0
  · rw [if_pos h0, hi]; decide
  · rw [if_neg h0]
    have hg : m.log2 < 20 := (Nat.log2_lt h0).2 (by omega)
    have hq : m < 2 ^ (m.log2 + 1) := Nat.lt_log2_self
    dsimp only
    rw [hf, hl, hb, hi]
    have e1 : max ((0 : Int) + (m.log2 : Nat) - (52 : Nat)) (-1074) = (m.log2 : Int) - 52 := by omega
    rw [e1]
    have e2 : ((0 : Int) - ((m.log2 : Int) - 52)).toNat = 52 - m.log2 := by omega
    have e3 : (((m.log2 : Int) - 52) - 0).toNat = 0 := by omega
    have e4 : (((m.log2 : Int) - 52) - -1074).toNat = 1022 + m.log2 := by omega
    rw [e2, e3, e4]
    have hk : Ieee.Toward.even.cut false (m <<< (52 - m.log2)) 0 = m <<< (52 - m.log2) := by
      unfold Ieee.Toward.cut
      simp [Nat.mod_one]
    rw [hk, Nat.shiftLeft_eq]
    have h2 : m * 2 ^ (52 - m.log2) < 2 ^ (m.log2 + 1) * 2 ^ (52 - m.log2) := Nat.mul_lt_mul_of_pos_right hq (Nat.two_pow_pos _)
    rw [← Nat.pow_add, show m.log2 + 1 + (52 - m.log2) = 53 by omega] at h2
    unfold Ieee.Format.word
    simp only [Bool.false_eq_true, if_false]
    generalize m * 2 ^ (52 - m.log2) = y at h2 ⊢
    generalize m.log2 = l at hg ⊢
    have h3 : y < 9007199254740992 := Nat.lt_of_lt_of_le h2 (by decide)
    clear h2 hq hk hi hb hf hl
    have h4 : (1022 + l) * 4503599627370496 ≤ 1041 * 4503599627370496 := Nat.mul_le_mul_right _ (by omega)
    have h5 : (1022 + l) * 4503599627370496 + y < 9218868437227405312 := Nat.lt_of_lt_of_le (Nat.add_lt_add_of_le_of_lt h4 h3) (by decide)
    exact Nat.lt_of_le_of_lt (Nat.min_le_left _ _) h5
theorem finite_small {z : Int} (h0 : 0 ≤ z) (h1 : z ≤ 1000000) : finiteB (floatOfInt .f64 z) = true := by
  refine finite_low ?_
  have e : floatOfInt .f64 z = FloatKind.f64.format.nearest (decide (z < 0)) z.natAbs 0 := rfl
  have e2 : decide (z < 0) = false := by simp; omega
  rw [e, e2]
  exact near_low (by omega)
theorem number_any (x : Nat) (w : World) : Calls Tryz.prog 69 #[.float .f64 x] w fun r w' => ∃ g : El, r = .returned g.val ∧ (∀ S, TreeAt S w' g (numT x)) ∧ Ext w w' := by
  go_enter Tryz.func69, Tryz.ntmps69
  go_wp2
  refine post_tree rfl rfl (Box.at rfl _ _) rfl ⟨⟨2, ⟨#[]⟩, x, false, none, 0, 0, none, 0, 0⟩, rfl, fun S => TreeAt.of rfl rfl rfl rfl (strs_none _) (kids_none _), by (repeat (first | exact ext_refl _ | assumption | refine ext_alloc ?_ _ | refine ext_drew ?_ | refine ext_set ?_ (by simp) _ | refine ext_trans ?_ (by assumption)))⟩
end Go.Proofs.YtfngaoicoecncaaGreatDoor
