/-
  A number that is not less than 0 and not greater than 1000000 has a whole number within the integers' bounds.
-/
import Derived.Test.YtfngaoicoecncaaGreatDoorPure
import Derived.Laws.FloatArith
namespace Go.Proofs.YtfngaoicoecncaaGreatDoor
open Go.RowKit

theorem read_mag {x : Nat} {s : Bool} {m : Nat} {i : Int} (h : FloatKind.f64.format.read x = .number s m i) : m < 9007199254740992 := by
  unfold Ieee.Format.read at h
  dsimp only at h
  have e2 : FloatKind.f64.format.binade = 4503599627370496 := by decide
  rw [e2] at h
  split at h
  · cases h; omega
  · split at h
    · cases h
      have := Nat.mod_lt (x % FloatKind.f64.format.signWeight) (show 4503599627370496 > 0 by omega)
      omega
    · split at h <;> cases h
theorem whole_some {d : Nat} (h2 : (FloatKind.f64.format.order d 4696837146684686336 == some .lt || FloatKind.f64.format.order d 4696837146684686336 == some .eq) = true)
    (h1 : (FloatKind.f64.format.order d 0 == some .gt || FloatKind.f64.format.order d 0 == some .eq) = true) : ∃ n, floatToIntVal .f64 d .i64 = some n := by
  have r0 : FloatKind.f64.format.read 0 = .number false 0 (-1074) := by decide
  have r1 : FloatKind.f64.format.read 4696837146684686336 = .number false 8589934592000000 (-33) := by decide
  unfold Ieee.Format.order at h1 h2
  rw [r0] at h1
  rw [r1] at h2
  cases hr : FloatKind.f64.format.read d with
  | nan s f => rw [hr] at h1; simp [Ieee.Datum.order] at h1
  | infinity s => rw [hr] at h1 h2; cases s <;> simp [Ieee.Datum.order] at h1 h2
  | number s m i =>
    have hm := read_mag hr
    rw [hr] at h1 h2
    unfold floatToIntVal FloatKind.decode
    rw [hr]
    have key : (Ieee.Toward.zero.cut s (m <<< i.toNat) (-i).toNat) ≤ 9007199254740992 := by
      unfold Ieee.Toward.cut
      simp only [Bool.toNat_false, Nat.add_zero]
      refine Nat.le_trans (Nat.div_le_self _ _) ?_
      by_cases hi : i ≤ 0
      · have : i.toNat = 0 := by omega
        rw [this]
        simp
        omega
      · have hb : min i (-33) = -33 := by omega
        have hb0 : min i (-1074) = -1074 := by omega
        simp only [Ieee.Datum.order, hb, hb0, Ieee.signed] at h1 h2
        obtain ⟨k, rfl⟩ : ∃ k : Nat, i = (k : Int) := ⟨i.toNat, by omega⟩
        have e3 : ((k : Int) - -33).toNat = k + 33 := by omega
        have e4 : ((-33 : Int) - -33).toNat = 0 := by omega
        have e5 : ((k : Int) - -1074).toNat = k + 1074 := by omega
        rw [e3, e4] at h2
        rw [e5] at h1
        simp only [Int.toNat_natCast]
        cases s
        · have h3 : m <<< (k + 33) ≤ 8589934592000000 := by
            simp only [Bool.false_eq_true, if_false, Nat.shiftLeft_zero] at h2
            rw [Bool.or_eq_true, beq_iff_eq, beq_iff_eq] at h2
            rcases h2 with h2 | h2
            · have := Int.compare_eq_lt.1 (Option.some.inj h2)
              omega
            · have := Int.compare_eq_eq.1 (Option.some.inj h2)
              omega
          rw [Nat.shiftLeft_add, Nat.shiftLeft_eq (m <<< k) 33] at h3
          omega
        · have h3 : m <<< (k + 1074) = 0 := by
            simp only [if_true, Bool.false_eq_true, if_false, Nat.zero_shiftLeft] at h1
            generalize m <<< (k + 1074) = q at h1 ⊢
            rw [Bool.or_eq_true, beq_iff_eq, beq_iff_eq] at h1
            rcases h1 with h1 | h1
            · have := Int.compare_eq_gt.1 (Option.some.inj h1)
              omega
            · have := Int.compare_eq_eq.1 (Option.some.inj h1)
              omega
          rw [Nat.shiftLeft_add, Nat.shiftLeft_eq (m <<< k) 1074] at h3
          have : 0 < 2 ^ 1074 := Nat.two_pow_pos 1074
          have h4 : m <<< k = 0 := by
            rcases Nat.mul_eq_zero.1 h3 with h | h
            · exact h
            · omega
          omega
    have hn : (Ieee.Datum.number s m i).toInt .zero = some (Ieee.signed s (Ieee.Toward.zero.cut s (m <<< i.toNat) (-i).toNat) 0) := rfl
    rw [hn]
    refine ⟨_, if_pos ?_⟩
    generalize Ieee.Toward.zero.cut s (m <<< i.toNat) (-i).toNat = c at key
    have e1 : IntKind.i64.min = -9223372036854775808 := by decide
    have e2 : IntKind.i64.max = 9223372036854775807 := by decide
    rw [e1, e2]
    unfold Ieee.signed
    simp only [Nat.shiftLeft_zero]
    cases s <;> simp <;> omega
end Go.Proofs.YtfngaoicoecncaaGreatDoor
