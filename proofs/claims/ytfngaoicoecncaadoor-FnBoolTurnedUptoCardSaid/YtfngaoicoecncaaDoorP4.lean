/-
  A query of a kind with pairs; the same with its settings.
-/
import Derived.Test.YtfngaoicoecncaaDoorP3
namespace Go.Proofs.YtfngaoicoecncaaDoor
open Go.RowKit

theorem els_of {S : Nat → Prop} {w : World} {b off : Nat} : ∀ (qs : List (ByteArray × T)) (k : Nat), (∀ (i : Nat) (p : ByteArray × T), qs[i]? = some p → ∃ e, Cells7 w b (off + (k + i) * 7) p.1 e ∧ TreeAt S w e p.2) →
    ∃ fs : List (ByteArray × El), Pk S w fs qs ∧ ∀ (i : Nat) (f : ByteArray × El), fs[i]? = some f → Cells7 w b (off + (k + i) * 7) f.1 f.2
  | [], _, _ => ⟨[], ⟨rfl, fun _ _ _ h => by simp at h⟩, fun _ _ h => by simp at h⟩
  | p :: r, k, h => by
    obtain ⟨e, h1, h2⟩ := h 0 p rfl
    obtain ⟨fs, h3, h4⟩ := els_of r (k + 1) fun i q hq => by
      have := h (i + 1) q (by simpa using hq)
      rwa [show k + (i + 1) = k + 1 + i by omega] at this
    refine ⟨(p.1, e) :: fs, ⟨by simp [h3.1], fun i f q hf hq => ?_⟩, fun i f hf => ?_⟩
    · cases i with
      | zero => simp at hf hq; subst hf; subst hq; exact ⟨rfl, h2⟩
      | succ i => exact h3.2 i f q (by simpa using hf) (by simpa using hq)
    · cases i with
      | zero => simp at hf; subst hf; exact h1
      | succ i =>
        have := h4 i f (by simpa using hf)
        rwa [show k + 1 + i = k + (i + 1) by omega] at this
theorem PairsAt.els {S : Nat → Prop} {w : World} {b off n c : Nat} {qs : List (ByteArray × T)} (h : PairsAt S w (some ⟨b, off, none⟩) n c qs) : ∃ fs : List (ByteArray × El), Pk S w fs qs ∧ ∀ (i : Nat) (f : ByteArray × El), fs[i]? = some f → Cells7 w b (off + i * 7) f.1 f.2 := by
  obtain ⟨fs, h1, h2⟩ := els_of (S := S) (w := w) (b := b) (off := off) qs 0 fun i p hp => by
    obtain ⟨b', off', e, ha, hS, hc, ht⟩ := h.2.2.2 i p hp
    cases ha
    exact ⟨e, by simpa using hc, ht⟩
  exact ⟨fs, h1, fun i f hf => by simpa using h2 i f hf⟩

end Go.Proofs.YtfngaoicoecncaaDoor
