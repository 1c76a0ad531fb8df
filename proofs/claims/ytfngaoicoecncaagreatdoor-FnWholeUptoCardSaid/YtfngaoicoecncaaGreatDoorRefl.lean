/-
  A tree without what is no JSON is the same as itself.
-/
import Derived.Test.YtfngaoicoecncaaGreatDoorP5
import Derived.Test.YtfngaoicoecncaaGreatDoorW4
namespace Go.Proofs.YtfngaoicoecncaaGreatDoor
open Go.RowKit

mutual
def okT : T → Bool
  | .mk k _ d _ _ xs => decide (k ≠ 6) && (!decide (k = 2) || finiteB d) && okTs xs
def okTs : List T → Bool
  | [] => true
  | t :: r => okT t && okTs r
end
theorem okTs_iff : ∀ l : List T, okTs l = true ↔ ∀ t ∈ l, okT t = true
  | [] => by simp [okTs]
  | t :: r => by simp [okTs, okTs_iff r]
theorem seqs_self : ∀ l : List ByteArray, seqs l l = true
  | [] => rfl
  | a :: r => by
    have := seqs_self r
    unfold seqs at this ⊢
    simp only [List.zip_cons_cons, List.all_cons, seq_self, Bool.true_and]
    exact this
mutual
theorem sameT_self : ∀ t : T, okT t = true → sameT t t = true
  | .mk k x d y ks xs, h => by
    simp only [okT, Bool.and_eq_true, Bool.or_eq_true, decide_eq_true_eq, Bool.not_eq_true', decide_eq_false_iff_not] at h
    obtain ⟨⟨h1, h2⟩, h3⟩ := h
    unfold sameT
    simp only [if_true]
    split
    · exact seq_self x
    · split
      · rcases h2 with h2 | h2
        · contradiction
        · simp [orderB2, order_self h2]
      · split
        · simp
        · simp [seqs_self, samesT_self xs h3]
theorem samesT_self : ∀ l : List T, okTs l = true → samesT l l = true
  | [], _ => by simp [samesT]
  | t :: r, h => by
    simp only [okTs, Bool.and_eq_true] at h
    simp [samesT, sameT_self t h.1, samesT_self r h.2]
end
theorem okT_map {ps : List (ByteArray × T)} (h : ∀ p ∈ ps, okT p.2 = true) : okT (mapT ps) = true := by
  obtain ⟨l, h1, h2, h3⟩ := mapT_told ps
  rw [h1]
  unfold mapOf
  simp only [okT, Bool.and_eq_true, Bool.or_eq_true, decide_eq_true_eq, Bool.not_eq_true', decide_eq_false_iff_not]
  refine ⟨⟨by decide, .inl (by decide)⟩, (okTs_iff _).2 fun t ht => ?_⟩
  obtain ⟨p, hp, rfl⟩ := List.mem_map.1 ht
  exact h _ (lastOf_mem (by rw [← h3]; exact (rising_mem h2).1 hp))
theorem okT_text (s : ByteArray) : okT (textT s) = true := by simp [textT, okT, okTs]
theorem okT_yes (b : Bool) : okT (yesT b) = true := by simp [yesT, okT, okTs]
theorem okT_num {x : Nat} (h : finiteB x = true) : okT (numT x) = true := by simp [numT, okT, okTs, h]
theorem okT_list {l : List T} (h : ∀ t ∈ l, okT t = true) : okT (listT l) = true := by
  simp only [listT, okT, Bool.and_eq_true, Bool.or_eq_true, decide_eq_true_eq, Bool.not_eq_true', decide_eq_false_iff_not]
  exact ⟨⟨by decide, .inl (by decide)⟩, (okTs_iff l).2 h⟩
end Go.Proofs.YtfngaoicoecncaaGreatDoor
