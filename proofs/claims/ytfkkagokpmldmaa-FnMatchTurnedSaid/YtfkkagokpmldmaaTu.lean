/-
  What is handed over says the same as itself.
-/
import Derived.Test.YtfkkagokpmldmaaBk
namespace Go.Proofs.Ytfkkagokpmldmaa
open Go.RowKit

def Selfs (l : List (ByteArray × T)) : Prop := ∀ p ∈ l, sameT p.2 p.2 = true
theorem Selfs.same {l : List (ByteArray × T)} (h : Selfs l) : SameL l l := fun x => by
  cases hl : lastOf l x with
  | none => trivial
  | some t => exact h (x, t) (lastOf_mem hl)
theorem Selfs.append {a b : List (ByteArray × T)} (h : Selfs a) (k : Selfs b) : Selfs (a ++ b) := fun p hp => (List.mem_append.1 hp).elim (h p) (k p)
theorem Selfs.nil : Selfs [] := fun p hp => by simp at hp
theorem Selfs.one {k : ByteArray} {t : T} (h : sameT t t = true) : Selfs [(k, t)] := fun p hp => by simp at hp; subst hp; exact h
theorem order_eq {a x : Nat} (h : orderB2 a x = true) : orderB2 a a = true := by
  simp only [orderB2, beq_iff_eq] at h ⊢
  unfold Ieee.Format.order at h ⊢
  cases hr : FloatKind.f64.format.read a with
  | nan s f => rw [hr] at h; simp [Ieee.Datum.order] at h
  | infinity s => cases s <;> simp [Ieee.Datum.order]
  | number s m i =>
    simp only [Ieee.Datum.order]
    exact congrArg some (Int.compare_eq_eq.2 rfl)
theorem num_self {t : T} (h1 : t.kind = 2) (h2 : scalarT t = true) : sameT (numT t.num) (numT t.num) = true := by
  have h3 := same_num h1 h2
  obtain ⟨k, x, d, y, ks, xs⟩ := t
  simp only [T.kind] at h1
  subst h1
  simp only [numT, sameT, T.num] at h3 ⊢
  have h4 : orderB2 d d = true := by simp_all
  simp [h4]
theorem jT_self (k : ByteArray) (o : Option T) : Selfs (jTree (jT k o)) := fun p hp => by
  unfold jT at hp
  split at hp
  · simp at hp
  · simp at hp; subst hp; exact sameT_self _ (okT_text _)
theorem jY_self (k : ByteArray) (o : Option T) : Selfs (jTree (jY k o)) := fun p hp => by
  cases o with
  | none => simp [jY] at hp
  | some t => simp [jY] at hp; subst hp; exact sameT_self _ (okT_yes _)
theorem jN_self {rs : List (ByteArray × ByteArray)} {ps : List (ByteArray × T)} (hF : FitsP rs ps) {k : ByteArray} (hk : kindL rs k = ⟨#[110]⟩) : Selfs (jTree (jN k (lastOf ps k))) := fun p hp => by
  cases ho : lastOf ps k with
  | none => rw [ho] at hp; simp [jN] at hp
  | some t =>
    rw [ho] at hp
    simp [jN] at hp
    subst hp
    have hf := fits_last hF ho
    rw [hk] at hf
    obtain ⟨hs, h | h | h | h | h⟩ := hf
    · exact absurd h.1 (by decide)
    · exact num_self h.2 hs
    · exact absurd h.1 (by decide)
    · exact absurd h.1 (by decide)
    · exact absurd h (by decide)
theorem jOf_self {t : T} (h : scalarT t = true) : sameT (treeJ (jOf t)) (treeJ (jOf t)) = true := by
  unfold jOf
  rcases scalar_kind h with hk | hk | hk
  · rw [if_pos hk]; exact sameT_self _ (okT_text _)
  · rw [if_neg (by omega), if_pos hk]; exact num_self hk h
  · rw [if_neg (by omega), if_neg (by omega)]; exact sameT_self _ (okT_yes _)
theorem jV_self {rs : List (ByteArray × ByteArray)} {ps : List (ByteArray × T)} (hF : FitsP rs ps) (k : ByteArray) : Selfs (jTree (jV k (lastOf ps k))) := fun p hp => by
  cases ho : lastOf ps k with
  | none => rw [ho] at hp; simp [jV] at hp
  | some t => rw [ho] at hp; simp [jV] at hp; subst hp; exact jOf_self (fits_last hF ho).1
theorem jW_self {rs : List (ByteArray × ByteArray)} {ps : List (ByteArray × T)} (hF : FitsP rs ps) {k : ByteArray} (hk : kindL rs k = ⟨#[119]⟩) : Selfs (jTree (jW k (lastOf ps k))) := fun p hp => by
  cases ho : lastOf ps k with
  | none => rw [ho] at hp; simp [jW] at hp
  | some t =>
    rw [ho] at hp
    have hf := fits_last hF ho
    rw [hk] at hf
    obtain ⟨hs, h | h | h | h | h⟩ := hf
    · exact absurd h.1 (by decide)
    · exact absurd h.1 (by decide)
    · obtain ⟨-, h2, z, hz, hq⟩ := h
      rw [jW_some hz] at hp
      simp at hp
      subst hp
      have := order_eq hq
      simp [treeJ, numT, sameT, this]
    · exact absurd h.1 (by decide)
    · exact absurd h (by decide)
theorem selfs_map {l : List (ByteArray × T)} (h : Selfs l) : sameT (mapT l) (mapT l) = true := sameT_map h.same
theorem short_self {v : J} {fix opts : List (ByteArray × J)} (hv : sameT (treeJ v) (treeJ v) = true) (hf : Selfs (jTree fix)) (ho : Selfs (jTree opts)) : sameT (treeJ (jShort v fix opts)) (treeJ (jShort v fix opts)) = true := by
  unfold jShort
  split
  · exact hv
  · rw [treeJ_jMap, List.map_append]
    exact selfs_map (hf.append ho)
/-- The same settings from the last one to the first one fit, too. -/
theorem fits_back {rs : List (ByteArray × ByteArray)} {ps : List (ByteArray × T)} (h : FitsP rs ps) : FitsP rs ps.reverse := fun i p hp => by
  obtain ⟨j, hj⟩ := List.getElem?_of_mem (List.mem_reverse.1 (List.mem_of_getElem? hp))
  exact h j p hj
end Go.Proofs.Ytfkkagokpmldmaa
