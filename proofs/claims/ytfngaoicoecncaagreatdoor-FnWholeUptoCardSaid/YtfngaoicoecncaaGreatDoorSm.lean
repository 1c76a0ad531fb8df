/-
  Maps whose values are the same, key for key, are the same.
-/
import Derived.Test.YtfngaoicoecncaaGreatDoorRefl
import Derived.Test.YtfngaoicoecncaaGreatDoorQ
namespace Go.Proofs.YtfngaoicoecncaaGreatDoor
open Go.RowKit

def OptSame : Option T → Option T → Prop
  | none, none => True
  | some a, some b => sameT a b = true
  | _, _ => False
theorem sameT_map {ps qs : List (ByteArray × T)} (h : ∀ k, OptSame (lastOf ps k) (lastOf qs k)) : sameT (mapT ps) (mapT qs) = true := by
  obtain ⟨l, h1, h2, h3⟩ := mapT_told ps
  obtain ⟨m, k1, k2, k3⟩ := mapT_told qs
  have hu : l.map (fun p => (p.1, ())) = m.map fun p => (p.1, ()) := by
    refine rising_eq (List.pairwise_map.2 h2) (List.pairwise_map.2 k2) fun x => ?_
    have e1 := lastOf_map (fun _ : T => ()) l x
    have e2 := lastOf_map (fun _ : T => ()) m x
    rw [e1, e2, h3, k3]
    have := h x
    cases hp : lastOf ps x <;> cases hq : lastOf qs x <;> rw [hp, hq] at this <;> simp [OptSame] at this ⊢
  have hlen : l.length = m.length := by simpa using congrArg List.length hu
  have hkey : ∀ (i : Nat) (p q : ByteArray × T), l[i]? = some p → m[i]? = some q → p.1 = q.1 := fun i p q hp hq => by
    have := congrArg (fun L => L[i]?) hu
    simp only [List.getElem?_map, hp, hq, Option.map_some, Option.some.injEq, Prod.mk.injEq, and_true] at this
    exact this
  have hks : l.map Prod.fst = m.map Prod.fst := by
    have := congrArg (List.map Prod.fst) hu
    simpa [List.map_map, Function.comp_def] using this
  rw [h1, k1]
  unfold mapOf sameT
  simp only [if_true, List.length_map, hlen, hks, seqs_self, Bool.true_and]
  rw [if_neg (by decide), if_neg (by decide), if_neg (by decide), if_neg (by decide), samesT_eq, List.all_eq_true]
  intro z hz
  obtain ⟨i, hi⟩ := List.getElem?_of_mem hz
  rw [List.getElem?_zip_eq_some] at hi
  obtain ⟨hi1, hi2⟩ := hi
  rw [List.getElem?_map] at hi1 hi2
  cases hp : l[i]? with
  | none => rw [hp] at hi1; cases hi1
  | some p =>
    cases hq : m[i]? with
    | none => rw [hq] at hi2; cases hi2
    | some q =>
      rw [hp] at hi1
      rw [hq] at hi2
      simp at hi1 hi2
      have := h p.1
      rw [← h3, ← k3, rising_lookup h2 hp] at this
      rw [hkey i p q hp hq, rising_lookup k2 hq] at this
      rw [← hi1, ← hi2]
      exact this

/-- What is handed over for a setting is what was set. -/
theorem same_text {t : T} (h1 : t.kind = 1) (h2 : scalarT t = true) : sameT (textT t.text) t = true ∧ t.text ≠ emptyS := by
  obtain ⟨k, x, d, y, ks, xs⟩ := t
  simp only [T.kind] at h1
  subst h1
  simp only [scalarT, scalarF, T.kind, T.text, T.num, T.keys, T.kids] at h2
  have hk : ks = [] := by
    cases ks with
    | nil => rfl
    | cons => simp at h2
  subst hk
  have hx : xs = [] := by
    cases xs with
    | nil => rfl
    | cons => simp at h2
  subst hx
  refine ⟨by simp [textT, sameT, T.text, seq_self], fun e => ?_⟩
  simp only [T.text] at e
  rw [e, emptyS_list] at h2
  simp at h2
theorem same_num {t : T} (h1 : t.kind = 2) (h2 : scalarT t = true) : sameT (numT t.num) t = true := by
  obtain ⟨k, x, d, y, ks, xs⟩ := t
  simp only [T.kind] at h1
  subst h1
  simp only [scalarT, scalarF, T.kind, T.text, T.num, T.keys, T.kids] at h2
  have hk : ks = [] := by
    cases ks with
    | nil => rfl
    | cons => simp at h2
  subst hk
  have hx : xs = [] := by
    cases xs with
    | nil => rfl
    | cons => simp at h2
  subst hx
  have hf : finiteB d = true := by simpa using h2
  simp [numT, sameT, T.num, orderB2, order_self hf]
theorem same_yes {t : T} (h1 : t.kind = 3) (h2 : scalarT t = true) : sameT (yesT t.yes) t = true := by
  obtain ⟨k, x, d, y, ks, xs⟩ := t
  simp only [T.kind] at h1
  subst h1
  simp only [scalarT, scalarF, T.kind, T.text, T.num, T.keys, T.kids] at h2
  have hk : ks = [] := by
    cases ks with
    | nil => rfl
    | cons => simp at h2
  subst hk
  have hx : xs = [] := by
    cases xs with
    | nil => rfl
    | cons => simp at h2
  subst hx
  simp [yesT, sameT, T.yes]
end Go.Proofs.YtfngaoicoecncaaGreatDoor
