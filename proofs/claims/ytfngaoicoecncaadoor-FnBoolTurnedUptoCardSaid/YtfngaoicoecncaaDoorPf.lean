/-
  A proper tree that is handed over, and told, is the tree that it was.
-/
import Derived.Test.YtfngaoicoecncaaDoorPn
namespace Go.Proofs.YtfngaoicoecncaaDoor
open Go.RowKit Go.Maps

theorem keys_zip {ks : List ByteArray} {ts : List T} (h : ks.length = ts.length) : (ks.zip ts).map Prod.fst = ks ∧ (ks.zip ts).map Prod.snd = ts :=
  ⟨List.map_fst_zip (by omega), List.map_snd_zip (by omega)⟩
theorem rising_zip {ks : List ByteArray} {ts : List T} (h : ks.length = ts.length) (hr : ks.Pairwise lt) : Rising (ks.zip ts) := by
  have h1 : ((ks.zip ts).map Prod.fst).Pairwise lt := by rw [(keys_zip h).1]; exact hr
  exact List.pairwise_map.1 h1
theorem mapT_zip {ks : List ByteArray} {ts : List T} (h : ks.length = ts.length) (hr : ks.Pairwise lt) : mapT (ks.zip ts) = .mk 5 emptyS 0 false ks ts := by
  rw [mapT_of (rising_zip h hr) fun _ => rfl]
  unfold mapOf
  rw [(keys_zip h).1, (keys_zip h).2]
mutual
theorem jFull_same : ∀ t : T, FullT t → sameT (treeJ (jFull t)) t = true
  | .mk k x d y keys kids, h => by
    rw [FullT] at h
    rcases h with h | ⟨⟨rfl, rfl⟩ | ⟨rfl, hl, hr⟩, -, -, hk⟩
    · rw [jFull_scalar (scalar_kind h)]
      exact jOf_same h
    · have hj : jFull (.mk 4 x d y [] kids) = .list (jFulls kids) := by simp [jFull]
      have hs := jFulls_same kids hk
      have hlen : (treesJ (jFulls kids)).length = kids.length := by rw [treesJ_len, jFulls_eq, List.length_map]
      rw [hj]
      simp [treeJ, listT, sameT, hlen, hs, seqs]
    · have hj : jFull (.mk 5 x d y keys kids) = .map keys (jFulls kids) := by simp [jFull]
      have hs := jFulls_same kids hk
      have hlen : (treesJ (jFulls kids)).length = kids.length := by rw [treesJ_len, jFulls_eq, List.length_map]
      rw [hj, treeJ, mapT_zip (by rw [hlen]; exact hl) hr]
      simp [sameT, hlen, hs, seqs_self]
theorem jFulls_same : ∀ l : List T, FullTs l → samesT (treesJ (jFulls l)) l = true
  | [], _ => by simp [jFulls, treesJ, samesT]
  | t :: r, h => by
    rw [FullTs] at h
    rw [jFulls, treesJ, samesT, jFull_same t h.1, jFulls_same r h.2]
    rfl
end
theorem jFull_kind {t : T} (h : t.kind = 5) : (treeJ (jFull t)).kind = 5 := by
  obtain ⟨k, x, d, y, keys, kids⟩ := t
  simp only [T.kind] at h
  subst h
  have hj : jFull (.mk 5 x d y keys kids) = .map keys (jFulls kids) := by simp [jFull]
  rw [hj, treeJ, mapT_kind]
mutual
/-- A tree that stands for a value. -/
def ProperT : T → Prop
  | .mk k x d y keys kids => scalarT (.mk k x d y keys kids) = true ∨ (((k = 4 ∧ keys = []) ∨ (k = 5 ∧ keys.length = kids.length ∧ keys.Pairwise lt)) ∧ ProperTs kids)
def ProperTs : List T → Prop
  | [] => True
  | t :: r => ProperT t ∧ ProperTs r
end
theorem properTs_iff : ∀ l : List T, ProperTs l ↔ ∀ t ∈ l, ProperT t
  | [] => by simp [ProperTs]
  | t :: r => by simp [ProperTs, properTs_iff r]
mutual
/-- No part of a tree is larger. -/
def SmallT (N : Nat) : T → Prop
  | .mk _ x _ _ keys kids => x.size ≤ N ∧ keys.length ≤ N ∧ (∀ s ∈ keys, s.size ≤ N) ∧ kids.length ≤ N ∧ SmallTs N kids
def SmallTs (N : Nat) : List T → Prop
  | [] => True
  | t :: r => SmallT N t ∧ SmallTs N r
end
theorem smallTs_iff (N : Nat) : ∀ l : List T, SmallTs N l ↔ ∀ t ∈ l, SmallT N t
  | [] => by simp [SmallTs]
  | t :: r => by simp [SmallTs, smallTs_iff N r]
mutual
theorem SmallT.mono {N M : Nat} (hNM : N ≤ M) : ∀ {t : T}, SmallT N t → SmallT M t
  | .mk _ _ _ _ _ kids, h => by
    rw [SmallT] at h ⊢
    exact ⟨Nat.le_trans h.1 hNM, Nat.le_trans h.2.1 hNM, fun s hs => Nat.le_trans (h.2.2.1 s hs) hNM, Nat.le_trans h.2.2.2.1 hNM, SmallTs.mono hNM h.2.2.2.2⟩
theorem SmallTs.mono {N M : Nat} (hNM : N ≤ M) : ∀ {l : List T}, SmallTs N l → SmallTs M l
  | [], _ => by rw [SmallTs]; trivial
  | t :: r, h => by
    rw [SmallTs] at h ⊢
    exact ⟨SmallT.mono hNM h.1, SmallTs.mono hNM h.2⟩
end
mutual
theorem FullT.of {N : Nat} (hN : N ≤ 2147483647) : ∀ {t : T}, ProperT t → SmallT N t → FullT t
  | .mk k x d y keys kids, h, h2 => by
    rw [ProperT] at h
    rw [SmallT] at h2
    rw [FullT]
    rcases h with h | ⟨h, hk⟩
    · exact .inl h
    · exact .inr ⟨h, by omega, fun s hs => Nat.le_trans (h2.2.2.1 s hs) (by unfold maxLen; omega), FullTs.of hN hk h2.2.2.2.2⟩
theorem FullTs.of {N : Nat} (hN : N ≤ 2147483647) : ∀ {l : List T}, ProperTs l → SmallTs N l → FullTs l
  | [], _, _ => by rw [FullTs]; trivial
  | t :: r, h, h2 => by
    rw [ProperTs] at h
    rw [SmallTs] at h2
    rw [FullTs]
    exact ⟨FullT.of hN h.1 h2.1, FullTs.of hN h.2 h2.2⟩
end
end Go.Proofs.YtfngaoicoecncaaDoor
