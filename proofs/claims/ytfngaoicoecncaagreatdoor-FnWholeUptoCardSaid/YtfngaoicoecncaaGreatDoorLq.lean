/-
  Lists of queries as trees; settings that a builder's table lacks.
-/
import Derived.Test.YtfngaoicoecncaaGreatDoorPf
import Derived.Test.YtfngaoicoecncaaGreatDoorLx
namespace Go.Proofs.YtfngaoicoecncaaGreatDoor
open Go.RowKit

theorem jT_no (k : ByteArray) : jT k none = [] := by simp [jT, fT]
theorem fits_no {rs : List (ByteArray × ByteArray)} {ps : List (ByteArray × T)} (hF : FitsP rs ps) {k : ByteArray} (hk : kindL rs k = emptyS) : lastOf ps k = none := by
  cases ho : lastOf ps k with
  | none => rfl
  | some t =>
    have hf := fits_last hF ho
    rw [hk] at hf
    obtain ⟨-, h | h | h | h | h⟩ := hf <;> first | exact absurd h.1 (by decide) | exact absurd h (by decide)
theorem fullTs_of : ∀ {l : List T}, (∀ t ∈ l, FullT t) → FullTs l
  | [], _ => by simp [FullTs]
  | t :: r, h => by
    simp only [FullTs]
    exact ⟨h t (by simp), fullTs_of fun q hq => h q (by simp [hq])⟩
theorem jList_same {u : List T} (h : ∀ t ∈ u, FullT t) : sameT (treeJ (.list (u.map jFull))) (listT u) = true := by
  have h1 := jFulls_same u (fullTs_of h)
  have h2 := treesJ_len (jFulls u)
  rw [← jFulls_eq]
  have h3 : (treesJ (jFulls u)).length = u.length := by rw [h2, jFulls_eq, List.length_map]
  simp only [treeJ, listT, sameT]
  simp [h1, h3, seqs]
end Go.Proofs.YtfngaoicoecncaaGreatDoor
