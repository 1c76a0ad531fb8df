/-
  Letters made small: what spec.lower gives where the library's tables lie as they are laid; the texts of settings that are bounded.
-/
import Derived.Test.YtocfoheckgdonaaGreatDoorShelf2
import Derived.Test.YtocfoheckgdonaaGreatDoorVw
import Derived.Test.YtocfoheckgdonaaGreatDoorCards
import Derived.PinnedBridge
import Derived.Lib.LaidCase
import Derived.Lib.LaidU8
import Derived.LaidMore
namespace Go.Proofs.YtocfoheckgdonaaGreatDoor
open Go.RowKit Go.Lib Go.Shelf

def lowS (s : ByteArray) : ByteArray := ⟨(Lib.toLowerD s.data.toList).toArray⟩
theorem caseX : CaseExtra Tryz.prog Tryz.lays159_ren := ⟨by kernel_rfl, by kernel_rfl, by kernel_rfl, by kernel_rfl, by kernel_rfl, by kernel_rfl⟩
theorem u8X : U8Extra Tryz.prog Tryz.lays159_ren := ⟨by kernel_rfl, by kernel_rfl, by kernel_rfl, by kernel_rfl, by kernel_rfl, by kernel_rfl, by kernel_rfl⟩
theorem accept_eq : (Rows.laid_unicode_utf8_acceptRanges : DataW Unit) = acceptData := by kernel_rfl
abbrev laidL : List (String × DataW Unit) := [("unicode/utf8.acceptRanges", Rows.laid_unicode_utf8_acceptRanges), ("unicode.CaseRanges", Rows.laid_unicode_CaseRanges), ("unicode/utf8.first", Rows.laid_unicode_utf8_first)]
theorem low_vars {W : World} (hL : laidMetH Tryz.prog laidL W) : CaseVar (Tryz.lays159_ren.g 13) caseA W ∧ Lib.Utf8Tabs (Tryz.lays159_ren.g 3) (Tryz.lays159_ren.g 4) W := by
  rw [MakeChecks.laidMetH_plain _ _ _ (by kernel_rfl)] at hL
  refine ⟨caseVar_of_reads { Tryz.lays159 with } (by kernel_rfl) caseX ?_, utf8Tabs_of_reads { Tryz.lays159 with } u8X ?_ ?_⟩
  · rw [← Pinned.caseRanges_eq]
    exact Lib.laidMet.reads hL (.tail _ (.head _))
  · rw [← Pinned.utf8First_eq]
    exact Lib.laidMet.reads hL (.tail _ (.tail _ (.head _)))
  · rw [← accept_eq]
    exact Lib.laidMet.reads hL (.head _)
theorem lower_at {W : World} (hL : laidMetH Tryz.prog laidL W) (s : ByteArray) (hs : s.size ≤ 1048576) : LowerAt lowS W s := fun w' x => by
  obtain ⟨hV, hT⟩ := low_vars hL
  have hC := Tryz.strings_ToLower_any s w' (by omega) (CaseVar_below hV x) (Utf8Tabs_below hT x)
  go_enter Tryz.func124, Tryz.ntmps124
  go_wp2_with (go_at_call 142; refine hC.mono ?_; rintro r w2 ⟨rfl, hb⟩)
  go_ret
  exact ⟨rfl, hb⟩

/-- The texts under operators are bounded. -/
def OpSmall (l : List (ByteArray × T)) : Prop := ∀ p ∈ l, opKey p.1 = true → p.2.text.size ≤ 1048576
theorem OpSmall.append {a b : List (ByteArray × T)} (h : OpSmall a) (k : OpSmall b) : OpSmall (a ++ b) := fun p hp => by
  rcases List.mem_append.1 hp with hp | hp
  · exact h p hp
  · exact k p hp
theorem opSmall_key {l : List (ByteArray × T)} {k : ByteArray} (h : KeysIn l [k]) (hk : opKeyB k = false) : OpSmall l := fun p hp ho => by
  have h1 := h p hp
  simp at h1
  rw [h1, opKey_eq, hk] at ho
  cases ho
/-- The texts of all settings are bounded. -/
def SmallAt (ps : List (ByteArray × T)) : Prop := ∀ p ∈ ps, p.2.text.size ≤ 1048576
theorem opSmall_T {ps : List (ByteArray × T)} (h : SmallAt ps) (k : ByteArray) : OpSmall (jTree (jT k (lastOf ps k))) := fun p hp _ => by
  unfold jT at hp
  split at hp
  · simp at hp
  · simp at hp
    subst hp
    cases ho : lastOf ps k with
    | none => exact (by decide : emptyS.size ≤ 1048576)
    | some t => simpa [treeJ, textT, T.text, fT] using h _ (lastOf_mem ho)
theorem opSmall_params {ps : List (ByteArray × T)} (h : SmallAt ps) (rs : List (ByteArray × ByteArray)) : OpSmall (paramsL rs ps) := fun p hp _ => by
  unfold paramsL at hp
  rw [List.mem_filterMap] at hp
  obtain ⟨r, -, hr⟩ := hp
  unfold param at hr
  split at hr
  · cases ho : lastOf ps r.1 with
    | none => rw [ho] at hr; cases hr
    | some t =>
      rw [ho] at hr
      simp at hr
      subst hr
      exact h _ (lastOf_mem ho)
  · cases hr
theorem lows_of {lw : ByteArray → ByteArray} {w w' : World} (kind field : ByteArray) {ps : List (ByteArray × T)} (h : ∀ p ∈ ps, p.2.kind ≠ 5) (hs : OpSmall ps) (hl : ∀ s : ByteArray, s.size ≤ 1048576 → LowerAt lw w s) (x : Ext w w') : ∀ s ∈ opTexts (mapT [(kind, mapT [(field, mapT ps)])]), LowerAt lw w' s := fun s hm => by
  obtain ⟨p, hp, h1, -, rfl⟩ := readV_texts kind field h hm
  exact (hl _ (hs p hp h1)).ext x
end Go.Proofs.YtocfoheckgdonaaGreatDoor
