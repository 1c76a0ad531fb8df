/-
  A match_none query has its name.
-/
import Derived.Test.YtbhdkbbhhffldaaMatchNone
import Derived.Test.YtbhdkbbhhffldaaSm
import Derived.Test.YtbhdkbbhhffldaaP5
namespace Go.Proofs.Ytbhdkbbhhffldaa
open Go.RowKit

theorem sameT_one (k : ByteArray) {a b : T} (h : sameT a b = true) : sameT (mapT [(k, a)]) (mapT [(k, b)]) = true := sameT_map fun x => by
  rw [lastOf_cons, lastOf_cons]
  simp only [lastOf_nil, Option.none_or]
  cases seq k x <;> simp [OptSame, h]
theorem fit_last {rs : List (ByteArray × ByteArray)} {ps : List (ByteArray × T)} (h : FitsP rs ps) {k : ByteArray} {t : T} (hl : lastOf ps k = some t) : FitP (kindL rs k) t := by
  obtain ⟨i, hi⟩ := List.getElem?_of_mem (lastOf_mem hl)
  exact h i _ hi

abbrev sMatchNone : ByteArray := ⟨#[77, 97, 116, 99, 104, 78, 111, 110, 101]⟩
abbrev tMatchNone : ByteArray := ⟨#[95, 110, 97, 109, 101, 32, 116]⟩
abbrev rMatchNone : List (ByteArray × ByteArray) := [(s_name, ⟨#[116]⟩)]
set_option maxHeartbeats 2000000 in
theorem table_matchNone (w : World) : Calls Try.prog 102 #[.string sMatchNone] w fun r w' => r = .returned (.string tMatchNone) ∧ w' = w := by
  go_enter Try.func102, Try.ntmps102
  go_wp2
  go_ret
  exact ⟨rfl, rfl⟩
theorem rows_matchNone (w : World) : Calls Try.prog 72 #[.string sMatchNone] w fun r w' => ∃ v, r = .returned v ∧ Own2 w' w.heap.size v rMatchNone ∧ Ext w w' :=
  rows_any sMatchNone tMatchNone w table_matchNone 3 (by decide) (by decide)
theorem matchNone_same {ps : List (ByteArray × T)} (hF : FitsP rMatchNone ps) : sameT (mapT [(s_match_none, mapT ((jT s_name (lastOf ps s_name)).map fun p => (p.1, treeJ p.2)))]) (mapT [(s_match_none, mapT (paramsL rMatchNone ps))]) = true := by
  refine sameT_one _ (sameT_map fun x => ?_)
  cases ho : lastOf ps s_name with
  | none =>
    have h1 : paramsL rMatchNone ps = [] := by simp [paramsL, param, ho]
    rw [h1]
    simp [jT, fT, lastOf, OptSame]
  | some t =>
    have hf := fit_last hF ho
    have hk : kindL rMatchNone s_name = ⟨#[116]⟩ := by simp [kindL, seq_self]
    rw [hk] at hf
    obtain ⟨hs, hk1⟩ := hf
    have hkind : t.kind = 1 := by
      rcases hk1 with h | h | h | h | h
      · exact h.2
      · exact absurd h.1 (by decide)
      · exact absurd h.1 (by decide)
      · exact absurd h.1 (by decide)
      · exact absurd h (by decide)
    obtain ⟨hsame, hne⟩ := same_text hkind hs
    have hp : hasS plainK (⟨#[116]⟩ : ByteArray) = true := by simp [plainK, hasS, seq_self]
    have h1 : paramsL rMatchNone ps = [(s_name, t)] := by simp [paramsL, param, ho, hp]
    rw [h1]
    have h2 : jT s_name (some t) = [(s_name, .str t.text)] := by simp [jT, fT, hne]
    rw [h2]
    simp only [List.map_cons, List.map_nil, lastOf_cons, lastOf_nil, Option.none_or, treeJ]
    cases seq s_name x <;> simp [OptSame, hsame]

theorem jT_kinds (k : ByteArray) (o : Option T) : ∀ p ∈ (jT k o).map fun p => (p.1, treeJ p.2), p.2.kind ≠ 0 := fun p hp => by
  unfold jT at hp
  split at hp
  · simp at hp
  · simp [treeJ, textT] at hp
    subst hp
    simp [T.kind]
theorem matchNone_tree (o : Option T) : treeJ (jMap [(s_match_none, jMap (jT s_name o))]) = mapT [(s_match_none, mapT ((jT s_name o).map fun p => (p.1, treeJ p.2)))] := by
  rw [treeJ_jMap, List.map_cons, List.map_nil, treeJ_jMap]
set_option maxHeartbeats 2000000 in
theorem matchNone_law {S : Nat → Prop} (a : Option Addr) (n c : Nat) (ps : List (ByteArray × T)) (w : World) (h : PairsAt S w a n c ps) : Calls Try.prog 5 #[.slice a n c] w fun r w' => r = .returned (.bool true) ∧ Ext w w' := by
  have hnl := Nat.le_trans h.2.1 h.2.2.1
  unfold maxLen at hnl
  have hH := Lib.hid h
  have hF := Lib.hid (fits_any sMatchNone rMatchNone a n c ps w rows_matchNone (by simp [plainK]) h)
  have hQ := Lib.hid fun w' (x : Ext w w') => matchNone_any a n c ps w' (h.ext x)
  have hB := Lib.hid fun w' (x : Ext w w') => beside_only s_match_none sMatchNone tMatchNone a n c ps w' table_matchNone 3 (by decide) (by decide) rMatchNone (by decide) (by decide) (h.ext x)
  clear h
  go_enter Try.func5, Try.ntmps5
  by_cases hs : 2147483647 < n
  · go_wp2_with fail
    go_ret
    exact ⟨rfl, ext_refl _⟩
  · go_upto_if 10 with (go_at_call 20; refine hF.out.mono ?_; rintro r w1 ⟨b, rfl, hb, hx1⟩)
    have hBb := Lib.hid hb
    clear hb
    cases b
    · go_wp2_with fail
      go_ret
      exact ⟨rfl, hx1⟩
    · have hfit := Lib.hid (matchNone_same (hBb.out rfl))
      clear hBb
      go_wp2_with (first
        | (go_at_call 21; refine (hQ.out _ hx1).mono ?_; rintro r w2 ⟨e, rfl, hT, hx2⟩; simp only [El.val]
           have hb3 : Box (w2.alloc (.cells e.arr 26)) w2.heap.size e.arr 26 := Box.at rfl _ _
           obtain ⟨o0, o1, o2, o3, o4, o5⟩ := hb3.six
           rw [matchNone_tree] at hT
           have hT := Lib.hid (hT.ext (ext_alloc (ext_refl w2) (.cells e.arr 26)))
           have hx3 : Ext w (w2.alloc (.cells e.arr 26)) := ext_alloc (ext_trans hx1 hx2) _
           have hRB := Lib.hid (rb_any s_match_none _ e none 0 0 [] _ hT.out (strs_none _) (fun k t hl => ⟨jT_kinds s_name (lastOf ps s_name) _ (lastOf_mem hl), fun hh => by simp [hasS] at hh⟩) (by rw [List.length_map]; exact Nat.le_trans (jT_len _ _) (by decide)))
           clear hQ)
        | (go_at_call 22; refine hRB.out.mono ?_; rintro r w4 ⟨g4, rfl, hT4, hx4⟩; simp only [El.val]; have hx5 := ext_trans hx3 hx4; clear hRB)
        | (go_at_call 17; refine (hB.out _ hx5).mono ?_; rintro r w6 ⟨g6, rfl, hT6, hx6⟩; simp only [El.val]; have hSm := Lib.hid (same_any (S := fun _ => True) _ _ g4 g6 _ ((hT4.ext hx6).any) hT6.any); have hx7 := ext_trans hx5 hx6)
        | (go_at_call 16; refine hSm.out.mono ?_; rintro r w8 ⟨rfl, hx8⟩; rw [hfit.out]))
      go_ret
      exact ⟨rfl, ext_trans hx7 hx8⟩
end Go.Proofs.Ytbhdkbbhhffldaa
