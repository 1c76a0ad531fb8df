/-
  The law of a terms query (TermsOfTexts).
-/
import Derived.Test.YtdpgmmkecghihaaITermsOfTexts
import Derived.Test.YtdpgmmkecghihaaTermsL
namespace Go.Proofs.Ytdpgmmkecghihaa
open Go.RowKit

abbrev sTermsOfTexts : ByteArray := ⟨#[84, 101, 114, 109, 115, 79, 102, 84, 101, 120, 116, 115]⟩
abbrev tTermsOfTexts : ByteArray := ⟨#[98, 111, 111, 115, 116, 32, 110, 44, 95, 110, 97, 109, 101, 32, 116]⟩
abbrev rTermsOfTexts : List (ByteArray × ByteArray) := [(s_boost, ⟨#[110]⟩), (s_name, ⟨#[116]⟩)]
set_option maxHeartbeats 2000000 in
theorem table_termsOfTexts (w : World) : Calls Try.prog 149 #[.string sTermsOfTexts] w fun r w' => r = .returned (.string tTermsOfTexts) ∧ w' = w := by
  go_enter Try.func149, Try.ntmps149
  go_wp2
  go_ret
  exact ⟨rfl, rfl⟩
theorem rows_termsOfTexts (w : World) : Calls Try.prog 63 #[.string sTermsOfTexts] w fun r w' => ∃ v, r = .returned v ∧ Own2 w' w.heap.size v rTermsOfTexts ∧ Ext w w' :=
  rows_any sTermsOfTexts tTermsOfTexts w table_termsOfTexts 5 (by decide) (by decide)
theorem texts_str : ∀ u : List ByteArray, treesJ (u.map J.str) = u.map textT
  | [] => rfl
  | s :: r => by simp only [List.map_cons, treesJ, treeJ]; rw [texts_str r]
theorem list_texts (u : List ByteArray) : sameT (treeJ (J.list (u.map J.str))) (listT (u.map textT)) = true := by
  have h : treeJ (J.list (u.map J.str)) = listT (u.map textT) := by simp only [treeJ, texts_str]
  rw [h]
  exact sameT_self _ (okT_list fun t ht => by obtain ⟨x, -, rfl⟩ := List.mem_map.1 ht; exact okT_text x)
set_option maxHeartbeats 4000000 in
theorem termsOfTexts_law {S : Nat → Prop} (f : ByteArray) (ua : Option Addr) (un uc : Nat) (u : List ByteArray) (a : Option Addr) (n c : Nat) (ps : List (ByteArray × T)) (w : World) (huT : StrsAt S w ua un uc u) (h : PairsAt S w a n c ps) : Calls Try.prog 4 #[.string f, .slice ua un uc, .slice a n c] w fun r w' => r = .returned (.bool true) ∧ Ext w w' := by
  have hnl := Nat.le_trans h.2.1 h.2.2.1
  unfold maxLen at hnl
  have hPs := Lib.hid fun w' (x : Ext w w') => (h.keep (S' := fun _ => True) (fun _ _ _ => trivial) (fun _ _ _ => rfl)).ext x
  have hZu := Lib.hid fun w' (x : Ext w w') => zzFits1_any ua un uc u w' (huT.ext x)
  have hTu := Lib.hid fun w' (x : Ext w w') => (huT.keep (S' := fun _ => True) (fun _ _ _ => trivial) (fun _ _ _ => rfl)).ext x
  have hF := Lib.hid fun w' (x : Ext w w') => fits_any sTermsOfTexts rTermsOfTexts a n c ps w' rows_termsOfTexts (by simp [plainK]) (h.ext x)
  have hul := huT.1
  have hQ := Lib.hid fun w' (x : Ext w w') (hup : 0 < un) (hub : un ≤ 2147483647) (hf_le : f.size ≤ maxLen) => termsOfTexts_any a n c ps w' f hf_le ua un uc u (huT.ext x) hup hub (h.ext x)
  clear h
  clear huT
  go_enter Try.func4, Try.ntmps4
  by_cases hsz0 : 2147483647 < f.size
  · go_wp2_with (first
        | (go_at_call 20; refine (hZu.out _ (by (repeat (first | exact ext_refl _ | assumption | refine ext_alloc ?_ _ | refine ext_drew ?_ | refine ext_set ?_ (by simp) _ | refine ext_trans ?_ (by assumption))))).mono ?_; rintro r wzu ⟨bzu, rfl, hzu, hxzu⟩; have HZu := Lib.hid hzu; clear hzu; cases bzu))
    all_goals (go_ret; exact ⟨rfl, by (repeat (first | exact ext_refl _ | assumption | refine ext_alloc ?_ _ | refine ext_drew ?_ | refine ext_set ?_ (by simp) _ | refine ext_trans ?_ (by assumption)))⟩)
  · skip
    by_cases hsz1 : 2147483647 < n
    · go_wp2_with (first
          | (go_at_call 20; refine (hZu.out _ (by (repeat (first | exact ext_refl _ | assumption | refine ext_alloc ?_ _ | refine ext_drew ?_ | refine ext_set ?_ (by simp) _ | refine ext_trans ?_ (by assumption))))).mono ?_; rintro r wzu ⟨bzu, rfl, hzu, hxzu⟩; have HZu := Lib.hid hzu; clear hzu; cases bzu))
      all_goals (go_ret; exact ⟨rfl, by (repeat (first | exact ext_refl _ | assumption | refine ext_alloc ?_ _ | refine ext_drew ?_ | refine ext_set ?_ (by simp) _ | refine ext_trans ?_ (by assumption)))⟩)
    · skip
      by_cases hIpos : 0 < un
      case neg =>
        go_wp2_with (first
            | (go_at_call 20; refine (hZu.out _ (by (repeat (first | exact ext_refl _ | assumption | refine ext_alloc ?_ _ | refine ext_drew ?_ | refine ext_set ?_ (by simp) _ | refine ext_trans ?_ (by assumption))))).mono ?_; rintro r wzu ⟨bzu, rfl, hzu, hxzu⟩; have HZu := Lib.hid hzu; clear hzu; cases bzu))
        all_goals (go_ret; exact ⟨rfl, by (repeat (first | exact ext_refl _ | assumption | refine ext_alloc ?_ _ | refine ext_drew ?_ | refine ext_set ?_ (by simp) _ | refine ext_trans ?_ (by assumption)))⟩)
      go_wp2_with (first
        | (go_at_call 20; refine (hZu.out _ (by (repeat (first | exact ext_refl _ | assumption | refine ext_alloc ?_ _ | refine ext_drew ?_ | refine ext_set ?_ (by simp) _ | refine ext_trans ?_ (by assumption))))).mono ?_; rintro r wzu ⟨bzu, rfl, hzu, hxzu⟩; have HZu := Lib.hid hzu; clear hzu; cases bzu)
        | (go_at_call 21; refine (field_any f (by omega) _).mono ?_; rintro r wfdf ⟨bfdf, rfl, hfdf, hxfdf⟩; have Hfdf := Lib.hid hfdf; clear hfdf; cases bfdf)
        | (go_at_call 15; refine (hF.out _ (by (repeat (first | exact ext_refl _ | assumption | refine ext_alloc ?_ _ | refine ext_drew ?_ | refine ext_set ?_ (by simp) _ | refine ext_trans ?_ (by assumption))))).mono ?_; rintro r wff ⟨bff, rfl, hff, hxff⟩; have Hff := Lib.hid hff; clear hff; cases bff))
      all_goals (try (go_ret; exact ⟨rfl, by (repeat (first | exact ext_refl _ | assumption | refine ext_alloc ?_ _ | refine ext_drew ?_ | refine ext_set ?_ (by simp) _ | refine ext_trans ?_ (by assumption)))⟩))
      have hff := Hff.out (by trivial)
      have hup : 0 < un := hIpos
      have hub := HZu.out (by trivial)
      have hx1 : Ext w wff := by (repeat (first | exact ext_refl _ | assumption | refine ext_alloc ?_ _ | refine ext_drew ?_ | refine ext_set ?_ (by simp) _ | refine ext_trans ?_ (by assumption)))
      have hfit := Lib.hid (terms_same (f := f) (Hfdf.out (by trivial)) hff (list_texts u))
      refine (hQ.out wff hx1 hup hub (by unfold maxLen; omega)).mono ?_
      rintro r w3 ⟨e, rfl, hT, hx3⟩
      simp only [El.val]
      rw [jMap_tree] at hT
      have hb3 : Box (w3.alloc (.cells e.arr 28)) w3.heap.size e.arr 28 := Box.at rfl _ _
      obtain ⟨o0, o1, o2, o3, o4, o5⟩ := hb3.six
      have hx4 : Ext w (w3.alloc (.cells e.arr 28)) := ext_alloc (ext_trans hx1 hx3) _
      have hRB := Lib.hid (rb_any (S := fun _ => True) s_terms _ e none 0 0 [] _ ((hT.ext (ext_alloc (ext_refl w3) (.cells e.arr 28))).any) (strs_none _) (fun k t hl => ⟨(NoNull.append (NoNull.append (noNull_J _ _ (by simp [treeJ, listT, T.kind])) (noNull_N _ _)) (noNull_T _ _)) _ (lastOf_mem hl), fun hh => by simp [hasS] at hh⟩) (by have h1 := jN_len s_boost (lastOf ps s_boost); have h2 := jT_len s_name (lastOf ps s_name); simp only [List.length_map, List.length_append, List.length_cons, List.length_nil]; omega))
      clear hQ
      go_wp2_with (first
        | (go_at_call 23; refine hRB.out.mono ?_; rintro r w4 ⟨g4, rfl, hT4, hx5⟩; simp only [El.val]; have hx6 := ext_trans hx4 hx5; clear hRB)
        | (go_at_call 25; refine (texts_any u ua un uc _ (by omega) (hTu.out _ hx6)).mono ?_; rintro r w5 ⟨g5, rfl, hT5, hx7⟩; simp only [El.val]; have hx8 := ext_trans hx6 hx7; have hTS := Lib.hid (termsSpec_any (S := fun _ => True) f g5 _ a n c ps w5 hT5.any (hPs.out _ hx8)))
        | (go_at_call 24; refine hTS.out.mono ?_; rintro r w6 ⟨g6, rfl, hT6, hx9⟩; simp only [El.val]; have hSm := Lib.hid (same_any (S := fun _ => True) _ _ g4 g6 _ ((hT4.ext (ext_trans hx7 hx9)).any) hT6); have hx11 := ext_trans hx8 hx9)
        | (go_at_call 17; refine hSm.out.mono ?_; rintro r w8 ⟨rfl, hx12⟩; rw [hfit.out]))
      go_ret
      exact ⟨rfl, ext_trans hx11 hx12⟩
end Go.Proofs.Ytdpgmmkecghihaa
