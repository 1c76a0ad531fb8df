/-
  A terms query of texts is the same by both constructors.
-/
import Derived.Test.YtdpgmmkecghihaaITerms
import Derived.Test.YtdpgmmkecghihaaITermsOfTexts
import Derived.Test.YtdpgmmkecghihaaTermsL
namespace Go.Proofs.Ytdpgmmkecghihaa
open Go.RowKit

@[go_sem] theorem field_kids (k : Int) (x : ByteArray) (d : Nat) (y : Bool) (ka : Option Addr) (n kc : Nat) (ca : Option Addr) (m cc : Nat) (w : World) : (Instr.field 28 (.agg #[.int .i64 k, .string x, .float .f64 d, .bool y, .slice ka n kc, .slice ca m cc]) 5).run Try.prog w = .ok (.slice ca m cc) w := by kernel_rfl
theorem map_jOf : ∀ u : List ByteArray, (u.map textT).map jOf = u.map J.str
  | [] => rfl
  | s :: r => by simp only [List.map_cons]; rw [map_jOf r]; rfl
theorem texts_str : ∀ u : List ByteArray, treesJ (u.map J.str) = u.map textT
  | [] => rfl
  | s :: r => by simp only [List.map_cons, treesJ, treeJ]; rw [texts_str r]
theorem termsMade_same (f : ByteArray) (u : List ByteArray) {ps : List (ByteArray × T)} (hF : FitsP rTerms ps) : sameT (treeJ (jMap [(s_terms, jMap ([(f, J.list (u.map J.str))] ++ jN s_boost (lastOf ps s_boost) ++ jT s_name (lastOf ps s_name)))])) (treeJ (jMap [(s_terms, jMap ([(f, J.list (u.map J.str))] ++ jN s_boost (lastOf ps s_boost) ++ jT s_name (lastOf ps s_name)))])) = true := by
  have h : treeJ (J.list (u.map J.str)) = listT (u.map textT) := by simp only [treeJ, texts_str]
  rw [jMap_tree]
  refine same_one _ (selfs_map ?_)
  unfold jTree
  rw [List.map_append, List.map_append]
  refine ((Selfs.one ?_).append (jN_self hF (by rw [kindL_dec]; decide))).append (jT_self _ _)
  show sameT (treeJ (J.list (u.map J.str))) (treeJ (J.list (u.map J.str))) = true
  rw [h]
  exact sameT_self _ (okT_list fun t ht => by obtain ⟨x, -, rfl⟩ := List.mem_map.1 ht; exact okT_text x)
set_option maxRecDepth 20000 in
set_option maxHeartbeats 4000000 in
theorem termsMade_law {S : Nat → Prop} (f : ByteArray) (ua : Option Addr) (un uc : Nat) (u : List ByteArray) (a : Option Addr) (n c : Nat) (ps : List (ByteArray × T)) (w : World) (huT : StrsAt S w ua un uc u) (h : PairsAt S w a n c ps) : Calls Try.prog 9 #[.string f, .slice ua un uc, .slice a n c] w fun r w' => r = .returned (.bool true) ∧ Ext w w' := by
  have hnl := Nat.le_trans h.2.1 h.2.2.1
  unfold maxLen at hnl
  have hPs := Lib.hid fun w' (x : Ext w w') => (h.keep (S' := fun _ => True) (fun _ _ _ => trivial) (fun _ _ _ => rfl)).ext x
  have hZu := Lib.hid fun w' (x : Ext w w') => zzFits1_any ua un uc u w' (huT.ext x)
  have hTu := Lib.hid fun w' (x : Ext w w') => (huT.keep (S' := fun _ => True) (fun _ _ _ => trivial) (fun _ _ _ => rfl)).ext x
  have hF := Lib.hid fun w' (x : Ext w w') => fits_any sTerms rTerms a n c ps w' rows_terms (by simp [plainK]) (h.ext x)
  have hul := huT.1
  have hQ := Lib.hid fun w' (x : Ext w w') (ga : Option Addr) (gn gc : Nat) (hk : KidsAt (fun _ => True) w' ga gn gc (u.map textT)) (hup : 0 < gn) (hub : gn ≤ 2147483647) (hf_le : f.size ≤ maxLen) => terms_any a n c ps w' f hf_le ga gn gc (u.map textT) hk hup hub (fun t ht => .inl (by obtain ⟨s, -, rfl⟩ := List.mem_map.1 ht; rfl)) (hPs.out _ x)
  have hQ2 := Lib.hid fun w' (x : Ext w w') (hup : 0 < un) (hub : un ≤ 2147483647) (hf_le : f.size ≤ maxLen) => termsOfTexts_any a n c ps w' f hf_le ua un uc u (hTu.out _ x) hup hub (hPs.out _ x)
  clear h
  clear huT
  go_enter Try.func9, Try.ntmps9
  by_cases hsz0 : 2147483647 < f.size
  · go_wp2_with (first
        | (go_at_call 20; refine (hZu.out _ (by (repeat (first | exact ext_refl _ | assumption | refine ext_alloc ?_ _ | refine ext_drew ?_ | refine ext_set ?_ (by simp) _ | refine ext_trans ?_ (by assumption))))).mono ?_; rintro r wzu ⟨bzu, rfl, hzu, hxzu⟩; have HZu := Lib.hid hzu; clear hzu; cases bzu))
    all_goals (go_ret; exact ⟨rfl, by (repeat (first | exact ext_refl _ | assumption | refine ext_alloc ?_ _ | refine ext_drew ?_ | refine ext_set ?_ (by simp) _ | refine ext_trans ?_ (by assumption)))⟩)
  · skip
    by_cases hsz1 : 2147483647 < n
    · go_wp2_with (first
          | (go_at_call 20; refine (hZu.out _ (by (repeat (first | exact ext_refl _ | assumption | refine ext_alloc ?_ _ | refine ext_drew ?_ | refine ext_set ?_ (by simp) _ | refine ext_trans ?_ (by assumption))))).mono ?_; rintro r wzu ⟨bzu, rfl, hzu, hxzu⟩; have HZu := Lib.hid hzu; clear hzu; cases bzu))
      all_goals (go_ret; exact ⟨rfl, by (repeat (first | exact ext_refl _ | assumption | refine ext_alloc ?_ _ | refine ext_drew ?_ | refine ext_set ?_ (by simp) _ | refine ext_trans ?_ (by assumption)))⟩)
    · skip
      by_cases hIpos : 0 < un
      case neg =>
        go_wp2_with (first
            | (go_at_call 20; refine (hZu.out _ (by (repeat (first | exact ext_refl _ | assumption | refine ext_alloc ?_ _ | refine ext_drew ?_ | refine ext_set ?_ (by simp) _ | refine ext_trans ?_ (by assumption))))).mono ?_; rintro r wzu ⟨bzu, rfl, hzu, hxzu⟩; have HZu := Lib.hid hzu; clear hzu; cases bzu))
        all_goals (go_ret; exact ⟨rfl, by (repeat (first | exact ext_refl _ | assumption | refine ext_alloc ?_ _ | refine ext_drew ?_ | refine ext_set ?_ (by simp) _ | refine ext_trans ?_ (by assumption)))⟩)
      go_wp2_with (first
        | (go_at_call 20; refine (hZu.out _ (by (repeat (first | exact ext_refl _ | assumption | refine ext_alloc ?_ _ | refine ext_drew ?_ | refine ext_set ?_ (by simp) _ | refine ext_trans ?_ (by assumption))))).mono ?_; rintro r wzu ⟨bzu, rfl, hzu, hxzu⟩; have HZu := Lib.hid hzu; clear hzu; cases bzu)
        | (go_at_call 21; refine (field_any f (by omega) _).mono ?_; rintro r wfdf ⟨bfdf, rfl, hfdf, hxfdf⟩; have Hfdf := Lib.hid hfdf; clear hfdf; cases bfdf)
        | (go_at_call 15; refine (hF.out _ (by (repeat (first | exact ext_refl _ | assumption | refine ext_alloc ?_ _ | refine ext_drew ?_ | refine ext_set ?_ (by simp) _ | refine ext_trans ?_ (by assumption))))).mono ?_; rintro r wff ⟨bff, rfl, hff, hxff⟩; have Hff := Lib.hid hff; clear hff; cases bff))
      all_goals (try (go_ret; exact ⟨rfl, by (repeat (first | exact ext_refl _ | assumption | refine ext_alloc ?_ _ | refine ext_drew ?_ | refine ext_set ?_ (by simp) _ | refine ext_trans ?_ (by assumption)))⟩))
      have hff := Hff.out (by trivial)
      have hup : 0 < un := hIpos
      have hub := HZu.out (by trivial)
      have hx1 : Ext w wff := by (repeat (first | exact ext_refl _ | assumption | refine ext_alloc ?_ _ | refine ext_drew ?_ | refine ext_set ?_ (by simp) _ | refine ext_trans ?_ (by assumption)))
      have hfit := Lib.hid (termsMade_same f u hff)
      refine (texts_any u ua un uc _ (by omega) (hTu.out _ hx1)).mono ?_
      rintro r w2 ⟨g, rfl, hTg, hx2⟩
      simp only [El.val]
      have hKg := hTg.any.parts.2.2.2.2.2
      have hgm := Lib.hid (show g.m = u.length by have := hKg.1; simp [listT, T.kids] at this; omega)
      have hxa := ext_trans hx1 hx2
      have hK2 : KidsAt (fun _ => True) w2 g.ca g.m g.cc (u.map textT) := hKg
      go_wp2_with (first
        | (go_at_call 38; refine (hQ.out w2 hxa _ _ _ hK2 (by have := hgm.out; omega) (by have := hgm.out; omega) (by unfold maxLen; omega)).mono ?_; rintro r w3 ⟨e, rfl, hT, hx3⟩; simp only [El.val]
           rw [map_jOf] at hT
           have hb3 : Box (w3.alloc (.cells e.arr 28)) w3.heap.size e.arr 28 := Box.at rfl _ _
           have hx4 : Ext w (w3.alloc (.cells e.arr 28)) := ext_alloc (ext_trans hxa hx3) _
           have hT1 := Lib.hid ((hT.ext (ext_alloc (ext_refl w3) (.cells e.arr 28))).any))
        | (go_at_call 22; refine (hQ2.out _ hx4 hup hub (by unfold maxLen; omega)).mono ?_; rintro r w5 ⟨e2, rfl, hT2, hx5⟩; simp only [El.val]
           have hb5 : Box (w5.alloc (.cells e2.arr 28)) w5.heap.size e2.arr 28 := Box.at rfl _ _
           have hx6 : Ext (w3.alloc (.cells e.arr 28)) (w5.alloc (.cells e2.arr 28)) := ext_alloc hx5 _
           obtain ⟨p0, p1, p2, p3, p4, p5⟩ := (hb3.ext hx6).six
           obtain ⟨o0, o1, o2, o3, o4, o5⟩ := hb5.six
           have hx7 := ext_trans hx4 hx6
           have hSm := Lib.hid (same_any (S := fun _ => True) _ _ e e2 _ (hT1.out.ext hx6) ((hT2.ext (ext_alloc (ext_refl w5) (.cells e2.arr 28))).any)))
        | (go_at_call 17; refine hSm.out.mono ?_; rintro r w8 ⟨rfl, hx12⟩; rw [hfit.out]))
      go_ret
      exact ⟨rfl, ext_trans hx7 hx12⟩
end Go.Proofs.Ytdpgmmkecghihaa
