/-
  A match_all query has its settings.
-/
import Derived.Test.YtbhdkbbhhffldaaMatchAll
import Derived.Test.YtbhdkbbhhffldaaLw
namespace Go.Proofs.Ytbhdkbbhhffldaa
open Go.RowKit

abbrev sMatchAll : ByteArray := ⟨#[77, 97, 116, 99, 104, 65, 108, 108]⟩
abbrev tMatchAll : ByteArray := ⟨#[98, 111, 111, 115, 116, 32, 110, 44, 95, 110, 97, 109, 101, 32, 116]⟩
abbrev rMatchAll : List (ByteArray × ByteArray) := [(s_boost, ⟨#[110]⟩), (s_name, ⟨#[116]⟩)]
set_option maxHeartbeats 2000000 in
theorem table_matchAll (w : World) : Calls Try.prog 102 #[.string sMatchAll] w fun r w' => r = .returned (.string tMatchAll) ∧ w' = w := by
  go_enter Try.func102, Try.ntmps102
  go_wp2
  go_ret
  exact ⟨rfl, rfl⟩
theorem rows_matchAll (w : World) : Calls Try.prog 72 #[.string sMatchAll] w fun r w' => ∃ v, r = .returned v ∧ Own2 w' w.heap.size v rMatchAll ∧ Ext w w' :=
  rows_any sMatchAll tMatchAll w table_matchAll 4 (by decide) (by decide)
theorem matchAll_same {ps : List (ByteArray × T)} (hF : FitsP rMatchAll ps) : sameT (mapT [(s_match_all, mapT (jTree (jN s_boost (lastOf ps s_boost) ++ jT s_name (lastOf ps s_name))))]) (mapT [(s_match_all, mapT (paramsL rMatchAll ps))]) = true := by
  refine same_one _ (sameT_map ?_)
  rw [params_cons, params_cons, params_nil, List.append_nil]
  unfold jTree
  rw [List.map_append]
  exact SameL.append (jN_same hF (by rw [kindL_dec]; decide)) (jT_same hF (by rw [kindL_dec]; decide))
set_option maxHeartbeats 2000000 in
theorem matchAll_law {S : Nat → Prop} (a : Option Addr) (n c : Nat) (ps : List (ByteArray × T)) (w : World) (h : PairsAt S w a n c ps) : Calls Try.prog 7 #[.slice a n c] w fun r w' => r = .returned (.bool true) ∧ Ext w w' := by
  have hnl := Nat.le_trans h.2.1 h.2.2.1
  unfold maxLen at hnl
  have hF := Lib.hid (fits_any sMatchAll rMatchAll a n c ps w rows_matchAll (by simp [plainK]) h)
  have hQ := Lib.hid fun w' (x : Ext w w') => matchAll_any a n c ps w' (h.ext x)
  have hB := Lib.hid fun w' (x : Ext w w') => beside_only s_match_all sMatchAll tMatchAll a n c ps w' table_matchAll 4 (by decide) (by decide) rMatchAll (by decide) (by decide) (h.ext x)
  clear h
  go_enter Try.func7, Try.ntmps7
  by_cases hs : 2147483647 < n
  · go_wp2_with fail
    go_ret
    exact ⟨rfl, ext_refl _⟩
  · go_upto_if 10 with (go_at_call 20; refine hF.out.mono ?_; rintro r w1 ⟨b, rfl, hb, hx1⟩)
    have hBb := Lib.hid hb
    clear hb
    cases b
    · go_wp2_with fail
      go_ret
      exact ⟨rfl, hx1⟩
    · have hfit := Lib.hid (matchAll_same (hBb.out rfl))
      clear hBb
      go_wp2_with (first
        | (go_at_call 25; refine (hQ.out _ hx1).mono ?_; rintro r w2 ⟨e, rfl, hT, hx2⟩; simp only [El.val]
           have hb3 : Box (w2.alloc (.cells e.arr 26)) w2.heap.size e.arr 26 := Box.at rfl _ _
           obtain ⟨o0, o1, o2, o3, o4, o5⟩ := hb3.six
           rw [jMap_tree] at hT
           have hT := Lib.hid (hT.ext (ext_alloc (ext_refl w2) (.cells e.arr 26)))
           have hx3 : Ext w (w2.alloc (.cells e.arr 26)) := ext_alloc (ext_trans hx1 hx2) _
           have hRB := Lib.hid (rb_any s_match_all _ e none 0 0 [] _ hT.out (strs_none _) (fun k t hl => ⟨NoNull.append (noNull_N _ _) (noNull_T _ _) _ (lastOf_mem hl), fun hh => by simp [hasS] at hh⟩) (by have h1 := jN_len s_boost (lastOf ps s_boost); have h2 := jT_len s_name (lastOf ps s_name); simp only [List.length_map, List.length_append]; omega))
           clear hQ)
        | (go_at_call 22; refine hRB.out.mono ?_; rintro r w4 ⟨g4, rfl, hT4, hx4⟩; simp only [El.val]; have hx5 := ext_trans hx3 hx4; clear hRB)
        | (go_at_call 17; refine (hB.out _ hx5).mono ?_; rintro r w6 ⟨g6, rfl, hT6, hx6⟩; simp only [El.val]; have hSm := Lib.hid (same_any (S := fun _ => True) _ _ g4 g6 _ ((hT4.ext hx6).any) hT6.any); have hx7 := ext_trans hx5 hx6)
        | (go_at_call 16; refine hSm.out.mono ?_; rintro r w8 ⟨rfl, hx8⟩; rw [hfit.out]))
      go_ret
      exact ⟨rfl, ext_trans hx7 hx8⟩
end Go.Proofs.Ytbhdkbbhhffldaa
