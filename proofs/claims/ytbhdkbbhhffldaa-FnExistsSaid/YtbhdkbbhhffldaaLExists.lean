/-
  An exists query names its field.
-/
import Derived.Test.YtbhdkbbhhffldaaExists
import Derived.Test.YtbhdkbbhhffldaaLw
import Derived.Test.YtbhdkbbhhffldaaF3
namespace Go.Proofs.Ytbhdkbbhhffldaa
open Go.RowKit

abbrev sExists : ByteArray := ⟨#[69, 120, 105, 115, 116, 115]⟩
abbrev tExists : ByteArray := ⟨#[95, 110, 97, 109, 101, 32, 116]⟩
abbrev rExists : List (ByteArray × ByteArray) := [(s_name, ⟨#[116]⟩)]
set_option maxHeartbeats 2000000 in
theorem table_exists (w : World) : Calls Try.prog 102 #[.string sExists] w fun r w' => r = .returned (.string tExists) ∧ w' = w := by
  go_enter Try.func102, Try.ntmps102
  go_wp2
  go_ret
  exact ⟨rfl, rfl⟩
theorem rows_exists (w : World) : Calls Try.prog 72 #[.string sExists] w fun r w' => ∃ v, r = .returned v ∧ Own2 w' w.heap.size v rExists ∧ Ext w w' :=
  rows_any sExists tExists w table_exists 4 (by decide) (by decide)
theorem exists_same (f : ByteArray) {ps : List (ByteArray × T)} (hF : FitsP rExists ps) : sameT (mapT [(s_exists, mapT (jTree ([(s_field, J.str f)] ++ jT s_name (lastOf ps s_name))))]) (mapT [(s_exists, mapT (paramsL rExists ps ++ [(s_field, textT f)]))]) = true := by
  refine same_one _ (sameT_map ?_)
  rw [params_cons, params_nil, List.append_nil]
  unfold jTree
  rw [List.map_append]
  refine SameL.of (SameL.append (jT_same hF (by rw [kindL_dec]; decide)) (SameL.one s_field (sameT_self _ (okT_text f)))) fun x => ?_
  exact lastOf_swap (keys_one s_field (treeJ (.str f))) (keys_T s_name (lastOf ps s_name)) (by decide) x
set_option maxHeartbeats 2000000 in
theorem exists_law {S : Nat → Prop} (f : ByteArray) (a : Option Addr) (n c : Nat) (ps : List (ByteArray × T)) (w : World) (h : PairsAt S w a n c ps) : Calls Try.prog 6 #[.string f, .slice a n c] w fun r w' => r = .returned (.bool true) ∧ Ext w w' := by
  have hnl := Nat.le_trans h.2.1 h.2.2.1
  unfold maxLen at hnl
  have hF := Lib.hid fun w' (x : Ext w w') => fits_any sExists rExists a n c ps w' rows_exists (by simp [plainK]) (h.ext x)
  have hPs := Lib.hid fun w' (x : Ext w w') => (h.keep (S' := fun _ => True) (fun _ _ _ => trivial) (fun _ _ _ => rfl)).ext x
  have hQ := Lib.hid fun w' (x : Ext w w') => exists_any f a n c ps w' (h.ext x)
  clear h
  go_enter Try.func6, Try.ntmps6
  by_cases h1 : 2147483647 < f.size
  · go_wp2_with fail
    go_ret
    exact ⟨rfl, ext_refl _⟩
  · by_cases h2 : 2147483647 < n
    · go_wp2_with fail
      go_ret
      exact ⟨rfl, ext_refl _⟩
    · have hFd := Lib.hid (field_any f (by omega) w)
      go_wp2_with (go_at_call 23; refine hFd.out.mono ?_; rintro r w1 ⟨b1, rfl, hb1, hx1⟩; clear hb1)
      · refine (hF.out _ hx1).mono ?_
        rintro r w2 ⟨b, rfl, hb, hx2⟩
        have hBb := Lib.hid hb
        clear hb
        cases b
        · go_wp2_with fail
          go_ret
          exact ⟨rfl, ext_trans hx1 hx2⟩
        · have hfit := Lib.hid (exists_same f (hBb.out rfl))
          clear hBb
          go_wp2_with (first
            | (go_at_call 24; refine (hQ.out _ (ext_trans hx1 hx2)).mono ?_; rintro r w3 ⟨e, rfl, hT, hx3⟩; simp only [El.val]
               have hb3 : Box (w3.alloc (.cells e.arr 26)) w3.heap.size e.arr 26 := Box.at rfl _ _
               obtain ⟨o0, o1, o2, o3, o4, o5⟩ := hb3.six
               rw [jMap_tree] at hT
               have hT := Lib.hid (hT.ext (ext_alloc (ext_refl w3) (.cells e.arr 26)))
               have hx4 : Ext w (w3.alloc (.cells e.arr 26)) := ext_alloc (ext_trans (ext_trans hx1 hx2) hx3) _
               have hRB := Lib.hid (rb_any s_exists _ e none 0 0 [] _ hT.out (strs_none _) (fun k t hl => ⟨NoNull.append (noNull_str _ _) (noNull_T _ _) _ (lastOf_mem hl), fun hh => by simp [hasS] at hh⟩) (by have h2 := jT_len s_name (lastOf ps s_name); simp only [List.length_map, List.length_append, List.length_cons, List.length_nil]; omega))
               clear hQ)
            | (go_at_call 22; refine hRB.out.mono ?_; rintro r w4 ⟨g4, rfl, hT4, hx5⟩; simp only [El.val]; have hx6 := ext_trans hx4 hx5; clear hRB)
            | (go_at_call 18; refine (text_any f _).mono ?_; rintro r w5 ⟨g5, rfl, hT5, hx7⟩; simp only [El.val]
               have hx8 := ext_trans hx6 hx7
               have hPr := Lib.hid (pairs_one (S := fun _ => True) (k := s_field) (Box.at (w := w5) rfl #[.string s_field, .int .i64 g5.k, .string g5.x, .float .f64 g5.d, .bool g5.y, .slice g5.ka g5.n g5.kc, .slice g5.ca g5.m g5.cc] 33) trivial ((hT5 (fun _ => True)).ext (ext_alloc (ext_refl _) _)))
               have hBs := Lib.hid (beside_more (S := fun _ => True) s_exists sExists tExists a n c ps _ table_exists 4 (by decide) (by decide) rExists (by decide) (by decide) ((hPs.out _ (ext_alloc hx8 _))) w5.heap.size 0 1 1 [(s_field, textT f)] hPr.out (by decide) (by decide)))
            | (go_at_call 17; refine hBs.out.mono ?_; rintro r w6 ⟨g6, rfl, hT6, hx9⟩; simp only [El.val]; have hx10 := ext_trans (ext_alloc hx7 _) hx9; have hSm := Lib.hid (same_any (S := fun _ => True) _ _ g4 g6 _ ((hT4.ext hx10).any) hT6.any); have hx11 := ext_trans hx6 hx10)
            | (go_at_call 16; refine hSm.out.mono ?_; rintro r w8 ⟨rfl, hx12⟩; rw [hfit.out]))
          go_ret
          exact ⟨rfl, ext_trans hx11 hx12⟩
      · go_ret
        exact ⟨rfl, hx1⟩
end Go.Proofs.Ytbhdkbbhhffldaa
