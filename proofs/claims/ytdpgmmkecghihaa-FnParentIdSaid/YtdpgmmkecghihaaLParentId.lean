/-
  The law of a query with its settings (ParentId): what the builder gives is what is told.
-/
import Derived.Test.YtdpgmmkecghihaaIParentId
import Derived.Test.YtdpgmmkecghihaaLx
import Derived.Test.YtdpgmmkecghihaaF3
namespace Go.Proofs.Ytdpgmmkecghihaa
open Go.RowKit

abbrev sParentId : ByteArray := ⟨#[80, 97, 114, 101, 110, 116, 73, 100]⟩
abbrev tParentId : ByteArray := ⟨#[98, 111, 111, 115, 116, 32, 110, 44, 105, 103, 110, 111, 114, 101, 95, 117, 110, 109, 97, 112, 112, 101, 100, 32, 98, 44, 95, 110, 97, 109, 101, 32, 116]⟩
abbrev rParentId : List (ByteArray × ByteArray) := [(s_boost, ⟨#[110]⟩), (s_ignore_unmapped, ⟨#[98]⟩), (s_name, ⟨#[116]⟩)]
set_option maxHeartbeats 2000000 in
theorem table_parentId (w : World) : Calls Try.prog 149 #[.string sParentId] w fun r w' => r = .returned (.string tParentId) ∧ w' = w := by
  go_enter Try.func149, Try.ntmps149
  go_wp2
  go_ret
  exact ⟨rfl, rfl⟩
theorem rows_parentId (w : World) : Calls Try.prog 63 #[.string sParentId] w fun r w' => ∃ v, r = .returned v ∧ Own2 w' w.heap.size v rParentId ∧ Ext w w' :=
  rows_any sParentId tParentId w table_parentId 6 (by decide) (by decide)
theorem parentId_same (f : ByteArray) (fid : ByteArray) {ps : List (ByteArray × T)} (hF : FitsP rParentId ps) : sameT (mapT [(s_parent_id, mapT (jTree ([(s_type, J.str f)] ++ [(s_id, J.str fid)] ++ jN s_boost (lastOf ps s_boost) ++ jY s_ignore_unmapped (lastOf ps s_ignore_unmapped) ++ jT s_name (lastOf ps s_name))))]) (mapT [(s_parent_id, mapT (paramsL rParentId ps ++ [(s_type, textT f), (s_id, textT fid)]))]) = true := by
  refine same_one _ (sameT_map ?_)
  let chs : Nat → Ch := fun i => match i with
    | 0 => (s_type, [(s_type, textT f)])
    | 1 => (s_id, [(s_id, textT fid)])
    | 2 => (s_boost, (param ps (s_boost, ⟨#[110]⟩)).toList)
    | 3 => (s_ignore_unmapped, (param ps (s_ignore_unmapped, ⟨#[98]⟩)).toList)
    | 4 => (s_name, (param ps (s_name, ⟨#[116]⟩)).toList)
    | _ => (emptyS, [])
  have h0 : SameL (jTree ([(s_type, J.str f)] ++ [(s_id, J.str fid)] ++ jN s_boost (lastOf ps s_boost) ++ jY s_ignore_unmapped (lastOf ps s_ignore_unmapped) ++ jT s_name (lastOf ps s_name))) ([(s_type, textT f)] ++ [(s_id, textT fid)] ++ (param ps (s_boost, ⟨#[110]⟩)).toList ++ (param ps (s_ignore_unmapped, ⟨#[98]⟩)).toList ++ (param ps (s_name, ⟨#[116]⟩)).toList) := by
    unfold jTree
    rw [List.map_append, List.map_append, List.map_append, List.map_append]
    exact SameL.append (SameL.append (SameL.append (SameL.append (SameL.one s_type (sameT_self _ (okT_text f))) (SameL.one s_id (sameT_self _ (okT_text fid)))) (jN_same hF (by rw [kindL_dec]; decide))) (jY_same hF (by rw [kindL_dec]; decide))) (jT_same hF (by rw [kindL_dec]; decide))
  have h1 := SameL.reorder (f := chs) [0, 1, 2, 3, 4] [2, 3, 4, 0, 1] (by decide) (show [s_type, s_id, s_boost, s_ignore_unmapped, s_name].Nodup by decide) (by intro c hc; simp only [List.map_cons, List.map_nil, List.mem_cons, List.not_mem_nil, or_false] at hc; rcases hc with rfl | rfl | rfl | rfl | rfl <;> first | exact keys_param _ _ | exact keys_one _ _) (by simpa only [chs, flatC, List.map_cons, List.map_nil, List.flatMap_cons, List.flatMap_nil, List.append_nil, List.append_assoc] using h0)
  rw [params_cons, params_cons, params_cons, params_nil]
  refine (show SameL _ _ from ?_)
  simpa only [chs, flatC, List.map_cons, List.map_nil, List.flatMap_cons, List.flatMap_nil, List.append_nil, List.append_assoc, List.cons_append, List.nil_append] using h1
set_option maxHeartbeats 4000000 in
theorem parentId_law {S : Nat → Prop} (f : ByteArray) (fid : ByteArray) (a : Option Addr) (n c : Nat) (ps : List (ByteArray × T)) (w : World) (h : PairsAt S w a n c ps) : Calls Try.prog 6 #[.string f, .string fid, .slice a n c] w fun r w' => r = .returned (.bool true) ∧ Ext w w' := by
  have hnl := Nat.le_trans h.2.1 h.2.2.1
  unfold maxLen at hnl
  have hF := Lib.hid fun w' (x : Ext w w') => fits_any sParentId rParentId a n c ps w' rows_parentId (by simp [plainK]) (h.ext x)
  have hPs := Lib.hid fun w' (x : Ext w w') => (h.keep (S' := fun _ => True) (fun _ _ _ => trivial) (fun _ _ _ => rfl)).ext x
  have hQ := Lib.hid fun w' (x : Ext w w') => parentId_any a n c ps w' f fid  (h.ext x)
  clear h
  go_enter Try.func6, Try.ntmps6
  by_cases h1 : 2147483647 < f.size
  · go_wp2_with fail
    go_ret
    exact ⟨rfl, ext_refl _⟩
  · skip
    by_cases h2 : 2147483647 < fid.size
    · go_wp2_with fail
      go_ret
      exact ⟨rfl, ext_refl _⟩
    · skip
      by_cases h3 : 2147483647 < n
      · go_wp2_with fail
        go_ret
        exact ⟨rfl, ext_refl _⟩
      · skip
        cases hEf : f.toList.isEmpty
        case true =>
          go_wp2_with fail
          go_ret
          exact ⟨rfl, ext_refl _⟩
        cases hEfid : fid.toList.isEmpty
        case true =>
          go_wp2_with fail
          go_ret
          exact ⟨rfl, ext_refl _⟩
        go_wp2_with (go_at_call 15; refine (hF.out _ (ext_refl _)).mono ?_; rintro r w2 ⟨b, rfl, hb, hx2⟩; have hBb := Lib.hid hb; clear hb; cases b)
        · go_ret
          exact ⟨rfl, hx2⟩
        · have hff := hBb.out (by trivial)
          have hfit := Lib.hid (parentId_same f fid hff)
          have hQ := Lib.hid (hQ.out w2 hx2)
          clear hBb
          have tk0 := trivial
          have tk1 := trivial
          go_wp2_with (first
            | (go_at_call 29; refine hQ.out.mono ?_; rintro r w3 ⟨e, rfl, hT, hx3⟩; simp only [El.val]
               have hb3 : Box (w3.alloc (.cells e.arr 28)) w3.heap.size e.arr 28 := Box.at rfl _ _
               obtain ⟨o0, o1, o2, o3, o4, o5⟩ := hb3.six
               rw [jMap_tree] at hT
               have hT := Lib.hid (hT.ext (ext_alloc (ext_refl w3) (.cells e.arr 28)))
               have hx4 : Ext w (w3.alloc (.cells e.arr 28)) := ext_alloc (ext_trans hx2 hx3) _
               have hRB := Lib.hid (rb_any s_parent_id _ e none 0 0 [] _ hT.out (strs_none _) (fun k t hl => ⟨(NoNull.append (NoNull.append (NoNull.append (NoNull.append (noNull_str _ _) (noNull_str _ _)) (noNull_N _ _)) (noNull_Y _ _)) (noNull_T _ _)) _ (lastOf_mem hl), fun hh => by simp [hasS] at hh⟩) (by have h1 := jN_len s_boost (lastOf ps s_boost); have h2 := jY_len s_ignore_unmapped (lastOf ps s_ignore_unmapped); have h3 := jT_len s_name (lastOf ps s_name); simp only [List.length_map, List.length_append, List.length_cons, List.length_nil]; omega))
               clear hQ)
            | (go_at_call 23; refine hRB.out.mono ?_; rintro r w4 ⟨g4, rfl, hT4, hx5⟩; simp only [El.val]; have hx6 := ext_trans hx4 hx5; clear hRB)
            | (go_at_call 31; have _t := tk0; clear _t tk0; refine (text_any f _).mono ?_; rintro r w50 ⟨gt0, rfl, hTt0, hxt0⟩; simp only [El.val]
               have hxc0 := ext_trans (ext_refl w4) hxt0
               have hTh0 := Lib.hid (hTt0 (fun _ => True)); clear hTt0)
            | (go_at_call 31; have _t := tk1; clear _t tk1; refine (text_any fid _).mono ?_; rintro r w51 ⟨gt1, rfl, hTt1, hxt1⟩; simp only [El.val]
               have hxc1 := ext_trans (hxc0) hxt1
               have hTh1 := Lib.hid (hTt1 (fun _ => True)); clear hTt1
               have hPr := Lib.hid (pairs_box (S := fun _ => True) (es := [(s_type, gt0), (s_id, gt1)]) (Box.at (w := w51) rfl #[.string s_type, .int .i64 gt0.k, .string gt0.x, .float .f64 gt0.d, .bool gt0.y, .slice gt0.ka gt0.n gt0.kc, .slice gt0.ca gt0.m gt0.cc, .string s_id, .int .i64 gt1.k, .string gt1.x, .float .f64 gt1.d, .bool gt1.y, .slice gt1.ka gt1.n gt1.kc, .slice gt1.ca gt1.m gt1.cc] 50) trivial (by simp [maxLen]) (Pk.append (Pk.one (k := s_type) (hTh0.out.ext (ext_alloc (ext_trans (ext_refl _) hxt1) _))) (Pk.one (k := s_id) (hTh1.out.ext (ext_alloc (ext_refl _) _)))))
               have hBs := Lib.hid (beside_more (S := fun _ => True) s_parent_id sParentId tParentId a n c ps _ table_parentId 6 (by decide) (by decide) rParentId (by decide) (by decide) (hPs.out _ (ext_alloc (ext_trans hx6 (hxc1)) _)) w51.heap.size 0 2 2 [(s_type, textT f), (s_id, textT fid)] hPr.out (by decide) (by decide)))
            | (go_at_call 30; refine hBs.out.mono ?_; rintro r w6 ⟨g6, rfl, hT6, hx9⟩; simp only [El.val]; have hx10 := ext_trans (ext_alloc (hxc1) _) hx9; have hSm := Lib.hid (same_any (S := fun _ => True) _ _ g4 g6 _ ((hT4.ext hx10).any) hT6.any); have hx11 := ext_trans hx6 hx10)
            | (go_at_call 17; refine hSm.out.mono ?_; rintro r w8 ⟨rfl, hx12⟩; rw [hfit.out]))
          go_ret
          exact ⟨rfl, ext_trans hx11 hx12⟩
end Go.Proofs.Ytdpgmmkecghihaa
