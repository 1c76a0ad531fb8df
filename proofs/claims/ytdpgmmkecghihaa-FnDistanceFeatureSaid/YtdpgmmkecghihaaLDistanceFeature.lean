/-
  The law of a query with its settings (DistanceFeature): what the builder gives is what is told.
-/
import Derived.Test.YtdpgmmkecghihaaIDistanceFeature
import Derived.Test.YtdpgmmkecghihaaLx
import Derived.Test.YtdpgmmkecghihaaZz
namespace Go.Proofs.Ytdpgmmkecghihaa
open Go.RowKit

abbrev sDistanceFeature : ByteArray := ⟨#[68, 105, 115, 116, 97, 110, 99, 101, 70, 101, 97, 116, 117, 114, 101]⟩
abbrev tDistanceFeature : ByteArray := ⟨#[98, 111, 111, 115, 116, 32, 110, 44, 95, 110, 97, 109, 101, 32, 116]⟩
abbrev rDistanceFeature : List (ByteArray × ByteArray) := [(s_boost, ⟨#[110]⟩), (s_name, ⟨#[116]⟩)]
set_option maxHeartbeats 2000000 in
theorem table_distanceFeature (w : World) : Calls Try.prog 149 #[.string sDistanceFeature] w fun r w' => r = .returned (.string tDistanceFeature) ∧ w' = w := by
  go_enter Try.func149, Try.ntmps149
  go_wp2
  go_ret
  exact ⟨rfl, rfl⟩
theorem rows_distanceFeature (w : World) : Calls Try.prog 63 #[.string sDistanceFeature] w fun r w' => ∃ v, r = .returned v ∧ Own2 w' w.heap.size v rDistanceFeature ∧ Ext w w' :=
  rows_any sDistanceFeature tDistanceFeature w table_distanceFeature 5 (by decide) (by decide)
theorem distanceFeature_same (f : ByteArray) (gt : T) (hgS : scalarT gt = true) (hgK : gt.kind = 1) (fp : ByteArray) {ps : List (ByteArray × T)} (hF : FitsP rDistanceFeature ps) : sameT (mapT [(s_distance_feature, mapT (jTree ([(s_field, J.str f)] ++ [(s_pivot, J.str fp)] ++ [(s_origin, J.str gt.text)] ++ jN s_boost (lastOf ps s_boost) ++ jT s_name (lastOf ps s_name))))]) (mapT [(s_distance_feature, mapT (paramsL rDistanceFeature ps ++ [(s_field, textT f), (s_origin, gt), (s_pivot, textT fp)]))]) = true := by
  refine same_one _ (sameT_map ?_)
  let chs : Nat → Ch := fun i => match i with
    | 0 => (s_field, [(s_field, textT f)])
    | 1 => (s_pivot, [(s_pivot, textT fp)])
    | 2 => (s_origin, [(s_origin, gt)])
    | 3 => (s_boost, (param ps (s_boost, ⟨#[110]⟩)).toList)
    | 4 => (s_name, (param ps (s_name, ⟨#[116]⟩)).toList)
    | _ => (emptyS, [])
  have h0 : SameL (jTree ([(s_field, J.str f)] ++ [(s_pivot, J.str fp)] ++ [(s_origin, J.str gt.text)] ++ jN s_boost (lastOf ps s_boost) ++ jT s_name (lastOf ps s_name))) ([(s_field, textT f)] ++ [(s_pivot, textT fp)] ++ [(s_origin, gt)] ++ (param ps (s_boost, ⟨#[110]⟩)).toList ++ (param ps (s_name, ⟨#[116]⟩)).toList) := by
    unfold jTree
    rw [List.map_append, List.map_append, List.map_append, List.map_append]
    exact SameL.append (SameL.append (SameL.append (SameL.append (SameL.one s_field (sameT_self _ (okT_text f))) (SameL.one s_pivot (sameT_self _ (okT_text fp)))) (SameL.one s_origin (same_text hgK hgS).1)) (jN_same hF (by rw [kindL_dec]; decide))) (jT_same hF (by rw [kindL_dec]; decide))
  have h1 := SameL.reorder (f := chs) [0, 1, 2, 3, 4] [3, 4, 0, 2, 1] (by decide) (show [s_field, s_pivot, s_origin, s_boost, s_name].Nodup by decide) (by intro c hc; simp only [List.map_cons, List.map_nil, List.mem_cons, List.not_mem_nil, or_false] at hc; rcases hc with rfl | rfl | rfl | rfl | rfl <;> first | exact keys_param _ _ | exact keys_one _ _) (by simpa only [chs, flatC, List.map_cons, List.map_nil, List.flatMap_cons, List.flatMap_nil, List.append_nil, List.append_assoc] using h0)
  rw [params_cons, params_cons, params_nil]
  refine (show SameL _ _ from ?_)
  simpa only [chs, flatC, List.map_cons, List.map_nil, List.flatMap_cons, List.flatMap_nil, List.append_nil, List.append_assoc, List.cons_append, List.nil_append] using h1
set_option maxHeartbeats 4000000 in
theorem distanceFeature_law {S : Nat → Prop} (f : ByteArray) (ge : El) (gt : T) (fp : ByteArray) (a : Option Addr) (n c : Nat) (ps : List (ByteArray × T)) (w : World) (hgT : TreeAt S w ge gt) (h : PairsAt S w a n c ps) : Calls Try.prog 11 #[.string f, ge.val, .string fp, .slice a n c] w fun r w' => r = .returned (.bool true) ∧ Ext w w' := by
  obtain ⟨gk, gx, gd, gy, gka, gn, gkc, gca, gm, gcc⟩ := ge
  have hnl := Nat.le_trans h.2.1 h.2.2.1
  unfold maxLen at hnl
  have hPs := Lib.hid fun w' (x : Ext w w') => (h.keep (S' := fun _ => True) (fun _ _ _ => trivial) (fun _ _ _ => rfl)).ext x
  have hZg := Lib.hid fun w' (x : Ext w w') => zzFits5_any (⟨gk, gx, gd, gy, gka, gn, gkc, gca, gm, gcc⟩ : El) gt w' (hgT.ext x)
  have hTg := Lib.hid fun w' (x : Ext w w') => (TreeAt.ext x hgT).any
  have hF := Lib.hid fun w' (x : Ext w w') => fits_any sDistanceFeature rDistanceFeature a n c ps w' rows_distanceFeature (by simp [plainK]) (h.ext x)
  have hQ := Lib.hid fun w' (x : Ext w w') (hgS : scalarT gt = true) (hgK : gt.kind = 1) => distanceFeature_any a n c ps w' f (⟨gk, gx, gd, gy, gka, gn, gkc, gca, gm, gcc⟩ : El) gt (TreeAt.ext x hgT) hgS hgK fp  (h.ext x)
  clear h
  clear hgT
  simp only [El.val]
  have hbtg : Box (w.alloc (.cells (⟨gk, gx, gd, gy, gka, gn, gkc, gca, gm, gcc⟩ : El).arr 28)) w.heap.size (⟨gk, gx, gd, gy, gka, gn, gkc, gca, gm, gcc⟩ : El).arr 28 := Box.at rfl _ _
  go_enter Try.func11, Try.ntmps11
  by_cases hsz0 : 2147483647 < f.size
  · go_wp2_with (first
        | (go_at_call 32; refine (hZg.out _ (by (repeat (first | exact ext_refl _ | assumption | refine ext_alloc ?_ _ | refine ext_drew ?_ | refine ext_set ?_ (by simp) _ | refine ext_trans ?_ (by assumption))))).mono ?_; rintro r wzg ⟨bzg, rfl, hzg, hxzg⟩; have HZg := Lib.hid hzg; clear hzg; have hbtg_wzg := hbtg.ext (show Ext (w.alloc (.cells (⟨gk, gx, gd, gy, gka, gn, gkc, gca, gm, gcc⟩ : El).arr 28)) wzg by (repeat (first | exact ext_refl _ | assumption | refine ext_alloc ?_ _ | refine ext_drew ?_ | refine ext_set ?_ (by simp) _ | refine ext_trans ?_ (by assumption)))); obtain ⟨og0, og1, og2, og3, og4, og5⟩ := hbtg_wzg.six; cases bzg))
    all_goals (go_ret; exact ⟨rfl, by (repeat (first | exact ext_refl _ | assumption | refine ext_alloc ?_ _ | refine ext_drew ?_ | refine ext_set ?_ (by simp) _ | refine ext_trans ?_ (by assumption)))⟩)
  · skip
    by_cases hsz1 : 2147483647 < fp.size
    · go_wp2_with (first
          | (go_at_call 32; refine (hZg.out _ (by (repeat (first | exact ext_refl _ | assumption | refine ext_alloc ?_ _ | refine ext_drew ?_ | refine ext_set ?_ (by simp) _ | refine ext_trans ?_ (by assumption))))).mono ?_; rintro r wzg ⟨bzg, rfl, hzg, hxzg⟩; have HZg := Lib.hid hzg; clear hzg; have hbtg_wzg := hbtg.ext (show Ext (w.alloc (.cells (⟨gk, gx, gd, gy, gka, gn, gkc, gca, gm, gcc⟩ : El).arr 28)) wzg by (repeat (first | exact ext_refl _ | assumption | refine ext_alloc ?_ _ | refine ext_drew ?_ | refine ext_set ?_ (by simp) _ | refine ext_trans ?_ (by assumption)))); obtain ⟨og0, og1, og2, og3, og4, og5⟩ := hbtg_wzg.six; cases bzg))
      all_goals (go_ret; exact ⟨rfl, by (repeat (first | exact ext_refl _ | assumption | refine ext_alloc ?_ _ | refine ext_drew ?_ | refine ext_set ?_ (by simp) _ | refine ext_trans ?_ (by assumption)))⟩)
    · skip
      by_cases hsz2 : 2147483647 < n
      · go_wp2_with (first
            | (go_at_call 32; refine (hZg.out _ (by (repeat (first | exact ext_refl _ | assumption | refine ext_alloc ?_ _ | refine ext_drew ?_ | refine ext_set ?_ (by simp) _ | refine ext_trans ?_ (by assumption))))).mono ?_; rintro r wzg ⟨bzg, rfl, hzg, hxzg⟩; have HZg := Lib.hid hzg; clear hzg; have hbtg_wzg := hbtg.ext (show Ext (w.alloc (.cells (⟨gk, gx, gd, gy, gka, gn, gkc, gca, gm, gcc⟩ : El).arr 28)) wzg by (repeat (first | exact ext_refl _ | assumption | refine ext_alloc ?_ _ | refine ext_drew ?_ | refine ext_set ?_ (by simp) _ | refine ext_trans ?_ (by assumption)))); obtain ⟨og0, og1, og2, og3, og4, og5⟩ := hbtg_wzg.six; cases bzg))
        all_goals (go_ret; exact ⟨rfl, by (repeat (first | exact ext_refl _ | assumption | refine ext_alloc ?_ _ | refine ext_drew ?_ | refine ext_set ?_ (by simp) _ | refine ext_trans ?_ (by assumption)))⟩)
      · skip
        cases hEfp : fp.toList.isEmpty
        case true =>
          go_wp2_with (first
              | (go_at_call 32; refine (hZg.out _ (by (repeat (first | exact ext_refl _ | assumption | refine ext_alloc ?_ _ | refine ext_drew ?_ | refine ext_set ?_ (by simp) _ | refine ext_trans ?_ (by assumption))))).mono ?_; rintro r wzg ⟨bzg, rfl, hzg, hxzg⟩; have HZg := Lib.hid hzg; clear hzg; have hbtg_wzg := hbtg.ext (show Ext (w.alloc (.cells (⟨gk, gx, gd, gy, gka, gn, gkc, gca, gm, gcc⟩ : El).arr 28)) wzg by (repeat (first | exact ext_refl _ | assumption | refine ext_alloc ?_ _ | refine ext_drew ?_ | refine ext_set ?_ (by simp) _ | refine ext_trans ?_ (by assumption)))); obtain ⟨og0, og1, og2, og3, og4, og5⟩ := hbtg_wzg.six; cases bzg))
          all_goals (go_ret; exact ⟨rfl, by (repeat (first | exact ext_refl _ | assumption | refine ext_alloc ?_ _ | refine ext_drew ?_ | refine ext_set ?_ (by simp) _ | refine ext_trans ?_ (by assumption)))⟩)
        by_cases hIg : gk = 1
        case neg =>
          go_wp2_with (first
              | (go_at_call 32; refine (hZg.out _ (by (repeat (first | exact ext_refl _ | assumption | refine ext_alloc ?_ _ | refine ext_drew ?_ | refine ext_set ?_ (by simp) _ | refine ext_trans ?_ (by assumption))))).mono ?_; rintro r wzg ⟨bzg, rfl, hzg, hxzg⟩; have HZg := Lib.hid hzg; clear hzg; have hbtg_wzg := hbtg.ext (show Ext (w.alloc (.cells (⟨gk, gx, gd, gy, gka, gn, gkc, gca, gm, gcc⟩ : El).arr 28)) wzg by (repeat (first | exact ext_refl _ | assumption | refine ext_alloc ?_ _ | refine ext_drew ?_ | refine ext_set ?_ (by simp) _ | refine ext_trans ?_ (by assumption)))); obtain ⟨og0, og1, og2, og3, og4, og5⟩ := hbtg_wzg.six; cases bzg))
          all_goals (go_ret; exact ⟨rfl, by (repeat (first | exact ext_refl _ | assumption | refine ext_alloc ?_ _ | refine ext_drew ?_ | refine ext_set ?_ (by simp) _ | refine ext_trans ?_ (by assumption)))⟩)
        subst hIg
        go_wp2_with (first
          | (go_at_call 32; refine (hZg.out _ (by (repeat (first | exact ext_refl _ | assumption | refine ext_alloc ?_ _ | refine ext_drew ?_ | refine ext_set ?_ (by simp) _ | refine ext_trans ?_ (by assumption))))).mono ?_; rintro r wzg ⟨bzg, rfl, hzg, hxzg⟩; have HZg := Lib.hid hzg; clear hzg; have hbtg_wzg := hbtg.ext (show Ext (w.alloc (.cells (⟨1, gx, gd, gy, gka, gn, gkc, gca, gm, gcc⟩ : El).arr 28)) wzg by (repeat (first | exact ext_refl _ | assumption | refine ext_alloc ?_ _ | refine ext_drew ?_ | refine ext_set ?_ (by simp) _ | refine ext_trans ?_ (by assumption)))); obtain ⟨og0, og1, og2, og3, og4, og5⟩ := hbtg_wzg.six; cases bzg)
          | (go_at_call 33; refine (scalar_yes _ _ _ (hTg.out _ (by (repeat (first | exact ext_refl _ | assumption | refine ext_alloc ?_ _ | refine ext_drew ?_ | refine ext_set ?_ (by simp) _ | refine ext_trans ?_ (by assumption)))))).mono ?_; rintro r wscg ⟨bscg, rfl, hscg, hxscg⟩; have Hscg := Lib.hid hscg; clear hscg; have hbtg_wscg := hbtg.ext (show Ext (w.alloc (.cells (⟨1, gx, gd, gy, gka, gn, gkc, gca, gm, gcc⟩ : El).arr 28)) wscg by (repeat (first | exact ext_refl _ | assumption | refine ext_alloc ?_ _ | refine ext_drew ?_ | refine ext_set ?_ (by simp) _ | refine ext_trans ?_ (by assumption)))); obtain ⟨og0, og1, og2, og3, og4, og5⟩ := hbtg_wscg.six; cases bscg)
          | (go_at_call 21; refine (field_any f (by omega) _).mono ?_; rintro r wfdf ⟨bfdf, rfl, hfdf, hxfdf⟩; have Hfdf := Lib.hid hfdf; clear hfdf; have hbtg_wfdf := hbtg.ext (show Ext (w.alloc (.cells (⟨1, gx, gd, gy, gka, gn, gkc, gca, gm, gcc⟩ : El).arr 28)) wfdf by (repeat (first | exact ext_refl _ | assumption | refine ext_alloc ?_ _ | refine ext_drew ?_ | refine ext_set ?_ (by simp) _ | refine ext_trans ?_ (by assumption)))); obtain ⟨og0, og1, og2, og3, og4, og5⟩ := hbtg_wfdf.six; cases bfdf)
          | (go_at_call 15; refine (hF.out _ (by (repeat (first | exact ext_refl _ | assumption | refine ext_alloc ?_ _ | refine ext_drew ?_ | refine ext_set ?_ (by simp) _ | refine ext_trans ?_ (by assumption))))).mono ?_; rintro r wff ⟨bff, rfl, hff, hxff⟩; have Hff := Lib.hid hff; clear hff; have hbtg_wff := hbtg.ext (show Ext (w.alloc (.cells (⟨1, gx, gd, gy, gka, gn, gkc, gca, gm, gcc⟩ : El).arr 28)) wff by (repeat (first | exact ext_refl _ | assumption | refine ext_alloc ?_ _ | refine ext_drew ?_ | refine ext_set ?_ (by simp) _ | refine ext_trans ?_ (by assumption)))); obtain ⟨og0, og1, og2, og3, og4, og5⟩ := hbtg_wff.six; cases bff))
        all_goals (try (go_ret; exact ⟨rfl, by (repeat (first | exact ext_refl _ | assumption | refine ext_alloc ?_ _ | refine ext_drew ?_ | refine ext_set ?_ (by simp) _ | refine ext_trans ?_ (by assumption)))⟩))
        have hff := Hff.out (by trivial)
        have hgK : gt.kind = 1 := (hTg.out w (ext_refl _)).parts.1.symm
        have hgS := Hscg.out (by trivial)
        have hfit := Lib.hid (distanceFeature_same f gt hgS hgK fp hff)
        have hx0 : Ext (w.alloc (.cells (⟨1, gx, gd, gy, gka, gn, gkc, gca, gm, gcc⟩ : El).arr 28)) wff := by (repeat (first | exact ext_refl _ | assumption | refine ext_alloc ?_ _ | refine ext_drew ?_ | refine ext_set ?_ (by simp) _ | refine ext_trans ?_ (by assumption)))
        have hx1 : Ext w wff := by (repeat (first | exact ext_refl _ | assumption | refine ext_alloc ?_ _ | refine ext_drew ?_ | refine ext_set ?_ (by simp) _ | refine ext_trans ?_ (by assumption)))
        refine (hQ.out wff hx1 hgS hgK).mono ?_
        rintro r w3 ⟨e, rfl, hT, hx3⟩
        simp only [El.val]
        go_upto_region 6 with fail
        have hb3 : Box (w3.alloc (.cells e.arr 28)) w3.heap.size e.arr 28 := Box.at rfl _ _
        have hxa := ext_alloc (ext_trans hx0 hx3) (.cells e.arr 28)
        have hxb : Ext w (w3.alloc (.cells e.arr 28)) := ext_alloc (ext_trans hx1 hx3) _
        rw [jMap_tree] at hT
        have hT3 := Lib.hid (hT.ext (ext_alloc (ext_refl w3) (.cells e.arr 28)))
        clear hT
        generalize w3.alloc (.cells e.arr 28) = w4 at hb3 hxa hxb hT3 ⊢
        generalize w3.heap.size = b3 at hb3 ⊢
        refine wp_region_order (fun w' => Six w' b3 e ∧ Six w' w.heap.size (⟨1, gx, gd, gy, gka, gn, gkc, gca, gm, gcc⟩ : El)) [0, 1, 2, 4, 5, 7, 8, 9, 10, 12, 16] [0, 1, 2, 4, 5, 8, 9, 10, 3, 6, 7, 11, 12, 13, 14, 15, 16, 17] (by kernel_rfl) (by kernel_rfl) (fun d _ _ _ _ h => by cases d <;> exact h) (by kernel_rfl) ?_
        have hS : (fun w' => Six w' b3 e ∧ Six w' w.heap.size (⟨1, gx, gd, gy, gka, gn, gkc, gca, gm, gcc⟩ : El)) _ := ⟨hb3.Six, (hbtg.ext hxa).Six⟩
        (apply ord_held rfl rfl (by assumption) rfl; (focus ((intro w' hS'); go_simp; (try with_reducible rfl))); (try simp only [Act.put, List.setIfInBounds_toArray, List.set_cons_zero, List.set_cons_succ]))
        (apply ord_held rfl rfl (by assumption) rfl; (focus ((intro w' hS'); go_simp; (try with_reducible rfl))); (try simp only [Act.put, List.setIfInBounds_toArray, List.set_cons_zero, List.set_cons_succ]))
        (apply ord_guard rfl rfl (by assumption) rfl; (focus ((intro w' hS'); go_simp; (try with_reducible rfl))); (try simp only [Act.put, List.setIfInBounds_toArray, List.set_cons_zero, List.set_cons_succ]))
        (apply ord_guard rfl rfl (by assumption) rfl; (focus ((intro w' hS'); go_simp; (try with_reducible rfl))); (try simp only [Act.put, List.setIfInBounds_toArray, List.set_cons_zero, List.set_cons_succ]))
        (apply ord_guard rfl rfl (by assumption) rfl; (focus ((intro w' hS'); go_simp; (try with_reducible rfl))); (try simp only [Act.put, List.setIfInBounds_toArray, List.set_cons_zero, List.set_cons_succ]))
        (apply ord_guard rfl rfl (by assumption) rfl; (focus ((intro w' hS'); go_simp; (try with_reducible rfl))); (try simp only [Act.put, List.setIfInBounds_toArray, List.set_cons_zero, List.set_cons_succ]))
        (apply ord_guard rfl rfl (by assumption) rfl; (focus ((intro w' hS'); go_simp; (try with_reducible rfl))); (try simp only [Act.put, List.setIfInBounds_toArray, List.set_cons_zero, List.set_cons_succ]))
        (apply ord_guard rfl rfl (by assumption) rfl; (focus ((intro w' hS'); go_simp; (try with_reducible rfl))); (try simp only [Act.put, List.setIfInBounds_toArray, List.set_cons_zero, List.set_cons_succ]))
        (apply ord_want rfl rfl rfl; intro K hK; go_simp)
        refine (rb_any s_distance_feature _ e none 0 0 [] _ (hT3.out.ext ((ext_drew (ext_refl w4)))) (strs_none _) (fun k t hl => ⟨(NoNull.append (NoNull.append (NoNull.append (NoNull.append (noNull_str _ _) (noNull_str _ _)) (noNull_str _ _)) (noNull_N _ _)) (noNull_T _ _)) _ (lastOf_mem hl), fun hh => by simp [hasS] at hh⟩) (by have h1 := jN_len s_boost (lastOf ps s_boost); have h2 := jT_len s_name (lastOf ps s_name); simp only [List.length_map, List.length_append, List.length_cons, List.length_nil]; omega)).mono ?_
        rintro r wr ⟨gr, rfl, hTr, hxr⟩
        have hS1 : (fun w' => Six w' b3 e ∧ Six w' w.heap.size (⟨1, gx, gd, gy, gka, gn, gkc, gca, gm, gcc⟩ : El)) wr := ⟨Six.ext hxr hS.1, Six.ext hxr hS.2⟩
        refine hK _ _ (fun _ => hS1) ?_
        clear hK K
        try simp only [El.val]
        (try simp only [Act.put, List.setIfInBounds_toArray, List.set_cons_zero, List.set_cons_succ])
        (apply ord_want rfl rfl rfl; intro K hK; go_simp)
        refine (text_any f _).mono ?_
        rintro r wt2 ⟨gt2, rfl, hTt2, hxt2⟩
        have hTu2 := hTt2 (fun _ => True)
        have hS2 : (fun w' => Six w' b3 e ∧ Six w' w.heap.size (⟨1, gx, gd, gy, gka, gn, gkc, gca, gm, gcc⟩ : El)) wt2 := ⟨Six.ext hxt2 hS1.1, Six.ext hxt2 hS1.2⟩
        refine hK _ _ (fun _ => hS2) ?_
        clear hK K
        try simp only [El.val]
        (try simp only [Act.put, List.setIfInBounds_toArray, List.set_cons_zero, List.set_cons_succ])
        (apply ord_guard rfl rfl (by assumption) rfl; (focus ((intro w' hS'); go_simp; (try with_reducible rfl))); (try simp only [Act.put, List.setIfInBounds_toArray, List.set_cons_zero, List.set_cons_succ]))
        (apply ord_want rfl rfl rfl; intro K hK; go_simp)
        refine (text_any fp _).mono ?_
        rintro r wt3 ⟨gt3, rfl, hTt3, hxt3⟩
        have hTu3 := hTt3 (fun _ => True)
        have hS3 : (fun w' => Six w' b3 e ∧ Six w' w.heap.size (⟨1, gx, gd, gy, gka, gn, gkc, gca, gm, gcc⟩ : El)) wt3 := ⟨Six.ext hxt3 hS2.1, Six.ext hxt3 hS2.2⟩
        refine hK _ _ (fun _ => hS3) ?_
        clear hK K
        try simp only [El.val]
        (try simp only [Act.put, List.setIfInBounds_toArray, List.set_cons_zero, List.set_cons_succ])
        (apply ord_guard rfl rfl (by assumption) rfl; (focus ((intro w' hS'); go_simp; (try with_reducible rfl))); (try simp only [Act.put, List.setIfInBounds_toArray, List.set_cons_zero, List.set_cons_succ]))
        (apply ord_want rfl rfl rfl; intro K hK; go_simp)
        have hxp : Ext wt3 (wt3.alloc (.cells #[.string s_field, .int .i64 gt2.k, .string gt2.x, .float .f64 gt2.d, .bool gt2.y, .slice gt2.ka gt2.n gt2.kc, .slice gt2.ca gt2.m gt2.cc, .string s_origin, .int .i64 1, .string gx, .float .f64 gd, .bool gy, .slice gka gn gkc, .slice gca gm gcc, .string s_pivot, .int .i64 gt3.k, .string gt3.x, .float .f64 gt3.d, .bool gt3.y, .slice gt3.ka gt3.n gt3.kc, .slice gt3.ca gt3.m gt3.cc] 50)) := ext_alloc (ext_refl _) _
        have hPr := pairs_box (S := fun _ => True) (es := [(s_field, gt2), (s_origin, (⟨1, gx, gd, gy, gka, gn, gkc, gca, gm, gcc⟩ : El)), (s_pivot, gt3)]) (Box.at (w := wt3) rfl #[.string s_field, .int .i64 gt2.k, .string gt2.x, .float .f64 gt2.d, .bool gt2.y, .slice gt2.ka gt2.n gt2.kc, .slice gt2.ca gt2.m gt2.cc, .string s_origin, .int .i64 1, .string gx, .float .f64 gd, .bool gy, .slice gka gn gkc, .slice gca gm gcc, .string s_pivot, .int .i64 gt3.k, .string gt3.x, .float .f64 gt3.d, .bool gt3.y, .slice gt3.ka gt3.n gt3.kc, .slice gt3.ca gt3.m gt3.cc] 50) trivial (by simp [maxLen]) (Pk.append (Pk.append (Pk.one (k := s_field) (hTu2.ext (ext_trans (hxt3) hxp))) (Pk.one (k := s_origin) (hTg.out _ (ext_trans hxb (ext_trans (ext_trans (ext_trans (ext_trans ((ext_drew (ext_refl w4))) hxr) hxt2) hxt3) hxp))))) (Pk.one (k := s_pivot) (hTu3.ext (hxp))))
        have hS4 : (fun w' => Six w' b3 e ∧ Six w' w.heap.size (⟨1, gx, gd, gy, gka, gn, gkc, gca, gm, gcc⟩ : El)) (wt3.alloc (.cells #[.string s_field, .int .i64 gt2.k, .string gt2.x, .float .f64 gt2.d, .bool gt2.y, .slice gt2.ka gt2.n gt2.kc, .slice gt2.ca gt2.m gt2.cc, .string s_origin, .int .i64 1, .string gx, .float .f64 gd, .bool gy, .slice gka gn gkc, .slice gca gm gcc, .string s_pivot, .int .i64 gt3.k, .string gt3.x, .float .f64 gt3.d, .bool gt3.y, .slice gt3.ka gt3.n gt3.kc, .slice gt3.ca gt3.m gt3.cc] 50)) := ⟨Six.ext hxp hS3.1, Six.ext hxp hS3.2⟩
        refine hK _ _ (fun _ => hS4) ?_
        clear hK K
        (try simp only [Act.put, List.setIfInBounds_toArray, List.set_cons_zero, List.set_cons_succ])
        (apply ord_want rfl rfl rfl; intro K hK; go_simp)
        refine (beside_more (S := fun _ => True) s_distance_feature sDistanceFeature tDistanceFeature a n c ps _ table_distanceFeature 5 (by decide) (by decide) rDistanceFeature (by decide) (by decide) (hPs.out _ (ext_trans hxb (ext_trans (ext_trans (ext_trans (ext_trans ((ext_drew (ext_refl w4))) hxr) hxt2) hxt3) hxp))) wt3.heap.size 0 3 3 [(s_field, textT f), (s_origin, gt), (s_pivot, textT fp)] hPr (by decide) (by decide)).mono ?_
        rintro r wb ⟨gb, rfl, hTb, hxbb⟩
        have hS5 : (fun w' => Six w' b3 e ∧ Six w' w.heap.size (⟨1, gx, gd, gy, gka, gn, gkc, gca, gm, gcc⟩ : El)) wb := ⟨Six.ext hxbb hS4.1, Six.ext hxbb hS4.2⟩
        refine hK _ _ (fun _ => hS5) ?_
        clear hK K
        try simp only [El.val]
        (try simp only [Act.put, List.setIfInBounds_toArray, List.set_cons_zero, List.set_cons_succ])
        (apply ord_want rfl rfl rfl; intro K hK; go_simp)
        refine (same_any (S := fun _ => True) _ _ gr gb _ ((hTr.ext (ext_trans (ext_trans (ext_trans (hxt2) hxt3) hxp) hxbb)).any) (hTb.any)).mono ?_
        rintro r ws ⟨rfl, hxs⟩
        have hS6 : (fun w' => Six w' b3 e ∧ Six w' w.heap.size (⟨1, gx, gd, gy, gka, gn, gkc, gca, gm, gcc⟩ : El)) ws := ⟨Six.ext hxs hS5.1, Six.ext hxs hS5.2⟩
        refine hK _ _ (fun _ => hS6) ?_
        clear hK K
        try simp only [El.val]
        rw [hfit.out]
        (try simp only [Act.put, List.setIfInBounds_toArray, List.set_cons_zero, List.set_cons_succ])
        (apply ord_held rfl rfl (by assumption) rfl; (focus ((intro w' hS'); go_simp; (try with_reducible rfl))); (try simp only [Act.put, List.setIfInBounds_toArray, List.set_cons_zero, List.set_cons_succ]))
        (apply ord_last rfl rfl rfl (by kernel_rfl); intro K hK; go_simp; refine hK _ _ ?_; clear hK K; (try simp only [Act.put, List.setIfInBounds_toArray, List.set_cons_zero, List.set_cons_succ]))
        refine ord_end ?_
        go_wp2_with fail
        go_ret
        exact ⟨rfl, ext_trans hxb (ext_trans (ext_trans (ext_trans (ext_trans (ext_trans (ext_trans ((ext_drew (ext_refl w4))) hxr) hxt2) hxt3) hxp) hxbb) hxs)⟩
end Go.Proofs.Ytdpgmmkecghihaa
