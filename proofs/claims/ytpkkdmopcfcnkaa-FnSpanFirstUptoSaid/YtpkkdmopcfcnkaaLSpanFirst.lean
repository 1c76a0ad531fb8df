/-
  The law of a query with its settings (SpanFirst): what the builder gives is what is told.
-/
import Derived.Test.YtpkkdmopcfcnkaaISpanFirst
import Derived.Test.YtpkkdmopcfcnkaaLx
import Derived.Test.YtpkkdmopcfcnkaaZz
import Derived.Test.YtpkkdmopcfcnkaaLq
import Derived.Test.YtpkkdmopcfcnkaaFi
namespace Go.Proofs.Ytpkkdmopcfcnkaa
open Go.RowKit

abbrev sSpanFirst : ByteArray := ⟨#[83, 112, 97, 110, 70, 105, 114, 115, 116]⟩
abbrev tSpanFirst : ByteArray := ⟨#[98, 111, 111, 115, 116, 32, 110]⟩
abbrev rSpanFirst : List (ByteArray × ByteArray) := [(s_boost, ⟨#[110]⟩)]
set_option maxHeartbeats 2000000 in
theorem table_spanFirst (w : World) : Calls Try.prog 135 #[.string sSpanFirst] w fun r w' => r = .returned (.string tSpanFirst) ∧ w' = w := by
  go_enter Try.func135, Try.ntmps135
  go_wp2
  go_ret
  exact ⟨rfl, rfl⟩
set_option maxRecDepth 20000 in
theorem rows_spanFirst (w : World) : Calls Try.prog 130 #[.string sSpanFirst] w fun r w' => ∃ v, r = .returned v ∧ Own2 w' w.heap.size v rSpanFirst ∧ Ext w w' :=
  rows_any sSpanFirst tSpanFirst w table_spanFirst 4 (by decide) (by decide)
theorem spanFirst_same (gt : T) (hgF : FullT gt) (z0 : Int) (hz0N : finiteB (floatOfInt .f64 z0) = true) {ps : List (ByteArray × T)} (hF : FitsP rSpanFirst ps) : sameT (mapT [(s_span_first, mapT (jTree ([(s_match, jFull gt)] ++ [(s_end, J.int z0)] ++ jN s_boost (lastOf ps s_boost) ++ jT s_query_name (lastOf ps s_name))))]) (mapT [(s_span_first, mapT (paramsL rSpanFirst ps ++ [(s_match, gt), (s_end, numT (floatOfInt .f64 z0))]))]) = true := by
  have hno : lastOf ps s_name = none := fits_no hF (by rw [kindL_dec]; decide)
  rw [hno, jT_no, List.append_nil]
  refine same_one _ (sameT_map ?_)
  let chs : Nat → Ch := fun i => match i with
    | 0 => (s_match, [(s_match, gt)])
    | 1 => (s_end, [(s_end, numT (floatOfInt .f64 z0))])
    | 2 => (s_boost, (param ps (s_boost, ⟨#[110]⟩)).toList)
    | _ => (emptyS, [])
  have h0 : SameL (jTree ([(s_match, jFull gt)] ++ [(s_end, J.int z0)] ++ jN s_boost (lastOf ps s_boost))) ([(s_match, gt)] ++ [(s_end, numT (floatOfInt .f64 z0))] ++ (param ps (s_boost, ⟨#[110]⟩)).toList) := by
    unfold jTree
    rw [List.map_append, List.map_append]
    exact SameL.append (SameL.append (SameL.one s_match (jFull_same gt hgF)) (SameL.one s_end (sameT_self _ (okT_num hz0N)))) (jN_same hF (by rw [kindL_dec]; decide))
  have h1 := SameL.reorder (f := chs) [0, 1, 2] [2, 0, 1] (by decide) (show [s_match, s_end, s_boost].Nodup by decide) (by intro c hc; simp only [List.map_cons, List.map_nil, List.mem_cons, List.not_mem_nil, or_false] at hc; rcases hc with rfl | rfl | rfl <;> first | exact keys_param _ _ | exact keys_one _ _) (by simpa only [chs, flatC, List.map_cons, List.map_nil, List.flatMap_cons, List.flatMap_nil, List.append_nil, List.append_assoc] using h0)
  rw [params_cons, params_nil]
  refine (show SameL _ _ from ?_)
  simpa only [chs, flatC, List.map_cons, List.map_nil, List.flatMap_cons, List.flatMap_nil, List.append_nil, List.append_assoc, List.cons_append, List.nil_append] using h1
set_option maxHeartbeats 4000000 in
theorem spanFirst_law {S : Nat → Prop} (ge : El) (gt : T) (z0 : Int) (a : Option Addr) (n c : Nat) (ps : List (ByteArray × T)) (w : World) (hgT : TreeAt S w ge gt) (hgSm : SmallT 1048576 gt) (h : PairsAt S w a n c ps) : Calls Try.prog 8 #[ge.val, .int .i64 z0, .slice a n c] w fun r w' => r = .returned (.bool true) ∧ Ext w w' := by
  obtain ⟨gk, gx, gd, gy, gka, gn, gkc, gca, gm, gcc⟩ := ge
  have hnl := Nat.le_trans h.2.1 h.2.2.1
  unfold maxLen at hnl
  have hPs := Lib.hid fun w' (x : Ext w w') => (h.keep (S' := fun _ => True) (fun _ _ _ => trivial) (fun _ _ _ => rfl)).ext x
  have hZg := Lib.hid fun w' (x : Ext w w') => zzFits5_any (⟨gk, gx, gd, gy, gka, gn, gkc, gca, gm, gcc⟩ : El) gt w' (hgT.ext x)
  have hTg := Lib.hid fun w' (x : Ext w w') => (TreeAt.ext x hgT).any
  have hF := Lib.hid fun w' (x : Ext w w') => fits_any sSpanFirst rSpanFirst a n c ps w' rows_spanFirst (by simp [plainK]) (h.ext x)
  have hQ := Lib.hid fun w' (x : Ext w w') (hgF : FullT gt) => spanFirst_any a n c ps w' (⟨gk, gx, gd, gy, gka, gn, gkc, gca, gm, gcc⟩ : El) gt (TreeAt.ext x hgT) hgF z0  (h.ext x)
  clear h
  clear hgT
  simp only [El.val]
  have hbtg : Box (w.alloc (.cells (⟨gk, gx, gd, gy, gka, gn, gkc, gca, gm, gcc⟩ : El).arr 26)) w.heap.size (⟨gk, gx, gd, gy, gka, gn, gkc, gca, gm, gcc⟩ : El).arr 26 := Box.at rfl _ _
  go_enter Try.func8, Try.ntmps8
  by_cases hsz0 : 2147483647 < n
  · go_wp2_with (first
        | (go_at_call 14; refine (hZg.out _ (by (repeat (first | exact ext_refl _ | assumption | refine ext_alloc ?_ _ | refine ext_drew ?_ | refine ext_set ?_ (by simp) _ | refine ext_trans ?_ (by assumption))))).mono ?_; rintro r wzg ⟨bzg, rfl, hzg, hxzg⟩; have HZg := Lib.hid hzg; clear hzg; have hbtg_wzg := hbtg.ext (show Ext (w.alloc (.cells (⟨gk, gx, gd, gy, gka, gn, gkc, gca, gm, gcc⟩ : El).arr 26)) wzg by (repeat (first | exact ext_refl _ | assumption | refine ext_alloc ?_ _ | refine ext_drew ?_ | refine ext_set ?_ (by simp) _ | refine ext_trans ?_ (by assumption)))); obtain ⟨og0, og1, og2, og3, og4, og5⟩ := hbtg_wzg.six; cases bzg))
    all_goals (go_ret; exact ⟨rfl, by (repeat (first | exact ext_refl _ | assumption | refine ext_alloc ?_ _ | refine ext_drew ?_ | refine ext_set ?_ (by simp) _ | refine ext_trans ?_ (by assumption)))⟩)
  · skip
    by_cases hIz0a : 0 ≤ z0
    case neg =>
      go_wp2_with (first
        | (go_at_call 14; refine (hZg.out _ (by (repeat (first | exact ext_refl _ | assumption | refine ext_alloc ?_ _ | refine ext_drew ?_ | refine ext_set ?_ (by simp) _ | refine ext_trans ?_ (by assumption))))).mono ?_; rintro r wzg ⟨bzg, rfl, hzg, hxzg⟩; have HZg := Lib.hid hzg; clear hzg; have hbtg_wzg := hbtg.ext (show Ext (w.alloc (.cells (⟨gk, gx, gd, gy, gka, gn, gkc, gca, gm, gcc⟩ : El).arr 26)) wzg by (repeat (first | exact ext_refl _ | assumption | refine ext_alloc ?_ _ | refine ext_drew ?_ | refine ext_set ?_ (by simp) _ | refine ext_trans ?_ (by assumption)))); obtain ⟨og0, og1, og2, og3, og4, og5⟩ := hbtg_wzg.six; cases bzg)
        | (go_at_call 15; refine (query_any _ _ _ (hTg.out _ (by (repeat (first | exact ext_refl _ | assumption | refine ext_alloc ?_ _ | refine ext_drew ?_ | refine ext_set ?_ (by simp) _ | refine ext_trans ?_ (by assumption)))))).mono ?_; rintro r wqug ⟨bqug, rfl, hqug, hxqug⟩; have Hqug := Lib.hid hqug; clear hqug; have hbtg_wqug := hbtg.ext (show Ext (w.alloc (.cells (⟨gk, gx, gd, gy, gka, gn, gkc, gca, gm, gcc⟩ : El).arr 26)) wqug by (repeat (first | exact ext_refl _ | assumption | refine ext_alloc ?_ _ | refine ext_drew ?_ | refine ext_set ?_ (by simp) _ | refine ext_trans ?_ (by assumption)))); obtain ⟨og0, og1, og2, og3, og4, og5⟩ := hbtg_wqug.six; cases bqug)
        | (go_at_call 16; refine (hF.out _ (by (repeat (first | exact ext_refl _ | assumption | refine ext_alloc ?_ _ | refine ext_drew ?_ | refine ext_set ?_ (by simp) _ | refine ext_trans ?_ (by assumption))))).mono ?_; rintro r wff ⟨bff, rfl, hff, hxff⟩; have Hff := Lib.hid hff; clear hff; have hbtg_wff := hbtg.ext (show Ext (w.alloc (.cells (⟨gk, gx, gd, gy, gka, gn, gkc, gca, gm, gcc⟩ : El).arr 26)) wff by (repeat (first | exact ext_refl _ | assumption | refine ext_alloc ?_ _ | refine ext_drew ?_ | refine ext_set ?_ (by simp) _ | refine ext_trans ?_ (by assumption)))); obtain ⟨og0, og1, og2, og3, og4, og5⟩ := hbtg_wff.six; cases bff))
      all_goals (go_ret; exact ⟨rfl, by (repeat (first | exact ext_refl _ | assumption | refine ext_alloc ?_ _ | refine ext_drew ?_ | refine ext_set ?_ (by simp) _ | refine ext_trans ?_ (by assumption)))⟩)
    by_cases hIz0b : z0 ≤ 1000000
    case neg =>
      go_wp2_with (first
        | (go_at_call 14; refine (hZg.out _ (by (repeat (first | exact ext_refl _ | assumption | refine ext_alloc ?_ _ | refine ext_drew ?_ | refine ext_set ?_ (by simp) _ | refine ext_trans ?_ (by assumption))))).mono ?_; rintro r wzg ⟨bzg, rfl, hzg, hxzg⟩; have HZg := Lib.hid hzg; clear hzg; have hbtg_wzg := hbtg.ext (show Ext (w.alloc (.cells (⟨gk, gx, gd, gy, gka, gn, gkc, gca, gm, gcc⟩ : El).arr 26)) wzg by (repeat (first | exact ext_refl _ | assumption | refine ext_alloc ?_ _ | refine ext_drew ?_ | refine ext_set ?_ (by simp) _ | refine ext_trans ?_ (by assumption)))); obtain ⟨og0, og1, og2, og3, og4, og5⟩ := hbtg_wzg.six; cases bzg)
        | (go_at_call 15; refine (query_any _ _ _ (hTg.out _ (by (repeat (first | exact ext_refl _ | assumption | refine ext_alloc ?_ _ | refine ext_drew ?_ | refine ext_set ?_ (by simp) _ | refine ext_trans ?_ (by assumption)))))).mono ?_; rintro r wqug ⟨bqug, rfl, hqug, hxqug⟩; have Hqug := Lib.hid hqug; clear hqug; have hbtg_wqug := hbtg.ext (show Ext (w.alloc (.cells (⟨gk, gx, gd, gy, gka, gn, gkc, gca, gm, gcc⟩ : El).arr 26)) wqug by (repeat (first | exact ext_refl _ | assumption | refine ext_alloc ?_ _ | refine ext_drew ?_ | refine ext_set ?_ (by simp) _ | refine ext_trans ?_ (by assumption)))); obtain ⟨og0, og1, og2, og3, og4, og5⟩ := hbtg_wqug.six; cases bqug)
        | (go_at_call 16; refine (hF.out _ (by (repeat (first | exact ext_refl _ | assumption | refine ext_alloc ?_ _ | refine ext_drew ?_ | refine ext_set ?_ (by simp) _ | refine ext_trans ?_ (by assumption))))).mono ?_; rintro r wff ⟨bff, rfl, hff, hxff⟩; have Hff := Lib.hid hff; clear hff; have hbtg_wff := hbtg.ext (show Ext (w.alloc (.cells (⟨gk, gx, gd, gy, gka, gn, gkc, gca, gm, gcc⟩ : El).arr 26)) wff by (repeat (first | exact ext_refl _ | assumption | refine ext_alloc ?_ _ | refine ext_drew ?_ | refine ext_set ?_ (by simp) _ | refine ext_trans ?_ (by assumption)))); obtain ⟨og0, og1, og2, og3, og4, og5⟩ := hbtg_wff.six; cases bff))
      all_goals (go_ret; exact ⟨rfl, by (repeat (first | exact ext_refl _ | assumption | refine ext_alloc ?_ _ | refine ext_drew ?_ | refine ext_set ?_ (by simp) _ | refine ext_trans ?_ (by assumption)))⟩)
    go_wp2_with (first
      | (go_at_call 14; refine (hZg.out _ (by (repeat (first | exact ext_refl _ | assumption | refine ext_alloc ?_ _ | refine ext_drew ?_ | refine ext_set ?_ (by simp) _ | refine ext_trans ?_ (by assumption))))).mono ?_; rintro r wzg ⟨bzg, rfl, hzg, hxzg⟩; have HZg := Lib.hid hzg; clear hzg; have hbtg_wzg := hbtg.ext (show Ext (w.alloc (.cells (⟨gk, gx, gd, gy, gka, gn, gkc, gca, gm, gcc⟩ : El).arr 26)) wzg by (repeat (first | exact ext_refl _ | assumption | refine ext_alloc ?_ _ | refine ext_drew ?_ | refine ext_set ?_ (by simp) _ | refine ext_trans ?_ (by assumption)))); obtain ⟨og0, og1, og2, og3, og4, og5⟩ := hbtg_wzg.six; cases bzg)
      | (go_at_call 15; refine (query_any _ _ _ (hTg.out _ (by (repeat (first | exact ext_refl _ | assumption | refine ext_alloc ?_ _ | refine ext_drew ?_ | refine ext_set ?_ (by simp) _ | refine ext_trans ?_ (by assumption)))))).mono ?_; rintro r wqug ⟨bqug, rfl, hqug, hxqug⟩; have Hqug := Lib.hid hqug; clear hqug; have hbtg_wqug := hbtg.ext (show Ext (w.alloc (.cells (⟨gk, gx, gd, gy, gka, gn, gkc, gca, gm, gcc⟩ : El).arr 26)) wqug by (repeat (first | exact ext_refl _ | assumption | refine ext_alloc ?_ _ | refine ext_drew ?_ | refine ext_set ?_ (by simp) _ | refine ext_trans ?_ (by assumption)))); obtain ⟨og0, og1, og2, og3, og4, og5⟩ := hbtg_wqug.six; cases bqug)
      | (go_at_call 16; refine (hF.out _ (by (repeat (first | exact ext_refl _ | assumption | refine ext_alloc ?_ _ | refine ext_drew ?_ | refine ext_set ?_ (by simp) _ | refine ext_trans ?_ (by assumption))))).mono ?_; rintro r wff ⟨bff, rfl, hff, hxff⟩; have Hff := Lib.hid hff; clear hff; have hbtg_wff := hbtg.ext (show Ext (w.alloc (.cells (⟨gk, gx, gd, gy, gka, gn, gkc, gca, gm, gcc⟩ : El).arr 26)) wff by (repeat (first | exact ext_refl _ | assumption | refine ext_alloc ?_ _ | refine ext_drew ?_ | refine ext_set ?_ (by simp) _ | refine ext_trans ?_ (by assumption)))); obtain ⟨og0, og1, og2, og3, og4, og5⟩ := hbtg_wff.six; cases bff))
    all_goals (try (go_ret; exact ⟨rfl, by (repeat (first | exact ext_refl _ | assumption | refine ext_alloc ?_ _ | refine ext_drew ?_ | refine ext_set ?_ (by simp) _ | refine ext_trans ?_ (by assumption)))⟩))
    have hff := Hff.out (by trivial)
    have hgq := Hqug.out (by trivial)
    have hgK := hgq.1
    have hgF := FullT.of (N := 1048576) (by omega) hgq.2 hgSm
    have hz0N := finite_small hIz0a hIz0b
    have hfit := Lib.hid (spanFirst_same gt hgF z0 hz0N hff)
    have hx0 : Ext (w.alloc (.cells (⟨gk, gx, gd, gy, gka, gn, gkc, gca, gm, gcc⟩ : El).arr 26)) wff := by (repeat (first | exact ext_refl _ | assumption | refine ext_alloc ?_ _ | refine ext_drew ?_ | refine ext_set ?_ (by simp) _ | refine ext_trans ?_ (by assumption)))
    have hx1 : Ext w wff := by (repeat (first | exact ext_refl _ | assumption | refine ext_alloc ?_ _ | refine ext_drew ?_ | refine ext_set ?_ (by simp) _ | refine ext_trans ?_ (by assumption)))
    refine (hQ.out wff hx1 hgF).mono ?_
    rintro r w3 ⟨e, rfl, hT, hx3⟩
    simp only [El.val]
    go_upto_region 6 with fail
    have hb3 : Box (w3.alloc (.cells e.arr 26)) w3.heap.size e.arr 26 := Box.at rfl _ _
    have hxa := ext_alloc (ext_trans hx0 hx3) (.cells e.arr 26)
    have hxb : Ext w (w3.alloc (.cells e.arr 26)) := ext_alloc (ext_trans hx1 hx3) _
    rw [jMap_tree] at hT
    have hT3 := Lib.hid (hT.ext (ext_alloc (ext_refl w3) (.cells e.arr 26)))
    clear hT
    generalize w3.alloc (.cells e.arr 26) = w4 at hb3 hxa hxb hT3 ⊢
    generalize w3.heap.size = b3 at hb3 ⊢
    refine wp_region_order (fun w' => Six w' b3 e ∧ Six w' w.heap.size (⟨gk, gx, gd, gy, gka, gn, gkc, gca, gm, gcc⟩ : El)) [0, 1, 2, 4, 5, 6, 7, 8, 10, 14] [0, 1, 2, 4, 5, 6, 7, 8, 3, 9, 10, 11, 12, 13, 14, 15] (by kernel_rfl) (by kernel_rfl) (fun d _ _ _ _ h => by cases d <;> exact h) (by kernel_rfl) ?_
    have hS : (fun w' => Six w' b3 e ∧ Six w' w.heap.size (⟨gk, gx, gd, gy, gka, gn, gkc, gca, gm, gcc⟩ : El)) _ := ⟨hb3.Six, (hbtg.ext hxa).Six⟩
    (apply ord_held rfl rfl (by assumption) rfl; (focus ((intro w' hS'); go_simp; (try with_reducible rfl))); (try simp only [Act.put, List.setIfInBounds_toArray, List.set_cons_zero, List.set_cons_succ]))
    (apply ord_held rfl rfl (by assumption) rfl; (focus ((intro w' hS'); go_simp; (try with_reducible rfl))); (try simp only [Act.put, List.setIfInBounds_toArray, List.set_cons_zero, List.set_cons_succ]))
    (apply ord_guard rfl rfl (by assumption) rfl; (focus ((intro w' hS'); go_simp; (try with_reducible rfl))); (try simp only [Act.put, List.setIfInBounds_toArray, List.set_cons_zero, List.set_cons_succ]))
    (apply ord_guard rfl rfl (by assumption) rfl; (focus ((intro w' hS'); go_simp; (try with_reducible rfl))); (try simp only [Act.put, List.setIfInBounds_toArray, List.set_cons_zero, List.set_cons_succ]))
    (apply ord_guard rfl rfl (by assumption) rfl; (focus ((intro w' hS'); go_simp; (try with_reducible rfl))); (try simp only [Act.put, List.setIfInBounds_toArray, List.set_cons_zero, List.set_cons_succ]))
    (apply ord_guard rfl rfl (by assumption) rfl; (focus ((intro w' hS'); go_simp; (try with_reducible rfl))); (try simp only [Act.put, List.setIfInBounds_toArray, List.set_cons_zero, List.set_cons_succ]))
    (apply ord_guard rfl rfl (by assumption) rfl; (focus ((intro w' hS'); go_simp; (try with_reducible rfl))); (try simp only [Act.put, List.setIfInBounds_toArray, List.set_cons_zero, List.set_cons_succ]))
    (apply ord_guard rfl rfl (by assumption) rfl; (focus ((intro w' hS'); go_simp; (try with_reducible rfl))); (try simp only [Act.put, List.setIfInBounds_toArray, List.set_cons_zero, List.set_cons_succ]))
    (apply ord_want rfl rfl rfl; intro K hK; go_simp)
    refine (rb_any s_span_first _ e none 0 0 [] _ (hT3.out.ext ((ext_drew (ext_refl w4)))) (strs_none _) (fun k t hl => ⟨(NoNull.append (NoNull.append (NoNull.append (noNull_J _ _ (by rw [jFull_kind hgK]; decide)) (noNull_J _ _ (by simp [treeJ, numT, T.kind]))) (noNull_N _ _)) (noNull_T _ _)) _ (lastOf_mem hl), fun hh => by simp [hasS] at hh⟩) (by have h1 := jN_len s_boost (lastOf ps s_boost); have h2 := jT_len s_query_name (lastOf ps s_name); simp only [List.length_map, List.length_append, List.length_cons, List.length_nil]; omega)).mono ?_
    rintro r wr ⟨gr, rfl, hTr, hxr⟩
    have hS1 : (fun w' => Six w' b3 e ∧ Six w' w.heap.size (⟨gk, gx, gd, gy, gka, gn, gkc, gca, gm, gcc⟩ : El)) wr := ⟨Six.ext hxr hS.1, Six.ext hxr hS.2⟩
    refine hK _ _ (fun _ => hS1) ?_
    clear hK K
    try simp only [El.val]
    (try simp only [Act.put, List.setIfInBounds_toArray, List.set_cons_zero, List.set_cons_succ])
    (apply ord_want rfl rfl rfl; intro K hK; go_simp)
    refine (number_any (floatOfInt .f64 z0) _).mono ?_
    rintro r wt2 ⟨gt2, rfl, hTt2, hxt2⟩
    have hTu2 := hTt2 (fun _ => True)
    have hS2 : (fun w' => Six w' b3 e ∧ Six w' w.heap.size (⟨gk, gx, gd, gy, gka, gn, gkc, gca, gm, gcc⟩ : El)) wt2 := ⟨Six.ext hxt2 hS1.1, Six.ext hxt2 hS1.2⟩
    refine hK _ _ (fun _ => hS2) ?_
    clear hK K
    try simp only [El.val]
    (try simp only [Act.put, List.setIfInBounds_toArray, List.set_cons_zero, List.set_cons_succ])
    (apply ord_guard rfl rfl (by assumption) rfl; (focus ((intro w' hS'); go_simp; (try with_reducible rfl))); (try simp only [Act.put, List.setIfInBounds_toArray, List.set_cons_zero, List.set_cons_succ]))
    (apply ord_want rfl rfl rfl; intro K hK; go_simp)
    have hxp : Ext wt2 (wt2.alloc (.cells #[.string s_match, .int .i64 gk, .string gx, .float .f64 gd, .bool gy, .slice gka gn gkc, .slice gca gm gcc, .string s_end, .int .i64 gt2.k, .string gt2.x, .float .f64 gt2.d, .bool gt2.y, .slice gt2.ka gt2.n gt2.kc, .slice gt2.ca gt2.m gt2.cc] 36)) := ext_alloc (ext_refl _) _
    have hPr := pairs_box (S := fun _ => True) (es := [(s_match, (⟨gk, gx, gd, gy, gka, gn, gkc, gca, gm, gcc⟩ : El)), (s_end, gt2)]) (Box.at (w := wt2) rfl #[.string s_match, .int .i64 gk, .string gx, .float .f64 gd, .bool gy, .slice gka gn gkc, .slice gca gm gcc, .string s_end, .int .i64 gt2.k, .string gt2.x, .float .f64 gt2.d, .bool gt2.y, .slice gt2.ka gt2.n gt2.kc, .slice gt2.ca gt2.m gt2.cc] 36) trivial (by simp [maxLen]) (Pk.append (Pk.one (k := s_match) (hTg.out _ (ext_trans hxb (ext_trans (ext_trans (ext_trans ((ext_drew (ext_refl w4))) hxr) hxt2) hxp)))) (Pk.one (k := s_end) (hTu2.ext (hxp))))
    have hS3 : (fun w' => Six w' b3 e ∧ Six w' w.heap.size (⟨gk, gx, gd, gy, gka, gn, gkc, gca, gm, gcc⟩ : El)) (wt2.alloc (.cells #[.string s_match, .int .i64 gk, .string gx, .float .f64 gd, .bool gy, .slice gka gn gkc, .slice gca gm gcc, .string s_end, .int .i64 gt2.k, .string gt2.x, .float .f64 gt2.d, .bool gt2.y, .slice gt2.ka gt2.n gt2.kc, .slice gt2.ca gt2.m gt2.cc] 36)) := ⟨Six.ext hxp hS2.1, Six.ext hxp hS2.2⟩
    refine hK _ _ (fun _ => hS3) ?_
    clear hK K
    (try simp only [Act.put, List.setIfInBounds_toArray, List.set_cons_zero, List.set_cons_succ])
    (apply ord_want rfl rfl rfl; intro K hK; go_simp)
    refine (beside_more (S := fun _ => True) s_span_first sSpanFirst tSpanFirst a n c ps _ table_spanFirst 4 (by decide) (by decide) rSpanFirst (by decide) (by decide) (hPs.out _ (ext_trans hxb (ext_trans (ext_trans (ext_trans ((ext_drew (ext_refl w4))) hxr) hxt2) hxp))) wt2.heap.size 0 2 2 [(s_match, gt), (s_end, numT (floatOfInt .f64 z0))] (hPr.ext (ext_refl _)) (by decide) (by decide)).mono ?_
    rintro r wb ⟨gb, rfl, hTb, hxbb⟩
    have hS4 : (fun w' => Six w' b3 e ∧ Six w' w.heap.size (⟨gk, gx, gd, gy, gka, gn, gkc, gca, gm, gcc⟩ : El)) wb := ⟨Six.ext hxbb hS3.1, Six.ext hxbb hS3.2⟩
    refine hK _ _ (fun _ => hS4) ?_
    clear hK K
    try simp only [El.val]
    (try simp only [Act.put, List.setIfInBounds_toArray, List.set_cons_zero, List.set_cons_succ])
    (apply ord_want rfl rfl rfl; intro K hK; go_simp)
    refine (same_any (S := fun _ => True) _ _ gr gb _ ((hTr.ext (ext_trans (ext_trans (hxt2) hxp) hxbb)).any) (hTb.any)).mono ?_
    rintro r ws ⟨rfl, hxs⟩
    have hS5 : (fun w' => Six w' b3 e ∧ Six w' w.heap.size (⟨gk, gx, gd, gy, gka, gn, gkc, gca, gm, gcc⟩ : El)) ws := ⟨Six.ext hxs hS4.1, Six.ext hxs hS4.2⟩
    refine hK _ _ (fun _ => hS5) ?_
    clear hK K
    try simp only [El.val]
    rw [hfit.out]
    (try simp only [Act.put, List.setIfInBounds_toArray, List.set_cons_zero, List.set_cons_succ])
    (apply ord_held rfl rfl (by assumption) rfl; (focus ((intro w' hS'); go_simp; (try with_reducible rfl))); (try simp only [Act.put, List.setIfInBounds_toArray, List.set_cons_zero, List.set_cons_succ]))
    (apply ord_last rfl rfl rfl (by kernel_rfl); intro K hK; go_simp; refine hK _ _ ?_; clear hK K; (try simp only [Act.put, List.setIfInBounds_toArray, List.set_cons_zero, List.set_cons_succ]))
    refine ord_end ?_
    go_wp2_with fail
    go_ret
    exact ⟨rfl, ext_trans hxb (ext_trans (ext_trans (ext_trans (ext_trans (ext_trans ((ext_drew (ext_refl w4))) hxr) hxt2) hxp) hxbb) hxs)⟩
end Go.Proofs.Ytpkkdmopcfcnkaa
