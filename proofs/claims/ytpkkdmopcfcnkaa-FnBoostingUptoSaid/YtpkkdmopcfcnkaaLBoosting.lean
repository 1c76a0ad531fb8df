/-
  The law of a query with its settings (Boosting): what the builder gives is what is told.
-/
import Derived.Test.YtpkkdmopcfcnkaaIBoosting
import Derived.Test.YtpkkdmopcfcnkaaLx
import Derived.Test.YtpkkdmopcfcnkaaZz
import Derived.Test.YtpkkdmopcfcnkaaTr
namespace Go.Proofs.Ytpkkdmopcfcnkaa
open Go.RowKit

abbrev sBoosting : ByteArray := ⟨#[66, 111, 111, 115, 116, 105, 110, 103]⟩
abbrev tBoosting : ByteArray := ⟨#[98, 111, 111, 115, 116, 32, 110, 44, 110, 101, 103, 97, 116, 105, 118, 101, 95, 98, 111, 111, 115, 116, 32, 110]⟩
abbrev rBoosting : List (ByteArray × ByteArray) := [(s_boost, ⟨#[110]⟩), (s_negative_boost, ⟨#[110]⟩)]
set_option maxHeartbeats 2000000 in
theorem table_boosting (w : World) : Calls Try.prog 135 #[.string sBoosting] w fun r w' => r = .returned (.string tBoosting) ∧ w' = w := by
  go_enter Try.func135, Try.ntmps135
  go_wp2
  go_ret
  exact ⟨rfl, rfl⟩
set_option maxRecDepth 20000 in
theorem rows_boosting (w : World) : Calls Try.prog 130 #[.string sBoosting] w fun r w' => ∃ v, r = .returned v ∧ Own2 w' w.heap.size v rBoosting ∧ Ext w w' :=
  rows_any sBoosting tBoosting w table_boosting 5 (by decide) (by decide)
theorem boosting_same (gt : T) (hgF : FullT gt) (g2t : T) (hg2F : FullT g2t) {ps : List (ByteArray × T)} (hF : FitsP rBoosting ps) : sameT (mapT [(s_boosting, mapT (jTree ([(s_positive, jFull gt)] ++ [(s_negative, jFull g2t)] ++ jN s_negative_boost (lastOf ps s_negative_boost) ++ jN s_boost (lastOf ps s_boost))))]) (mapT [(s_boosting, mapT (paramsL rBoosting ps ++ [(s_positive, gt), (s_negative, g2t)]))]) = true := by
  refine same_one _ (sameT_map ?_)
  let chs : Nat → Ch := fun i => match i with
    | 0 => (s_positive, [(s_positive, gt)])
    | 1 => (s_negative, [(s_negative, g2t)])
    | 2 => (s_negative_boost, (param ps (s_negative_boost, ⟨#[110]⟩)).toList)
    | 3 => (s_boost, (param ps (s_boost, ⟨#[110]⟩)).toList)
    | _ => (emptyS, [])
  have h0 : SameL (jTree ([(s_positive, jFull gt)] ++ [(s_negative, jFull g2t)] ++ jN s_negative_boost (lastOf ps s_negative_boost) ++ jN s_boost (lastOf ps s_boost))) ([(s_positive, gt)] ++ [(s_negative, g2t)] ++ (param ps (s_negative_boost, ⟨#[110]⟩)).toList ++ (param ps (s_boost, ⟨#[110]⟩)).toList) := by
    unfold jTree
    rw [List.map_append, List.map_append, List.map_append]
    exact SameL.append (SameL.append (SameL.append (SameL.one s_positive (jFull_same gt hgF)) (SameL.one s_negative (jFull_same g2t hg2F))) (jN_same hF (by rw [kindL_dec]; decide))) (jN_same hF (by rw [kindL_dec]; decide))
  have h1 := SameL.reorder (f := chs) [0, 1, 2, 3] [3, 2, 0, 1] (by decide) (show [s_positive, s_negative, s_negative_boost, s_boost].Nodup by decide) (by intro c hc; simp only [List.map_cons, List.map_nil, List.mem_cons, List.not_mem_nil, or_false] at hc; rcases hc with rfl | rfl | rfl | rfl <;> first | exact keys_param _ _ | exact keys_one _ _) (by simpa only [chs, flatC, List.map_cons, List.map_nil, List.flatMap_cons, List.flatMap_nil, List.append_nil, List.append_assoc] using h0)
  rw [params_cons, params_cons, params_nil]
  refine (show SameL _ _ from ?_)
  simpa only [chs, flatC, List.map_cons, List.map_nil, List.flatMap_cons, List.flatMap_nil, List.append_nil, List.append_assoc, List.cons_append, List.nil_append] using h1
set_option maxHeartbeats 4000000 in
theorem boosting_law {S : Nat → Prop} (ge : El) (gt : T) (g2e : El) (g2t : T) (a : Option Addr) (n c : Nat) (ps : List (ByteArray × T)) (w : World) (hgT : TreeAt S w ge gt) (hgSm : SmallT 1048576 gt) (hg2T : TreeAt S w g2e g2t) (hg2Sm : SmallT 1048576 g2t) (h : PairsAt S w a n c ps) : Calls Try.prog 4 #[ge.val, g2e.val, .slice a n c] w fun r w' => r = .returned (.bool true) ∧ Ext w w' := by
  obtain ⟨gk, gx, gd, gy, gka, gn, gkc, gca, gm, gcc⟩ := ge
  obtain ⟨g2k, g2x, g2d, g2y, g2ka, g2n, g2kc, g2ca, g2m, g2cc⟩ := g2e
  have hnl := Nat.le_trans h.2.1 h.2.2.1
  unfold maxLen at hnl
  have hPs := Lib.hid fun w' (x : Ext w w') => (h.keep (S' := fun _ => True) (fun _ _ _ => trivial) (fun _ _ _ => rfl)).ext x
  have hZg := Lib.hid fun w' (x : Ext w w') => zzFits5_any (⟨gk, gx, gd, gy, gka, gn, gkc, gca, gm, gcc⟩ : El) gt w' (hgT.ext x)
  have hTg := Lib.hid fun w' (x : Ext w w') => (TreeAt.ext x hgT).any
  have hZg2 := Lib.hid fun w' (x : Ext w w') => zzFits5_any (⟨g2k, g2x, g2d, g2y, g2ka, g2n, g2kc, g2ca, g2m, g2cc⟩ : El) g2t w' (hg2T.ext x)
  have hTg2 := Lib.hid fun w' (x : Ext w w') => (TreeAt.ext x hg2T).any
  have hF := Lib.hid fun w' (x : Ext w w') => fits_any sBoosting rBoosting a n c ps w' rows_boosting (by simp [plainK]) (h.ext x)
  have hQ := Lib.hid fun w' (x : Ext w w') (hgF : FullT gt) (hg2F : FullT g2t) => boosting_any a n c ps w' (⟨gk, gx, gd, gy, gka, gn, gkc, gca, gm, gcc⟩ : El) gt (TreeAt.ext x hgT) hgF (⟨g2k, g2x, g2d, g2y, g2ka, g2n, g2kc, g2ca, g2m, g2cc⟩ : El) g2t (TreeAt.ext x hg2T) hg2F  (h.ext x)
  clear h
  clear hgT
  clear hg2T
  simp only [El.val]
  have hbtg : Box ((w.alloc (.cells (⟨gk, gx, gd, gy, gka, gn, gkc, gca, gm, gcc⟩ : El).arr 26)).alloc (.cells (⟨g2k, g2x, g2d, g2y, g2ka, g2n, g2kc, g2ca, g2m, g2cc⟩ : El).arr 26)) w.heap.size (⟨gk, gx, gd, gy, gka, gn, gkc, gca, gm, gcc⟩ : El).arr 26 := (Box.at (by simp) _ _).alloc _
  have hbtg2 : Box ((w.alloc (.cells (⟨gk, gx, gd, gy, gka, gn, gkc, gca, gm, gcc⟩ : El).arr 26)).alloc (.cells (⟨g2k, g2x, g2d, g2y, g2ka, g2n, g2kc, g2ca, g2m, g2cc⟩ : El).arr 26)) (w.heap.size + 1) (⟨g2k, g2x, g2d, g2y, g2ka, g2n, g2kc, g2ca, g2m, g2cc⟩ : El).arr 26 := (Box.at (by simp) _ _)
  go_enter Try.func4, Try.ntmps4
  have tkzg := trivial
  have tkzg2 := trivial
  by_cases hsz0 : 2147483647 < n
  · go_wp2_with (first
        | (go_at_call 14; have _t := tkzg; clear _t tkzg; refine (hZg.out _ (by (repeat (first | exact ext_refl _ | assumption | refine ext_alloc ?_ _ | refine ext_drew ?_ | refine ext_set ?_ (by simp) _ | refine ext_trans ?_ (by assumption))))).mono ?_; rintro r wzg ⟨bzg, rfl, hzg, hxzg⟩; have HZg := Lib.hid hzg; clear hzg; have hbtg_wzg := hbtg.ext (show Ext ((w.alloc (.cells (⟨gk, gx, gd, gy, gka, gn, gkc, gca, gm, gcc⟩ : El).arr 26)).alloc (.cells (⟨g2k, g2x, g2d, g2y, g2ka, g2n, g2kc, g2ca, g2m, g2cc⟩ : El).arr 26)) wzg by (repeat (first | exact ext_refl _ | assumption | refine ext_alloc ?_ _ | refine ext_drew ?_ | refine ext_set ?_ (by simp) _ | refine ext_trans ?_ (by assumption)))); obtain ⟨og0, og1, og2, og3, og4, og5⟩ := hbtg_wzg.six; have hbtg2_wzg := hbtg2.ext (show Ext ((w.alloc (.cells (⟨gk, gx, gd, gy, gka, gn, gkc, gca, gm, gcc⟩ : El).arr 26)).alloc (.cells (⟨g2k, g2x, g2d, g2y, g2ka, g2n, g2kc, g2ca, g2m, g2cc⟩ : El).arr 26)) wzg by (repeat (first | exact ext_refl _ | assumption | refine ext_alloc ?_ _ | refine ext_drew ?_ | refine ext_set ?_ (by simp) _ | refine ext_trans ?_ (by assumption)))); obtain ⟨og20, og21, og22, og23, og24, og25⟩ := hbtg2_wzg.six; cases bzg)
        | (go_at_call 14; have _t := tkzg2; clear _t tkzg2; refine (hZg2.out _ (by (repeat (first | exact ext_refl _ | assumption | refine ext_alloc ?_ _ | refine ext_drew ?_ | refine ext_set ?_ (by simp) _ | refine ext_trans ?_ (by assumption))))).mono ?_; rintro r wzg2 ⟨bzg2, rfl, hzg2, hxzg2⟩; have HZg2 := Lib.hid hzg2; clear hzg2; have hbtg_wzg2 := hbtg.ext (show Ext ((w.alloc (.cells (⟨gk, gx, gd, gy, gka, gn, gkc, gca, gm, gcc⟩ : El).arr 26)).alloc (.cells (⟨g2k, g2x, g2d, g2y, g2ka, g2n, g2kc, g2ca, g2m, g2cc⟩ : El).arr 26)) wzg2 by (repeat (first | exact ext_refl _ | assumption | refine ext_alloc ?_ _ | refine ext_drew ?_ | refine ext_set ?_ (by simp) _ | refine ext_trans ?_ (by assumption)))); obtain ⟨og0, og1, og2, og3, og4, og5⟩ := hbtg_wzg2.six; have hbtg2_wzg2 := hbtg2.ext (show Ext ((w.alloc (.cells (⟨gk, gx, gd, gy, gka, gn, gkc, gca, gm, gcc⟩ : El).arr 26)).alloc (.cells (⟨g2k, g2x, g2d, g2y, g2ka, g2n, g2kc, g2ca, g2m, g2cc⟩ : El).arr 26)) wzg2 by (repeat (first | exact ext_refl _ | assumption | refine ext_alloc ?_ _ | refine ext_drew ?_ | refine ext_set ?_ (by simp) _ | refine ext_trans ?_ (by assumption)))); obtain ⟨og20, og21, og22, og23, og24, og25⟩ := hbtg2_wzg2.six; cases bzg2))
    all_goals (go_ret; exact ⟨rfl, by (repeat (first | exact ext_refl _ | assumption | refine ext_alloc ?_ _ | refine ext_drew ?_ | refine ext_set ?_ (by simp) _ | refine ext_trans ?_ (by assumption)))⟩)
  · skip
    have tkqqug := trivial
    have tkqqug2 := trivial
    go_wp2_with (first
      | (go_at_call 14; have _t := tkzg; clear _t tkzg; refine (hZg.out _ (by (repeat (first | exact ext_refl _ | assumption | refine ext_alloc ?_ _ | refine ext_drew ?_ | refine ext_set ?_ (by simp) _ | refine ext_trans ?_ (by assumption))))).mono ?_; rintro r wzg ⟨bzg, rfl, hzg, hxzg⟩; have HZg := Lib.hid hzg; clear hzg; have hbtg_wzg := hbtg.ext (show Ext ((w.alloc (.cells (⟨gk, gx, gd, gy, gka, gn, gkc, gca, gm, gcc⟩ : El).arr 26)).alloc (.cells (⟨g2k, g2x, g2d, g2y, g2ka, g2n, g2kc, g2ca, g2m, g2cc⟩ : El).arr 26)) wzg by (repeat (first | exact ext_refl _ | assumption | refine ext_alloc ?_ _ | refine ext_drew ?_ | refine ext_set ?_ (by simp) _ | refine ext_trans ?_ (by assumption)))); obtain ⟨og0, og1, og2, og3, og4, og5⟩ := hbtg_wzg.six; have hbtg2_wzg := hbtg2.ext (show Ext ((w.alloc (.cells (⟨gk, gx, gd, gy, gka, gn, gkc, gca, gm, gcc⟩ : El).arr 26)).alloc (.cells (⟨g2k, g2x, g2d, g2y, g2ka, g2n, g2kc, g2ca, g2m, g2cc⟩ : El).arr 26)) wzg by (repeat (first | exact ext_refl _ | assumption | refine ext_alloc ?_ _ | refine ext_drew ?_ | refine ext_set ?_ (by simp) _ | refine ext_trans ?_ (by assumption)))); obtain ⟨og20, og21, og22, og23, og24, og25⟩ := hbtg2_wzg.six; cases bzg)
      | (go_at_call 14; have _t := tkzg2; clear _t tkzg2; refine (hZg2.out _ (by (repeat (first | exact ext_refl _ | assumption | refine ext_alloc ?_ _ | refine ext_drew ?_ | refine ext_set ?_ (by simp) _ | refine ext_trans ?_ (by assumption))))).mono ?_; rintro r wzg2 ⟨bzg2, rfl, hzg2, hxzg2⟩; have HZg2 := Lib.hid hzg2; clear hzg2; have hbtg_wzg2 := hbtg.ext (show Ext ((w.alloc (.cells (⟨gk, gx, gd, gy, gka, gn, gkc, gca, gm, gcc⟩ : El).arr 26)).alloc (.cells (⟨g2k, g2x, g2d, g2y, g2ka, g2n, g2kc, g2ca, g2m, g2cc⟩ : El).arr 26)) wzg2 by (repeat (first | exact ext_refl _ | assumption | refine ext_alloc ?_ _ | refine ext_drew ?_ | refine ext_set ?_ (by simp) _ | refine ext_trans ?_ (by assumption)))); obtain ⟨og0, og1, og2, og3, og4, og5⟩ := hbtg_wzg2.six; have hbtg2_wzg2 := hbtg2.ext (show Ext ((w.alloc (.cells (⟨gk, gx, gd, gy, gka, gn, gkc, gca, gm, gcc⟩ : El).arr 26)).alloc (.cells (⟨g2k, g2x, g2d, g2y, g2ka, g2n, g2kc, g2ca, g2m, g2cc⟩ : El).arr 26)) wzg2 by (repeat (first | exact ext_refl _ | assumption | refine ext_alloc ?_ _ | refine ext_drew ?_ | refine ext_set ?_ (by simp) _ | refine ext_trans ?_ (by assumption)))); obtain ⟨og20, og21, og22, og23, og24, og25⟩ := hbtg2_wzg2.six; cases bzg2)
      | (go_at_call 15; have _t := tkqqug; clear _t tkqqug; refine (query_any _ _ _ (hTg.out _ (by (repeat (first | exact ext_refl _ | assumption | refine ext_alloc ?_ _ | refine ext_drew ?_ | refine ext_set ?_ (by simp) _ | refine ext_trans ?_ (by assumption)))))).mono ?_; rintro r wqug ⟨bqug, rfl, hqug, hxqug⟩; have Hqug := Lib.hid hqug; clear hqug; have hbtg_wqug := hbtg.ext (show Ext ((w.alloc (.cells (⟨gk, gx, gd, gy, gka, gn, gkc, gca, gm, gcc⟩ : El).arr 26)).alloc (.cells (⟨g2k, g2x, g2d, g2y, g2ka, g2n, g2kc, g2ca, g2m, g2cc⟩ : El).arr 26)) wqug by (repeat (first | exact ext_refl _ | assumption | refine ext_alloc ?_ _ | refine ext_drew ?_ | refine ext_set ?_ (by simp) _ | refine ext_trans ?_ (by assumption)))); obtain ⟨og0, og1, og2, og3, og4, og5⟩ := hbtg_wqug.six; have hbtg2_wqug := hbtg2.ext (show Ext ((w.alloc (.cells (⟨gk, gx, gd, gy, gka, gn, gkc, gca, gm, gcc⟩ : El).arr 26)).alloc (.cells (⟨g2k, g2x, g2d, g2y, g2ka, g2n, g2kc, g2ca, g2m, g2cc⟩ : El).arr 26)) wqug by (repeat (first | exact ext_refl _ | assumption | refine ext_alloc ?_ _ | refine ext_drew ?_ | refine ext_set ?_ (by simp) _ | refine ext_trans ?_ (by assumption)))); obtain ⟨og20, og21, og22, og23, og24, og25⟩ := hbtg2_wqug.six; cases bqug)
      | (go_at_call 15; have _t := tkqqug2; clear _t tkqqug2; refine (query_any _ _ _ (hTg2.out _ (by (repeat (first | exact ext_refl _ | assumption | refine ext_alloc ?_ _ | refine ext_drew ?_ | refine ext_set ?_ (by simp) _ | refine ext_trans ?_ (by assumption)))))).mono ?_; rintro r wqug2 ⟨bqug2, rfl, hqug2, hxqug2⟩; have Hqug2 := Lib.hid hqug2; clear hqug2; have hbtg_wqug2 := hbtg.ext (show Ext ((w.alloc (.cells (⟨gk, gx, gd, gy, gka, gn, gkc, gca, gm, gcc⟩ : El).arr 26)).alloc (.cells (⟨g2k, g2x, g2d, g2y, g2ka, g2n, g2kc, g2ca, g2m, g2cc⟩ : El).arr 26)) wqug2 by (repeat (first | exact ext_refl _ | assumption | refine ext_alloc ?_ _ | refine ext_drew ?_ | refine ext_set ?_ (by simp) _ | refine ext_trans ?_ (by assumption)))); obtain ⟨og0, og1, og2, og3, og4, og5⟩ := hbtg_wqug2.six; have hbtg2_wqug2 := hbtg2.ext (show Ext ((w.alloc (.cells (⟨gk, gx, gd, gy, gka, gn, gkc, gca, gm, gcc⟩ : El).arr 26)).alloc (.cells (⟨g2k, g2x, g2d, g2y, g2ka, g2n, g2kc, g2ca, g2m, g2cc⟩ : El).arr 26)) wqug2 by (repeat (first | exact ext_refl _ | assumption | refine ext_alloc ?_ _ | refine ext_drew ?_ | refine ext_set ?_ (by simp) _ | refine ext_trans ?_ (by assumption)))); obtain ⟨og20, og21, og22, og23, og24, og25⟩ := hbtg2_wqug2.six; cases bqug2)
      | (go_at_call 16; refine (hF.out _ (by (repeat (first | exact ext_refl _ | assumption | refine ext_alloc ?_ _ | refine ext_drew ?_ | refine ext_set ?_ (by simp) _ | refine ext_trans ?_ (by assumption))))).mono ?_; rintro r wff ⟨bff, rfl, hff, hxff⟩; have Hff := Lib.hid hff; clear hff; have hbtg_wff := hbtg.ext (show Ext ((w.alloc (.cells (⟨gk, gx, gd, gy, gka, gn, gkc, gca, gm, gcc⟩ : El).arr 26)).alloc (.cells (⟨g2k, g2x, g2d, g2y, g2ka, g2n, g2kc, g2ca, g2m, g2cc⟩ : El).arr 26)) wff by (repeat (first | exact ext_refl _ | assumption | refine ext_alloc ?_ _ | refine ext_drew ?_ | refine ext_set ?_ (by simp) _ | refine ext_trans ?_ (by assumption)))); obtain ⟨og0, og1, og2, og3, og4, og5⟩ := hbtg_wff.six; have hbtg2_wff := hbtg2.ext (show Ext ((w.alloc (.cells (⟨gk, gx, gd, gy, gka, gn, gkc, gca, gm, gcc⟩ : El).arr 26)).alloc (.cells (⟨g2k, g2x, g2d, g2y, g2ka, g2n, g2kc, g2ca, g2m, g2cc⟩ : El).arr 26)) wff by (repeat (first | exact ext_refl _ | assumption | refine ext_alloc ?_ _ | refine ext_drew ?_ | refine ext_set ?_ (by simp) _ | refine ext_trans ?_ (by assumption)))); obtain ⟨og20, og21, og22, og23, og24, og25⟩ := hbtg2_wff.six; cases bff))
    all_goals (try (go_ret; exact ⟨rfl, by (repeat (first | exact ext_refl _ | assumption | refine ext_alloc ?_ _ | refine ext_drew ?_ | refine ext_set ?_ (by simp) _ | refine ext_trans ?_ (by assumption)))⟩))
    have hff := Hff.out (by trivial)
    have hgq := Hqug.out (by trivial)
    have hgK := hgq.1
    have hgF := FullT.of (N := 1048576) (by omega) hgq.2 hgSm
    have hg2q := Hqug2.out (by trivial)
    have hg2K := hg2q.1
    have hg2F := FullT.of (N := 1048576) (by omega) hg2q.2 hg2Sm
    have hfit := Lib.hid (boosting_same gt hgF g2t hg2F hff)
    have hx0 : Ext ((w.alloc (.cells (⟨gk, gx, gd, gy, gka, gn, gkc, gca, gm, gcc⟩ : El).arr 26)).alloc (.cells (⟨g2k, g2x, g2d, g2y, g2ka, g2n, g2kc, g2ca, g2m, g2cc⟩ : El).arr 26)) wff := by (repeat (first | exact ext_refl _ | assumption | refine ext_alloc ?_ _ | refine ext_drew ?_ | refine ext_set ?_ (by simp) _ | refine ext_trans ?_ (by assumption)))
    have hx1 : Ext w wff := by (repeat (first | exact ext_refl _ | assumption | refine ext_alloc ?_ _ | refine ext_drew ?_ | refine ext_set ?_ (by simp) _ | refine ext_trans ?_ (by assumption)))
    refine (hQ.out wff hx1 hgF hg2F).mono ?_
    rintro r w3 ⟨e, rfl, hT, hx3⟩
    simp only [El.val]
    go_upto_region 6 with fail
    have hb3 : Box (w3.alloc (.cells e.arr 26)) w3.heap.size e.arr 26 := Box.at rfl _ _
    have hxa := ext_alloc (ext_trans hx0 hx3) (.cells e.arr 26)
    have hxb : Ext w (w3.alloc (.cells e.arr 26)) := ext_alloc (ext_trans hx1 hx3) _
    rw [jMap_tree] at hT
    have hT3 := Lib.hid (hT.ext (ext_alloc (ext_refl w3) (.cells e.arr 26)))
    clear hT
    generalize w3.alloc (.cells e.arr 26) = w4 at hb3 hxa hxb hT3 ⊢
    generalize w3.heap.size = b3 at hb3 ⊢
    refine wp_region_tree (fun w' => Six w' b3 e ∧ Six w' w.heap.size (⟨gk, gx, gd, gy, gka, gn, gkc, gca, gm, gcc⟩ : El) ∧ Six w' (w.heap.size + 1) (⟨g2k, g2x, g2d, g2y, g2ka, g2n, g2kc, g2ca, g2m, g2cc⟩ : El)) [0, 1, 2, 4, 5, 6, 7, 8, 12] (.held 0 (.held 1 (.held 2 (.held 4 (.held 5 (.held 6 (.held 7 (.held 8 (.two 3 (.one 9 (.one 10 (.one 11 (.held 12 (.one 13 (.done)))))) 9 (.one 3 (.one 10 (.one 11 (.held 12 (.one 13 (.done))))))))))))))) (by kernel_rfl) (by kernel_rfl) (fun d _ _ _ _ h => by cases d <;> exact h) (by kernel_rfl) ?_
    have hS : (fun w' => Six w' b3 e ∧ Six w' w.heap.size (⟨gk, gx, gd, gy, gka, gn, gkc, gca, gm, gcc⟩ : El) ∧ Six w' (w.heap.size + 1) (⟨g2k, g2x, g2d, g2y, g2ka, g2n, g2kc, g2ca, g2m, g2cc⟩ : El)) _ := ⟨hb3.Six, (hbtg.ext hxa).Six, (hbtg2.ext hxa).Six⟩
    (apply tr_held rfl (by assumption) rfl; (focus ((intro w' hS'); go_simp; (try with_reducible rfl))); (try simp only [Act.put, List.setIfInBounds_toArray, List.set_cons_zero, List.set_cons_succ]))
    (apply tr_held rfl (by assumption) rfl; (focus ((intro w' hS'); go_simp; (try with_reducible rfl))); (try simp only [Act.put, List.setIfInBounds_toArray, List.set_cons_zero, List.set_cons_succ]))
    (apply tr_guard rfl (by assumption) rfl; (focus ((intro w' hS'); go_simp; (try with_reducible rfl))); (try simp only [Act.put, List.setIfInBounds_toArray, List.set_cons_zero, List.set_cons_succ]))
    (apply tr_guard rfl (by assumption) rfl; (focus ((intro w' hS'); go_simp; (try with_reducible rfl))); (try simp only [Act.put, List.setIfInBounds_toArray, List.set_cons_zero, List.set_cons_succ]))
    (apply tr_guard rfl (by assumption) rfl; (focus ((intro w' hS'); go_simp; (try with_reducible rfl))); (try simp only [Act.put, List.setIfInBounds_toArray, List.set_cons_zero, List.set_cons_succ]))
    (apply tr_guard rfl (by assumption) rfl; (focus ((intro w' hS'); go_simp; (try with_reducible rfl))); (try simp only [Act.put, List.setIfInBounds_toArray, List.set_cons_zero, List.set_cons_succ]))
    (apply tr_guard rfl (by assumption) rfl; (focus ((intro w' hS'); go_simp; (try with_reducible rfl))); (try simp only [Act.put, List.setIfInBounds_toArray, List.set_cons_zero, List.set_cons_succ]))
    (apply tr_guard rfl (by assumption) rfl; (focus ((intro w' hS'); go_simp; (try with_reducible rfl))); (try simp only [Act.put, List.setIfInBounds_toArray, List.set_cons_zero, List.set_cons_succ]))
    refine tr_two ?_ ?_
    · skip
      (apply tr_want rfl rfl; intro K hK; go_simp)
      refine (rb_any s_boosting _ e none 0 0 [] _ (hT3.out.ext ((ext_drew (ext_refl w4)))) (strs_none _) (fun k t hl => ⟨(NoNull.append (NoNull.append (NoNull.append (noNull_J _ _ (by rw [jFull_kind hgK]; decide)) (noNull_J _ _ (by rw [jFull_kind hg2K]; decide))) (noNull_N _ _)) (noNull_N _ _)) _ (lastOf_mem hl), fun hh => by simp [hasS] at hh⟩) (by have h1 := jN_len s_negative_boost (lastOf ps s_negative_boost); have h2 := jN_len s_boost (lastOf ps s_boost); simp only [List.length_map, List.length_append, List.length_cons, List.length_nil]; omega)).mono ?_
      rintro r wr ⟨gr, rfl, hTr, hxr⟩
      have hS1 : (fun w' => Six w' b3 e ∧ Six w' w.heap.size (⟨gk, gx, gd, gy, gka, gn, gkc, gca, gm, gcc⟩ : El) ∧ Six w' (w.heap.size + 1) (⟨g2k, g2x, g2d, g2y, g2ka, g2n, g2kc, g2ca, g2m, g2cc⟩ : El)) wr := ⟨Six.ext hxr hS.1, Six.ext hxr hS.2.1, Six.ext hxr hS.2.2⟩
      refine hK _ _ (fun _ => hS1) ?_
      clear hK K
      try simp only [El.val]
      (try simp only [Act.put, List.setIfInBounds_toArray, List.set_cons_zero, List.set_cons_succ])
      (apply tr_want rfl rfl; intro K hK; go_simp)
      have hxp : Ext wr (wr.alloc (.cells #[.string s_positive, .int .i64 gk, .string gx, .float .f64 gd, .bool gy, .slice gka gn gkc, .slice gca gm gcc, .string s_negative, .int .i64 g2k, .string g2x, .float .f64 g2d, .bool g2y, .slice g2ka g2n g2kc, .slice g2ca g2m g2cc] 36)) := ext_alloc (ext_refl _) _
      have hPr := pairs_box (S := fun _ => True) (es := [(s_positive, (⟨gk, gx, gd, gy, gka, gn, gkc, gca, gm, gcc⟩ : El)), (s_negative, (⟨g2k, g2x, g2d, g2y, g2ka, g2n, g2kc, g2ca, g2m, g2cc⟩ : El))]) (Box.at (w := wr) rfl #[.string s_positive, .int .i64 gk, .string gx, .float .f64 gd, .bool gy, .slice gka gn gkc, .slice gca gm gcc, .string s_negative, .int .i64 g2k, .string g2x, .float .f64 g2d, .bool g2y, .slice g2ka g2n g2kc, .slice g2ca g2m g2cc] 36) trivial (by simp [maxLen]) (Pk.append (Pk.one (k := s_positive) (hTg.out _ (ext_trans hxb (ext_trans (ext_trans ((ext_drew (ext_refl w4))) hxr) hxp)))) (Pk.one (k := s_negative) (hTg2.out _ (ext_trans hxb (ext_trans (ext_trans ((ext_drew (ext_refl w4))) hxr) hxp)))))
      have hS2 : (fun w' => Six w' b3 e ∧ Six w' w.heap.size (⟨gk, gx, gd, gy, gka, gn, gkc, gca, gm, gcc⟩ : El) ∧ Six w' (w.heap.size + 1) (⟨g2k, g2x, g2d, g2y, g2ka, g2n, g2kc, g2ca, g2m, g2cc⟩ : El)) (wr.alloc (.cells #[.string s_positive, .int .i64 gk, .string gx, .float .f64 gd, .bool gy, .slice gka gn gkc, .slice gca gm gcc, .string s_negative, .int .i64 g2k, .string g2x, .float .f64 g2d, .bool g2y, .slice g2ka g2n g2kc, .slice g2ca g2m g2cc] 36)) := ⟨Six.ext hxp hS1.1, Six.ext hxp hS1.2.1, Six.ext hxp hS1.2.2⟩
      refine hK _ _ (fun _ => hS2) ?_
      clear hK K
      (try simp only [Act.put, List.setIfInBounds_toArray, List.set_cons_zero, List.set_cons_succ])
      (apply tr_want rfl rfl; intro K hK; go_simp)
      refine (beside_more (S := fun _ => True) s_boosting sBoosting tBoosting a n c ps _ table_boosting 5 (by decide) (by decide) rBoosting (by decide) (by decide) (hPs.out _ (ext_trans hxb (ext_trans (ext_trans ((ext_drew (ext_refl w4))) hxr) hxp))) wr.heap.size 0 2 2 [(s_positive, gt), (s_negative, g2t)] (hPr.ext (ext_refl _)) (by decide) (by decide)).mono ?_
      rintro r wb ⟨gb, rfl, hTb, hxbb⟩
      have hS3 : (fun w' => Six w' b3 e ∧ Six w' w.heap.size (⟨gk, gx, gd, gy, gka, gn, gkc, gca, gm, gcc⟩ : El) ∧ Six w' (w.heap.size + 1) (⟨g2k, g2x, g2d, g2y, g2ka, g2n, g2kc, g2ca, g2m, g2cc⟩ : El)) wb := ⟨Six.ext hxbb hS2.1, Six.ext hxbb hS2.2.1, Six.ext hxbb hS2.2.2⟩
      refine hK _ _ (fun _ => hS3) ?_
      clear hK K
      try simp only [El.val]
      (try simp only [Act.put, List.setIfInBounds_toArray, List.set_cons_zero, List.set_cons_succ])
      (apply tr_want rfl rfl; intro K hK; go_simp)
      refine (same_any (S := fun _ => True) _ _ gr gb _ ((hTr.ext (ext_trans (hxp) hxbb)).any) (hTb.any)).mono ?_
      rintro r ws ⟨rfl, hxs⟩
      have hS4 : (fun w' => Six w' b3 e ∧ Six w' w.heap.size (⟨gk, gx, gd, gy, gka, gn, gkc, gca, gm, gcc⟩ : El) ∧ Six w' (w.heap.size + 1) (⟨g2k, g2x, g2d, g2y, g2ka, g2n, g2kc, g2ca, g2m, g2cc⟩ : El)) ws := ⟨Six.ext hxs hS3.1, Six.ext hxs hS3.2.1, Six.ext hxs hS3.2.2⟩
      refine hK _ _ (fun _ => hS4) ?_
      clear hK K
      try simp only [El.val]
      rw [hfit.out]
      (try simp only [Act.put, List.setIfInBounds_toArray, List.set_cons_zero, List.set_cons_succ])
      (apply tr_held rfl (by assumption) rfl; (focus ((intro w' hS'); go_simp; (try with_reducible rfl))); (try simp only [Act.put, List.setIfInBounds_toArray, List.set_cons_zero, List.set_cons_succ]))
      (apply tr_loud rfl rfl; intro K hK; go_simp)
      refine hK _ _ (fun _ => hS4) ?_
      clear hK K
      (try simp only [Act.put, List.setIfInBounds_toArray, List.set_cons_zero, List.set_cons_succ])
      refine tr_end ?_
      go_wp2_with fail
      go_ret
      exact ⟨rfl, ext_trans hxb (ext_trans (ext_trans (ext_trans (ext_trans ((ext_drew (ext_refl w4))) hxr) hxp) hxbb) hxs)⟩
    · skip
      (apply tr_want rfl rfl; intro K hK; go_simp)
      have hxp : Ext w4.drew (w4.drew.alloc (.cells #[.string s_positive, .int .i64 gk, .string gx, .float .f64 gd, .bool gy, .slice gka gn gkc, .slice gca gm gcc, .string s_negative, .int .i64 g2k, .string g2x, .float .f64 g2d, .bool g2y, .slice g2ka g2n g2kc, .slice g2ca g2m g2cc] 36)) := ext_alloc (ext_refl _) _
      have hPr := pairs_box (S := fun _ => True) (es := [(s_positive, (⟨gk, gx, gd, gy, gka, gn, gkc, gca, gm, gcc⟩ : El)), (s_negative, (⟨g2k, g2x, g2d, g2y, g2ka, g2n, g2kc, g2ca, g2m, g2cc⟩ : El))]) (Box.at (w := w4.drew) rfl #[.string s_positive, .int .i64 gk, .string gx, .float .f64 gd, .bool gy, .slice gka gn gkc, .slice gca gm gcc, .string s_negative, .int .i64 g2k, .string g2x, .float .f64 g2d, .bool g2y, .slice g2ka g2n g2kc, .slice g2ca g2m g2cc] 36) trivial (by simp [maxLen]) (Pk.append (Pk.one (k := s_positive) (hTg.out _ (ext_trans hxb (ext_trans ((ext_drew (ext_refl w4))) hxp)))) (Pk.one (k := s_negative) (hTg2.out _ (ext_trans hxb (ext_trans ((ext_drew (ext_refl w4))) hxp)))))
      have hS1 : (fun w' => Six w' b3 e ∧ Six w' w.heap.size (⟨gk, gx, gd, gy, gka, gn, gkc, gca, gm, gcc⟩ : El) ∧ Six w' (w.heap.size + 1) (⟨g2k, g2x, g2d, g2y, g2ka, g2n, g2kc, g2ca, g2m, g2cc⟩ : El)) (w4.drew.alloc (.cells #[.string s_positive, .int .i64 gk, .string gx, .float .f64 gd, .bool gy, .slice gka gn gkc, .slice gca gm gcc, .string s_negative, .int .i64 g2k, .string g2x, .float .f64 g2d, .bool g2y, .slice g2ka g2n g2kc, .slice g2ca g2m g2cc] 36)) := ⟨Six.ext hxp hS.1, Six.ext hxp hS.2.1, Six.ext hxp hS.2.2⟩
      refine hK _ _ (fun _ => hS1) ?_
      clear hK K
      (try simp only [Act.put, List.setIfInBounds_toArray, List.set_cons_zero, List.set_cons_succ])
      (apply tr_want rfl rfl; intro K hK; go_simp)
      refine (rb_any s_boosting _ e none 0 0 [] _ (hT3.out.ext (ext_trans ((ext_drew (ext_refl w4))) hxp)) (strs_none _) (fun k t hl => ⟨(NoNull.append (NoNull.append (NoNull.append (noNull_J _ _ (by rw [jFull_kind hgK]; decide)) (noNull_J _ _ (by rw [jFull_kind hg2K]; decide))) (noNull_N _ _)) (noNull_N _ _)) _ (lastOf_mem hl), fun hh => by simp [hasS] at hh⟩) (by have h1 := jN_len s_negative_boost (lastOf ps s_negative_boost); have h2 := jN_len s_boost (lastOf ps s_boost); simp only [List.length_map, List.length_append, List.length_cons, List.length_nil]; omega)).mono ?_
      rintro r wr ⟨gr, rfl, hTr, hxr⟩
      have hS2 : (fun w' => Six w' b3 e ∧ Six w' w.heap.size (⟨gk, gx, gd, gy, gka, gn, gkc, gca, gm, gcc⟩ : El) ∧ Six w' (w.heap.size + 1) (⟨g2k, g2x, g2d, g2y, g2ka, g2n, g2kc, g2ca, g2m, g2cc⟩ : El)) wr := ⟨Six.ext hxr hS1.1, Six.ext hxr hS1.2.1, Six.ext hxr hS1.2.2⟩
      refine hK _ _ (fun _ => hS2) ?_
      clear hK K
      try simp only [El.val]
      (try simp only [Act.put, List.setIfInBounds_toArray, List.set_cons_zero, List.set_cons_succ])
      (apply tr_want rfl rfl; intro K hK; go_simp)
      refine (beside_more (S := fun _ => True) s_boosting sBoosting tBoosting a n c ps _ table_boosting 5 (by decide) (by decide) rBoosting (by decide) (by decide) (hPs.out _ (ext_trans hxb (ext_trans (ext_trans ((ext_drew (ext_refl w4))) hxp) hxr))) w4.drew.heap.size 0 2 2 [(s_positive, gt), (s_negative, g2t)] (hPr.ext (hxr)) (by decide) (by decide)).mono ?_
      rintro r wb ⟨gb, rfl, hTb, hxbb⟩
      have hS3 : (fun w' => Six w' b3 e ∧ Six w' w.heap.size (⟨gk, gx, gd, gy, gka, gn, gkc, gca, gm, gcc⟩ : El) ∧ Six w' (w.heap.size + 1) (⟨g2k, g2x, g2d, g2y, g2ka, g2n, g2kc, g2ca, g2m, g2cc⟩ : El)) wb := ⟨Six.ext hxbb hS2.1, Six.ext hxbb hS2.2.1, Six.ext hxbb hS2.2.2⟩
      refine hK _ _ (fun _ => hS3) ?_
      clear hK K
      try simp only [El.val]
      (try simp only [Act.put, List.setIfInBounds_toArray, List.set_cons_zero, List.set_cons_succ])
      (apply tr_want rfl rfl; intro K hK; go_simp)
      refine (same_any (S := fun _ => True) _ _ gr gb _ ((hTr.ext (hxbb)).any) (hTb.any)).mono ?_
      rintro r ws ⟨rfl, hxs⟩
      have hS4 : (fun w' => Six w' b3 e ∧ Six w' w.heap.size (⟨gk, gx, gd, gy, gka, gn, gkc, gca, gm, gcc⟩ : El) ∧ Six w' (w.heap.size + 1) (⟨g2k, g2x, g2d, g2y, g2ka, g2n, g2kc, g2ca, g2m, g2cc⟩ : El)) ws := ⟨Six.ext hxs hS3.1, Six.ext hxs hS3.2.1, Six.ext hxs hS3.2.2⟩
      refine hK _ _ (fun _ => hS4) ?_
      clear hK K
      try simp only [El.val]
      rw [hfit.out]
      (try simp only [Act.put, List.setIfInBounds_toArray, List.set_cons_zero, List.set_cons_succ])
      (apply tr_held rfl (by assumption) rfl; (focus ((intro w' hS'); go_simp; (try with_reducible rfl))); (try simp only [Act.put, List.setIfInBounds_toArray, List.set_cons_zero, List.set_cons_succ]))
      (apply tr_loud rfl rfl; intro K hK; go_simp)
      refine hK _ _ (fun _ => hS4) ?_
      clear hK K
      (try simp only [Act.put, List.setIfInBounds_toArray, List.set_cons_zero, List.set_cons_succ])
      refine tr_end ?_
      go_wp2_with fail
      go_ret
      exact ⟨rfl, ext_trans hxb (ext_trans (ext_trans (ext_trans (ext_trans ((ext_drew (ext_refl w4))) hxp) hxr) hxbb) hxs)⟩
end Go.Proofs.Ytpkkdmopcfcnkaa
