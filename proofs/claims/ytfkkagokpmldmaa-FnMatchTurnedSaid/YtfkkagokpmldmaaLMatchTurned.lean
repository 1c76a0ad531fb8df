/-
  The order of settings makes no odds (Match).
-/
import Derived.Test.YtfkkagokpmldmaaIMatch
import Derived.Test.YtfkkagokpmldmaaTu
import Derived.Test.YtfkkagokpmldmaaTr
namespace Go.Proofs.Ytfkkagokpmldmaa
open Go.RowKit

abbrev sMatch : ByteArray := ⟨#[77, 97, 116, 99, 104]⟩
abbrev tMatch : ByteArray := ⟨#[97, 110, 97, 108, 121, 122, 101, 114, 32, 116, 44, 98, 111, 111, 115, 116, 32, 110, 44, 99, 117, 116, 111, 102, 102, 95, 102, 114, 101, 113, 117, 101, 110, 99, 121, 32, 110, 44, 102, 117, 122, 122, 105, 110, 101, 115, 115, 32, 116, 44, 102, 117, 122, 122, 121, 95, 114, 101, 119, 114, 105, 116, 101, 32, 116, 44, 102, 117, 122, 122, 121, 95, 116, 114, 97, 110, 115, 112, 111, 115, 105, 116, 105, 111, 110, 115, 32, 98, 44, 108, 101, 110, 105, 101, 110, 116, 32, 98, 44, 109, 97, 120, 95, 101, 120, 112, 97, 110, 115, 105, 111, 110, 115, 32, 119, 44, 109, 105, 110, 105, 109, 117, 109, 95, 115, 104, 111, 117, 108, 100, 95, 109, 97, 116, 99, 104, 32, 116, 44, 111, 112, 101, 114, 97, 116, 111, 114, 32, 116, 44, 112, 114, 101, 102, 105, 120, 95, 108, 101, 110, 103, 116, 104, 32, 119, 44, 122, 101, 114, 111, 95, 116, 101, 114, 109, 115, 95, 113, 117, 101, 114, 121, 32, 116, 44, 95, 110, 97, 109, 101, 32, 116]⟩
abbrev rMatch : List (ByteArray × ByteArray) := [(s_analyzer, ⟨#[116]⟩), (s_boost, ⟨#[110]⟩), (s_cutoff_frequency, ⟨#[110]⟩), (s_fuzziness, ⟨#[116]⟩), (s_fuzzy_rewrite, ⟨#[116]⟩), (s_fuzzy_transpositions, ⟨#[98]⟩), (s_lenient, ⟨#[98]⟩), (s_max_expansions, ⟨#[119]⟩), (s_minimum_should_match, ⟨#[116]⟩), (s_operator, ⟨#[116]⟩), (s_prefix_length, ⟨#[119]⟩), (s_zero_terms_query, ⟨#[116]⟩), (s_name, ⟨#[116]⟩)]
set_option maxHeartbeats 2000000 in
theorem table_match_ (w : World) : Calls Try.prog 44 #[.string sMatch] w fun r w' => r = .returned (.string tMatch) ∧ w' = w := by
  go_enter Try.func44, Try.ntmps44
  go_wp2
  go_ret
  exact ⟨rfl, rfl⟩
set_option maxRecDepth 20000 in
theorem rows_match_ (w : World) : Calls Try.prog 40 #[.string sMatch] w fun r w' => ∃ v, r = .returned v ∧ Own2 w' w.heap.size v rMatch ∧ Ext w w' :=
  rows_any sMatch tMatch w table_match_ 16 (by decide) (by decide)
theorem matchTurned_same (f : ByteArray) (gt : T) (hgS : scalarT gt = true) {ps : List (ByteArray × T)} (hF : FitsP rMatch ps) : sameT (treeJ (jMap [(s_match, jMap [(f, jMap ([(s_query, jOf gt)] ++ jT s_operator (lastOf ps s_operator) ++ jT s_analyzer (lastOf ps s_analyzer) ++ jT s_fuzziness (lastOf ps s_fuzziness) ++ jW s_prefix_length (lastOf ps s_prefix_length) ++ jW s_max_expansions (lastOf ps s_max_expansions) ++ jT s_minimum_should_match (lastOf ps s_minimum_should_match) ++ jT s_fuzzy_rewrite (lastOf ps s_fuzzy_rewrite) ++ jY s_lenient (lastOf ps s_lenient) ++ jY s_fuzzy_transpositions (lastOf ps s_fuzzy_transpositions) ++ jT s_zero_terms_query (lastOf ps s_zero_terms_query) ++ jN s_cutoff_frequency (lastOf ps s_cutoff_frequency) ++ jN s_boost (lastOf ps s_boost) ++ jT s_name (lastOf ps s_name)))])])) (treeJ (jMap [(s_match, jMap [(f, jMap ([(s_query, jOf gt)] ++ jT s_operator (lastOf ps s_operator) ++ jT s_analyzer (lastOf ps s_analyzer) ++ jT s_fuzziness (lastOf ps s_fuzziness) ++ jW s_prefix_length (lastOf ps s_prefix_length) ++ jW s_max_expansions (lastOf ps s_max_expansions) ++ jT s_minimum_should_match (lastOf ps s_minimum_should_match) ++ jT s_fuzzy_rewrite (lastOf ps s_fuzzy_rewrite) ++ jY s_lenient (lastOf ps s_lenient) ++ jY s_fuzzy_transpositions (lastOf ps s_fuzzy_transpositions) ++ jT s_zero_terms_query (lastOf ps s_zero_terms_query) ++ jN s_cutoff_frequency (lastOf ps s_cutoff_frequency) ++ jN s_boost (lastOf ps s_boost) ++ jT s_name (lastOf ps s_name)))])])) = true := by
  rw [treeJ_jMap]
  refine selfs_map (Selfs.one ?_)
  rw [treeJ_jMap]
  refine selfs_map (Selfs.one ?_)
  rw [treeJ_jMap]
  refine selfs_map ?_
  rw [List.map_append, List.map_append, List.map_append, List.map_append, List.map_append, List.map_append, List.map_append, List.map_append, List.map_append, List.map_append, List.map_append, List.map_append, List.map_append]
  exact (((((((((((((Selfs.one (jOf_self hgS)).append (jT_self _ _)).append (jT_self _ _)).append (jT_self _ _)).append (jW_self hF (by rw [kindL_dec]; decide))).append (jW_self hF (by rw [kindL_dec]; decide))).append (jT_self _ _)).append (jT_self _ _)).append (jY_self _ _)).append (jY_self _ _)).append (jT_self _ _)).append (jN_self hF (by rw [kindL_dec]; decide))).append (jN_self hF (by rw [kindL_dec]; decide))).append (jT_self _ _)
set_option maxHeartbeats 4000000 in
theorem matchTurned_law {S : Nat → Prop} (f : ByteArray) (ge : El) (gt : T) (a : Option Addr) (n c : Nat) (ps : List (ByteArray × T)) (w : World) (hgT : TreeAt S w ge gt) (h : PairsAt S w a n c ps) : Calls Try.prog 3 #[.string f, ge.val, .slice a n c] w fun r w' => r = .returned (.bool true) ∧ Ext w w' := by
  obtain ⟨gk, gx, gd, gy, gka, gn, gkc, gca, gm, gcc⟩ := ge
  have hnl := Nat.le_trans h.2.1 h.2.2.1
  unfold maxLen at hnl
  have hPs := Lib.hid fun w' (x : Ext w w') => (h.keep (S' := fun _ => True) (fun _ _ _ => trivial) (fun _ _ _ => rfl)).ext x
  have hZg := Lib.hid fun w' (x : Ext w w') => zzFits5_any (⟨gk, gx, gd, gy, gka, gn, gkc, gca, gm, gcc⟩ : El) gt w' (hgT.ext x)
  have hTg := Lib.hid fun w' (x : Ext w w') => (TreeAt.ext x hgT).any
  have hF := Lib.hid fun w' (x : Ext w w') => fits_any sMatch rMatch a n c ps w' rows_match_ (by simp [plainK]) (h.ext x)
  have hD := Lib.hid fun w' (x : Ext w w') => distinct_any a n c ps w' (h.ext x)
  have hQ := Lib.hid fun w' (x : Ext w w') (hgS : scalarT gt = true) (hf_le : f.size ≤ maxLen) (hff : FitsP rMatch ps) => match__any a n c ps w' f hf_le (⟨gk, gx, gd, gy, gka, gn, gkc, gca, gm, gcc⟩ : El) gt (TreeAt.ext x hgT) hgS (whole_of hff (by rw [kindL_dec]; decide)) (whole_of hff (by rw [kindL_dec]; decide)) (h.ext x)
  clear h
  clear hgT
  simp only [El.val]
  have hbtg : Box (w.alloc (.cells (⟨gk, gx, gd, gy, gka, gn, gkc, gca, gm, gcc⟩ : El).arr 26)) w.heap.size (⟨gk, gx, gd, gy, gka, gn, gkc, gca, gm, gcc⟩ : El).arr 26 := Box.at rfl _ _
  go_enter Try.func3, Try.ntmps3
  by_cases hsz0 : 2147483647 < f.size
  · go_wp2_with (first
        | (go_at_call 4; refine (hZg.out _ (by (repeat (first | exact ext_refl _ | assumption | refine ext_alloc ?_ _ | refine ext_drew ?_ | refine ext_set ?_ (by simp) _ | refine ext_trans ?_ (by assumption))))).mono ?_; rintro r wzg ⟨bzg, rfl, hzg, hxzg⟩; have HZg := Lib.hid hzg; clear hzg; have hbtg_wzg := hbtg.ext (show Ext (w.alloc (.cells (⟨gk, gx, gd, gy, gka, gn, gkc, gca, gm, gcc⟩ : El).arr 26)) wzg by (repeat (first | exact ext_refl _ | assumption | refine ext_alloc ?_ _ | refine ext_drew ?_ | refine ext_set ?_ (by simp) _ | refine ext_trans ?_ (by assumption)))); obtain ⟨og0, og1, og2, og3, og4, og5⟩ := hbtg_wzg.six; cases bzg))
    all_goals (go_ret; exact ⟨rfl, by (repeat (first | exact ext_refl _ | assumption | refine ext_alloc ?_ _ | refine ext_drew ?_ | refine ext_set ?_ (by simp) _ | refine ext_trans ?_ (by assumption)))⟩)
  · skip
    by_cases hsz1 : 2147483647 < n
    · go_wp2_with (first
          | (go_at_call 4; refine (hZg.out _ (by (repeat (first | exact ext_refl _ | assumption | refine ext_alloc ?_ _ | refine ext_drew ?_ | refine ext_set ?_ (by simp) _ | refine ext_trans ?_ (by assumption))))).mono ?_; rintro r wzg ⟨bzg, rfl, hzg, hxzg⟩; have HZg := Lib.hid hzg; clear hzg; have hbtg_wzg := hbtg.ext (show Ext (w.alloc (.cells (⟨gk, gx, gd, gy, gka, gn, gkc, gca, gm, gcc⟩ : El).arr 26)) wzg by (repeat (first | exact ext_refl _ | assumption | refine ext_alloc ?_ _ | refine ext_drew ?_ | refine ext_set ?_ (by simp) _ | refine ext_trans ?_ (by assumption)))); obtain ⟨og0, og1, og2, og3, og4, og5⟩ := hbtg_wzg.six; cases bzg))
      all_goals (go_ret; exact ⟨rfl, by (repeat (first | exact ext_refl _ | assumption | refine ext_alloc ?_ _ | refine ext_drew ?_ | refine ext_set ?_ (by simp) _ | refine ext_trans ?_ (by assumption)))⟩)
    · skip
      go_wp2_with (first
        | (go_at_call 4; refine (hZg.out _ (by (repeat (first | exact ext_refl _ | assumption | refine ext_alloc ?_ _ | refine ext_drew ?_ | refine ext_set ?_ (by simp) _ | refine ext_trans ?_ (by assumption))))).mono ?_; rintro r wzg ⟨bzg, rfl, hzg, hxzg⟩; have HZg := Lib.hid hzg; clear hzg; have hbtg_wzg := hbtg.ext (show Ext (w.alloc (.cells (⟨gk, gx, gd, gy, gka, gn, gkc, gca, gm, gcc⟩ : El).arr 26)) wzg by (repeat (first | exact ext_refl _ | assumption | refine ext_alloc ?_ _ | refine ext_drew ?_ | refine ext_set ?_ (by simp) _ | refine ext_trans ?_ (by assumption)))); obtain ⟨og0, og1, og2, og3, og4, og5⟩ := hbtg_wzg.six; cases bzg)
        | (go_at_call 5; refine (scalar_yes _ _ _ (hTg.out _ (by (repeat (first | exact ext_refl _ | assumption | refine ext_alloc ?_ _ | refine ext_drew ?_ | refine ext_set ?_ (by simp) _ | refine ext_trans ?_ (by assumption)))))).mono ?_; rintro r wscg ⟨bscg, rfl, hscg, hxscg⟩; have Hscg := Lib.hid hscg; clear hscg; have hbtg_wscg := hbtg.ext (show Ext (w.alloc (.cells (⟨gk, gx, gd, gy, gka, gn, gkc, gca, gm, gcc⟩ : El).arr 26)) wscg by (repeat (first | exact ext_refl _ | assumption | refine ext_alloc ?_ _ | refine ext_drew ?_ | refine ext_set ?_ (by simp) _ | refine ext_trans ?_ (by assumption)))); obtain ⟨og0, og1, og2, og3, og4, og5⟩ := hbtg_wscg.six; cases bscg)
        | (go_at_call 6; refine (hD.out _ (by (repeat (first | exact ext_refl _ | assumption | refine ext_alloc ?_ _ | refine ext_drew ?_ | refine ext_set ?_ (by simp) _ | refine ext_trans ?_ (by assumption))))).mono ?_; rintro r wdis ⟨bdis, rfl, hdis, hxdis⟩; have Hdis := Lib.hid hdis; clear hdis; have hbtg_wdis := hbtg.ext (show Ext (w.alloc (.cells (⟨gk, gx, gd, gy, gka, gn, gkc, gca, gm, gcc⟩ : El).arr 26)) wdis by (repeat (first | exact ext_refl _ | assumption | refine ext_alloc ?_ _ | refine ext_drew ?_ | refine ext_set ?_ (by simp) _ | refine ext_trans ?_ (by assumption)))); obtain ⟨og0, og1, og2, og3, og4, og5⟩ := hbtg_wdis.six; cases bdis)
        | (go_at_call 7; refine (field_any f (by omega) _).mono ?_; rintro r wfdf ⟨bfdf, rfl, hfdf, hxfdf⟩; have Hfdf := Lib.hid hfdf; clear hfdf; have hbtg_wfdf := hbtg.ext (show Ext (w.alloc (.cells (⟨gk, gx, gd, gy, gka, gn, gkc, gca, gm, gcc⟩ : El).arr 26)) wfdf by (repeat (first | exact ext_refl _ | assumption | refine ext_alloc ?_ _ | refine ext_drew ?_ | refine ext_set ?_ (by simp) _ | refine ext_trans ?_ (by assumption)))); obtain ⟨og0, og1, og2, og3, og4, og5⟩ := hbtg_wfdf.six; cases bfdf)
        | (go_at_call 8; refine (hF.out _ (by (repeat (first | exact ext_refl _ | assumption | refine ext_alloc ?_ _ | refine ext_drew ?_ | refine ext_set ?_ (by simp) _ | refine ext_trans ?_ (by assumption))))).mono ?_; rintro r wff ⟨bff, rfl, hff, hxff⟩; have Hff := Lib.hid hff; clear hff; have hbtg_wff := hbtg.ext (show Ext (w.alloc (.cells (⟨gk, gx, gd, gy, gka, gn, gkc, gca, gm, gcc⟩ : El).arr 26)) wff by (repeat (first | exact ext_refl _ | assumption | refine ext_alloc ?_ _ | refine ext_drew ?_ | refine ext_set ?_ (by simp) _ | refine ext_trans ?_ (by assumption)))); obtain ⟨og0, og1, og2, og3, og4, og5⟩ := hbtg_wff.six; cases bff))
      all_goals (try (go_ret; exact ⟨rfl, by (repeat (first | exact ext_refl _ | assumption | refine ext_alloc ?_ _ | refine ext_drew ?_ | refine ext_set ?_ (by simp) _ | refine ext_trans ?_ (by assumption)))⟩))
      have hff := Hff.out (by trivial)
      have hgS := Hscg.out (by trivial)
      have hDD := Lib.hid (Hdis.out (by trivial))
      have hfit := Lib.hid (matchTurned_same f gt hgS hff)
      have hx0 : Ext (w.alloc (.cells (⟨gk, gx, gd, gy, gka, gn, gkc, gca, gm, gcc⟩ : El).arr 26)) wff := by (repeat (first | exact ext_refl _ | assumption | refine ext_alloc ?_ _ | refine ext_drew ?_ | refine ext_set ?_ (by simp) _ | refine ext_trans ?_ (by assumption)))
      have hx1 : Ext w wff := by (repeat (first | exact ext_refl _ | assumption | refine ext_alloc ?_ _ | refine ext_drew ?_ | refine ext_set ?_ (by simp) _ | refine ext_trans ?_ (by assumption)))
      refine (hQ.out wff hx1 hgS (by unfold maxLen; omega) hff).mono ?_
      rintro r w3 ⟨e, rfl, hT, hx3⟩
      simp only [El.val]
      go_upto_region 6 with fail
      have hb3 : Box (w3.alloc (.cells e.arr 26)) w3.heap.size e.arr 26 := Box.at rfl _ _
      have hxa := ext_alloc (ext_trans hx0 hx3) (.cells e.arr 26)
      have hxb : Ext w (w3.alloc (.cells e.arr 26)) := ext_alloc (ext_trans hx1 hx3) _
      have hT3 := Lib.hid (hT.ext (ext_alloc (ext_refl w3) (.cells e.arr 26)))
      have hb3l : w3.heap.size < (w3.alloc (.cells e.arr 26)).heap.size := hb3.lt
      have hwl : w.heap.size < w3.heap.size := by
        have h1 := (ext_trans hx0 hx3).sz
        simp at h1
        omega
      clear hT
      generalize w3.alloc (.cells e.arr 26) = w4 at hb3 hxa hxb hT3 hb3l ⊢
      generalize w3.heap.size = b3 at hb3 hb3l hwl ⊢
      refine wp_region_tree (fun w' => Six w' w.heap.size (⟨gk, gx, gd, gy, gka, gn, gkc, gca, gm, gcc⟩ : El)) [0, 1, 2, 5, 6, 7] (.held 0 (.held 1 (.held 2 (.two 3 (.two 4 (.held 5 (.held 6 (.held 7 (.one 8 (.one 9 (.one 10 (.done))))))) 8 (.one 4 (.held 5 (.held 6 (.held 7 (.one 9 (.one 10 (.done)))))))) 8 (.one 3 (.one 4 (.held 5 (.held 6 (.held 7 (.one 9 (.one 10 (.done)))))))))))) (by kernel_rfl) (by kernel_rfl) (fun d _ _ _ _ h => by cases d <;> exact h) (by kernel_rfl) ?_
      have hS : (fun w' => Six w' w.heap.size (⟨gk, gx, gd, gy, gka, gn, gkc, gca, gm, gcc⟩ : El)) _ := (hbtg.ext hxa).Six
      (apply tr_held rfl (by assumption) rfl; (focus ((intro w' hS'); go_simp; (try with_reducible rfl))); (try simp only [Act.put, List.setIfInBounds_toArray, List.set_cons_zero, List.set_cons_succ]))
      (apply tr_held rfl (by assumption) rfl; (focus ((intro w' hS'); go_simp; (try with_reducible rfl))); (try simp only [Act.put, List.setIfInBounds_toArray, List.set_cons_zero, List.set_cons_succ]))
      (apply tr_held rfl (by assumption) rfl; (focus ((intro w' hS'); go_simp; (try with_reducible rfl))); (try simp only [Act.put, List.setIfInBounds_toArray, List.set_cons_zero, List.set_cons_succ]))
      refine tr_two ?_ ?_
      · skip
        (apply tr_loud rfl rfl; intro K hK; go_simp)
        refine (back_any a n c ps _ (hPs.out _ (ext_trans hxb ((ext_drew (ext_refl w4))))) (by omega)).mono ?_
        rintro r wk ⟨ba, bc, rfl, hBP, hxk⟩
        have hS1 : (fun w' => Six w' w.heap.size (⟨gk, gx, gd, gy, gka, gn, gkc, gca, gm, gcc⟩ : El)) wk := Six.ext hxk hS
        refine hK _ _ (fun _ => hS1) ?_
        clear hK K
        try simp only [El.val]
        (try simp only [Act.put, List.setIfInBounds_toArray, List.set_cons_zero, List.set_cons_succ])
        refine tr_two ?_ ?_
        · skip
          (apply tr_loud rfl rfl; intro K hK; go_simp)
          refine (match__any ba n bc ps.reverse _ f (by unfold maxLen; omega) (⟨gk, gx, gd, gy, gka, gn, gkc, gca, gm, gcc⟩ : El) gt (hTg.out _ (ext_trans hxb (ext_trans ((ext_drew (ext_refl w4))) hxk))) hgS (whole_of (fits_back hff) (by rw [kindL_dec]; decide)) (whole_of (fits_back hff) (by rw [kindL_dec]; decide)) (hBP.ext (ext_refl _))).mono ?_
          rintro r wm ⟨e2, rfl, hT2, hxm⟩
          have hS2 : (fun w' => Six w' w.heap.size (⟨gk, gx, gd, gy, gka, gn, gkc, gca, gm, gcc⟩ : El)) wm := Six.ext hxm hS1
          refine hK _ _ (fun _ => hS2) ?_
          clear hK K
          try simp only [El.val]
          (try simp only [Act.put, List.setIfInBounds_toArray, List.set_cons_zero, List.set_cons_succ])
          (apply tr_held rfl (by assumption) rfl; (focus ((intro w' hS'); go_simp; (try with_reducible rfl))); (try simp only [Act.put, List.setIfInBounds_toArray, List.set_cons_zero, List.set_cons_succ]))
          (apply tr_held rfl (by assumption) rfl; (focus ((intro w' hS'); go_simp; (try with_reducible rfl))); (try simp only [Act.put, List.setIfInBounds_toArray, List.set_cons_zero, List.set_cons_succ]))
          (apply tr_held rfl (by assumption) rfl; (focus ((intro w' hS'); go_simp; (try with_reducible rfl))); (try simp only [Act.put, List.setIfInBounds_toArray, List.set_cons_zero, List.set_cons_succ]))
          (apply tr_loud rfl rfl; intro K hK; go_simp)
          have hxal : Ext wm (wm.alloc (.cells #[.int .i64 0, .string ⟨#[]⟩, .float .f64 0, .bool false, .slice none 0 0, .slice none 0 0] 26)) := ext_alloc (ext_refl _) _
          have hbA : Box (wm.alloc (.cells #[.int .i64 0, .string ⟨#[]⟩, .float .f64 0, .bool false, .slice none 0 0, .slice none 0 0] 26)) wm.heap.size (El.arr El0) 26 := Box.at rfl _ _
          have hsA : w4.heap.size ≤ wm.heap.size := ((ext_trans (ext_trans ((ext_drew (ext_refl w4))) hxk) hxm) : Ext w4 wm).sz
          have hsB := hbA.lt
          have hS3 : (fun w' => Six w' w.heap.size (⟨gk, gx, gd, gy, gka, gn, gkc, gca, gm, gcc⟩ : El)) (wm.alloc (.cells #[.int .i64 0, .string ⟨#[]⟩, .float .f64 0, .bool false, .slice none 0 0, .slice none 0 0] 26)) := Six.ext hxal hS2
          refine hK _ _ (fun _ => hS3) ?_
          clear hK K
          try simp only [El.val]
          (try simp only [Act.put, List.setIfInBounds_toArray, List.set_cons_zero, List.set_cons_succ])
          obtain ⟨p0, p1, p2, p3, p4, p5⟩ := hbA.six
          have f0 := hbA.free 0
          have f1 := hbA.free 1
          have f2 := hbA.free 2
          have f3 := hbA.free 3
          have f4 := hbA.free 4
          have f5 := hbA.free 5
          have hxn : Ext wm (wm.alloc (.cells #[.int .i64 e2.k, .string e2.x, .float .f64 e2.d, .bool e2.y, .slice e2.ka e2.n e2.kc, .slice e2.ca e2.m e2.cc] 26)) := ext_alloc (ext_refl _) _
          (apply tr_loud rfl rfl; intro K hK; go_simp)
          have hS4 : (fun w' => Six w' w.heap.size (⟨gk, gx, gd, gy, gka, gn, gkc, gca, gm, gcc⟩ : El)) (wm.alloc (.cells #[.int .i64 e2.k, .string e2.x, .float .f64 e2.d, .bool e2.y, .slice e2.ka e2.n e2.kc, .slice e2.ca e2.m e2.cc] 26)) := Six.ext hxn hS2
          refine hK _ _ (fun _ => hS4) ?_
          clear hK K
          (try simp only [Act.put, List.setIfInBounds_toArray, List.set_cons_zero, List.set_cons_succ])
          (apply tr_loud rfl rfl; intro K hK; go_simp)
          refine hK _ _ (fun _ => hS4) ?_
          clear hK K
          (try simp only [Act.put, List.setIfInBounds_toArray, List.set_cons_zero, List.set_cons_succ])
          refine tr_end ?_
          have hxW : Ext w4 (wm.alloc (.cells #[.int .i64 e2.k, .string e2.x, .float .f64 e2.d, .bool e2.y, .slice e2.ka e2.n e2.kc, .slice e2.ca e2.m e2.cc] 26)) := ext_trans (ext_trans (ext_trans ((ext_drew (ext_refl w4))) hxk) hxm) hxn
          have hbA2 : Box (wm.alloc (.cells #[.int .i64 e2.k, .string e2.x, .float .f64 e2.d, .bool e2.y, .slice e2.ka e2.n e2.kc, .slice e2.ca e2.m e2.cc] 26)) wm.heap.size e2.arr 26 := Box.at rfl _ _
          obtain ⟨q0, q1, q2, q3, q4, q5⟩ := hbA2.six
          obtain ⟨s0, s1, s2, s3, s4, s5⟩ := (hb3.ext hxW).six
          have hTb := (hT2.ext hxn).any
          simp only [last_back hDD.out] at hTb
          have hSm := Lib.hid (same_any (S := fun _ => True) _ _ e e2 _ (hT3.out.ext hxW).any hTb)
          clear hTb
          go_wp2_with (go_at_call 11; refine hSm.out.mono ?_; rintro r w8 ⟨rfl, hx12⟩; rw [hfit.out])
          go_ret
          exact ⟨rfl, ext_trans (ext_trans hxb hxW) hx12⟩
        · skip
          (apply tr_loud rfl rfl; intro K hK; go_simp)
          have hxal : Ext wk (wk.alloc (.cells #[.int .i64 0, .string ⟨#[]⟩, .float .f64 0, .bool false, .slice none 0 0, .slice none 0 0] 26)) := ext_alloc (ext_refl _) _
          have hbA : Box (wk.alloc (.cells #[.int .i64 0, .string ⟨#[]⟩, .float .f64 0, .bool false, .slice none 0 0, .slice none 0 0] 26)) wk.heap.size (El.arr El0) 26 := Box.at rfl _ _
          have hsA : w4.heap.size ≤ wk.heap.size := ((ext_trans ((ext_drew (ext_refl w4))) hxk) : Ext w4 wk).sz
          have hsB := hbA.lt
          have hS2 : (fun w' => Six w' w.heap.size (⟨gk, gx, gd, gy, gka, gn, gkc, gca, gm, gcc⟩ : El)) (wk.alloc (.cells #[.int .i64 0, .string ⟨#[]⟩, .float .f64 0, .bool false, .slice none 0 0, .slice none 0 0] 26)) := Six.ext hxal hS1
          refine hK _ _ (fun _ => hS2) ?_
          clear hK K
          try simp only [El.val]
          (try simp only [Act.put, List.setIfInBounds_toArray, List.set_cons_zero, List.set_cons_succ])
          (apply tr_loud rfl rfl; intro K hK; go_simp)
          refine (match__any ba n bc ps.reverse _ f (by unfold maxLen; omega) (⟨gk, gx, gd, gy, gka, gn, gkc, gca, gm, gcc⟩ : El) gt (hTg.out _ (ext_trans hxb (ext_trans (ext_trans ((ext_drew (ext_refl w4))) hxk) hxal))) hgS (whole_of (fits_back hff) (by rw [kindL_dec]; decide)) (whole_of (fits_back hff) (by rw [kindL_dec]; decide)) (hBP.ext (hxal))).mono ?_
          rintro r wm ⟨e2, rfl, hT2, hxm⟩
          have hS3 : (fun w' => Six w' w.heap.size (⟨gk, gx, gd, gy, gka, gn, gkc, gca, gm, gcc⟩ : El)) wm := Six.ext hxm hS2
          refine hK _ _ (fun _ => hS3) ?_
          clear hK K
          try simp only [El.val]
          (try simp only [Act.put, List.setIfInBounds_toArray, List.set_cons_zero, List.set_cons_succ])
          (apply tr_held rfl (by assumption) rfl; (focus ((intro w' hS'); go_simp; (try with_reducible rfl))); (try simp only [Act.put, List.setIfInBounds_toArray, List.set_cons_zero, List.set_cons_succ]))
          (apply tr_held rfl (by assumption) rfl; (focus ((intro w' hS'); go_simp; (try with_reducible rfl))); (try simp only [Act.put, List.setIfInBounds_toArray, List.set_cons_zero, List.set_cons_succ]))
          (apply tr_held rfl (by assumption) rfl; (focus ((intro w' hS'); go_simp; (try with_reducible rfl))); (try simp only [Act.put, List.setIfInBounds_toArray, List.set_cons_zero, List.set_cons_succ]))
          have hxW : Ext w4 wm := (ext_trans (ext_trans (ext_trans ((ext_drew (ext_refl w4))) hxk) hxal) hxm)
          have hbAc := hbA.ext (hxm)
          obtain ⟨p0, p1, p2, p3, p4, p5⟩ := hbAc.six
          have f0 := hbAc.free 0
          have f1 := hbAc.free 1
          have f2 := hbAc.free 2
          have f3 := hbAc.free 3
          have f4 := hbAc.free 4
          have f5 := hbAc.free 5
          (apply tr_loud rfl rfl; intro K hK; go_simp)
          have hS4 : (fun w' => Six w' w.heap.size (⟨gk, gx, gd, gy, gka, gn, gkc, gca, gm, gcc⟩ : El)) (sto wm wk.heap.size e2) := ((hbtg.ext (ext_trans hxa hxW)).sto6' (b' := wk.heap.size) (by omega) _ _ _ _ _ _).Six
          refine hK _ _ (fun _ => hS4) ?_
          clear hK K
          (try simp only [Act.put, List.setIfInBounds_toArray, List.set_cons_zero, List.set_cons_succ])
          (apply tr_loud rfl rfl; intro K hK; go_simp)
          refine hK _ _ (fun _ => hS4) ?_
          clear hK K
          (try simp only [Act.put, List.setIfInBounds_toArray, List.set_cons_zero, List.set_cons_succ])
          refine tr_end ?_
          have hbA2 := hbAc.sto e2
          have hb32 := (hb3.ext hxW).sto6' (b' := wk.heap.size) (by omega) (.int .i64 e2.k) (.string e2.x) (.float .f64 e2.d) (.bool e2.y) (.slice e2.ka e2.n e2.kc) (.slice e2.ca e2.m e2.cc)
          have hTa := TreeAt.keep (S' := fun _ => True) (fun _ _ _ => trivial) (keeps_sto (S := fun b => b < w4.heap.size) (b := wk.heap.size) wm (show ¬ wk.heap.size < w4.heap.size by omega) e2) _ ((hT3.out.to (S' := fun b => b < w4.heap.size) (fun _ _ h => h)).ext hxW)
          have hTb := TreeAt.keep (S' := fun _ => True) (fun _ _ _ => trivial) (keeps_sto (S := fun b => (wk.alloc (.cells #[.int .i64 0, .string ⟨#[]⟩, .float .f64 0, .bool false, .slice none 0 0, .slice none 0 0] 26)).heap.size + 1 ≤ b) (b := wk.heap.size) wm (show ¬ ((wk.alloc (.cells #[.int .i64 0, .string ⟨#[]⟩, .float .f64 0, .bool false, .slice none 0 0, .slice none 0 0] 26)).heap.size + 1 ≤ wk.heap.size) by have := ((ext_refl _) : Ext (wk.alloc (.cells #[.int .i64 0, .string ⟨#[]⟩, .float .f64 0, .bool false, .slice none 0 0, .slice none 0 0] 26)) (wk.alloc (.cells #[.int .i64 0, .string ⟨#[]⟩, .float .f64 0, .bool false, .slice none 0 0, .slice none 0 0] 26))).sz; omega) e2) _ ((hT2.to (S' := fun b => (wk.alloc (.cells #[.int .i64 0, .string ⟨#[]⟩, .float .f64 0, .bool false, .slice none 0 0, .slice none 0 0] 26)).heap.size + 1 ≤ b) (fun _ h _ => h)).ext (ext_refl _))
          have hxF : Ext w (sto wm wk.heap.size e2) := ext_sto6 (ext_trans hxb hxW) (by omega) _ _ _ _ _ _
          generalize hWF : ((((((wm.setCell ⟨wk.heap.size, 0, none⟩ (.int .i64 e2.k)).setCell ⟨wk.heap.size, 1, none⟩ (.string e2.x)).setCell ⟨wk.heap.size, 2, none⟩ (.float .f64 e2.d)).setCell ⟨wk.heap.size, 3, none⟩ (.bool e2.y)).setCell ⟨wk.heap.size, 4, none⟩ (.slice e2.ka e2.n e2.kc)).setCell ⟨wk.heap.size, 5, none⟩ (.slice e2.ca e2.m e2.cc)) = wF
          have e9 : sto wm wk.heap.size e2 = wF := hWF
          have hb32 : Box (sto wm wk.heap.size e2) b3 e.arr 26 := hb32
          rw [e9] at hbA2 hb32 hTa hTb hxF
          clear hWF e9
          obtain ⟨q0, q1, q2, q3, q4, q5⟩ := hbA2.six
          obtain ⟨s0, s1, s2, s3, s4, s5⟩ := hb32.six
          simp only [last_back hDD.out] at hTb
          have hSm := Lib.hid (same_any (S := fun _ => True) _ _ e e2 _ hTa hTb)
          clear hTa hTb
          go_wp2_with (go_at_call 11; refine hSm.out.mono ?_; rintro r w8 ⟨rfl, hx12⟩; rw [hfit.out])
          go_ret
          exact ⟨rfl, ext_trans hxF hx12⟩
      · skip
        (apply tr_loud rfl rfl; intro K hK; go_simp)
        have hxal : Ext w4.drew (w4.drew.alloc (.cells #[.int .i64 0, .string ⟨#[]⟩, .float .f64 0, .bool false, .slice none 0 0, .slice none 0 0] 26)) := ext_alloc (ext_refl _) _
        have hbA : Box (w4.drew.alloc (.cells #[.int .i64 0, .string ⟨#[]⟩, .float .f64 0, .bool false, .slice none 0 0, .slice none 0 0] 26)) w4.heap.size (El.arr El0) 26 := Box.at rfl _ _
        have hsA : w4.heap.size ≤ w4.heap.size := (((ext_drew (ext_refl w4))) : Ext w4 w4.drew).sz
        have hsB := hbA.lt
        have hS1 : (fun w' => Six w' w.heap.size (⟨gk, gx, gd, gy, gka, gn, gkc, gca, gm, gcc⟩ : El)) (w4.drew.alloc (.cells #[.int .i64 0, .string ⟨#[]⟩, .float .f64 0, .bool false, .slice none 0 0, .slice none 0 0] 26)) := Six.ext hxal hS
        refine hK _ _ (fun _ => hS1) ?_
        clear hK K
        try simp only [El.val]
        (try simp only [Act.put, List.setIfInBounds_toArray, List.set_cons_zero, List.set_cons_succ])
        (apply tr_loud rfl rfl; intro K hK; go_simp)
        refine (back_any a n c ps _ (hPs.out _ (ext_trans hxb (ext_trans ((ext_drew (ext_refl w4))) hxal))) (by omega)).mono ?_
        rintro r wk ⟨ba, bc, rfl, hBP, hxk⟩
        have hS2 : (fun w' => Six w' w.heap.size (⟨gk, gx, gd, gy, gka, gn, gkc, gca, gm, gcc⟩ : El)) wk := Six.ext hxk hS1
        refine hK _ _ (fun _ => hS2) ?_
        clear hK K
        try simp only [El.val]
        (try simp only [Act.put, List.setIfInBounds_toArray, List.set_cons_zero, List.set_cons_succ])
        (apply tr_loud rfl rfl; intro K hK; go_simp)
        refine (match__any ba n bc ps.reverse _ f (by unfold maxLen; omega) (⟨gk, gx, gd, gy, gka, gn, gkc, gca, gm, gcc⟩ : El) gt (hTg.out _ (ext_trans hxb (ext_trans (ext_trans ((ext_drew (ext_refl w4))) hxal) hxk))) hgS (whole_of (fits_back hff) (by rw [kindL_dec]; decide)) (whole_of (fits_back hff) (by rw [kindL_dec]; decide)) (hBP.ext (ext_refl _))).mono ?_
        rintro r wm ⟨e2, rfl, hT2, hxm⟩
        have hS3 : (fun w' => Six w' w.heap.size (⟨gk, gx, gd, gy, gka, gn, gkc, gca, gm, gcc⟩ : El)) wm := Six.ext hxm hS2
        refine hK _ _ (fun _ => hS3) ?_
        clear hK K
        try simp only [El.val]
        (try simp only [Act.put, List.setIfInBounds_toArray, List.set_cons_zero, List.set_cons_succ])
        (apply tr_held rfl (by assumption) rfl; (focus ((intro w' hS'); go_simp; (try with_reducible rfl))); (try simp only [Act.put, List.setIfInBounds_toArray, List.set_cons_zero, List.set_cons_succ]))
        (apply tr_held rfl (by assumption) rfl; (focus ((intro w' hS'); go_simp; (try with_reducible rfl))); (try simp only [Act.put, List.setIfInBounds_toArray, List.set_cons_zero, List.set_cons_succ]))
        (apply tr_held rfl (by assumption) rfl; (focus ((intro w' hS'); go_simp; (try with_reducible rfl))); (try simp only [Act.put, List.setIfInBounds_toArray, List.set_cons_zero, List.set_cons_succ]))
        have hxW : Ext w4 wm := (ext_trans (ext_trans (ext_trans ((ext_drew (ext_refl w4))) hxal) hxk) hxm)
        have hbAc := hbA.ext (ext_trans (hxk) hxm)
        obtain ⟨p0, p1, p2, p3, p4, p5⟩ := hbAc.six
        have f0 := hbAc.free 0
        have f1 := hbAc.free 1
        have f2 := hbAc.free 2
        have f3 := hbAc.free 3
        have f4 := hbAc.free 4
        have f5 := hbAc.free 5
        (apply tr_loud rfl rfl; intro K hK; go_simp)
        have hS4 : (fun w' => Six w' w.heap.size (⟨gk, gx, gd, gy, gka, gn, gkc, gca, gm, gcc⟩ : El)) (sto wm w4.heap.size e2) := ((hbtg.ext (ext_trans hxa hxW)).sto6' (b' := w4.heap.size) (by omega) _ _ _ _ _ _).Six
        refine hK _ _ (fun _ => hS4) ?_
        clear hK K
        (try simp only [Act.put, List.setIfInBounds_toArray, List.set_cons_zero, List.set_cons_succ])
        (apply tr_loud rfl rfl; intro K hK; go_simp)
        refine hK _ _ (fun _ => hS4) ?_
        clear hK K
        (try simp only [Act.put, List.setIfInBounds_toArray, List.set_cons_zero, List.set_cons_succ])
        refine tr_end ?_
        have hbA2 := hbAc.sto e2
        have hb32 := (hb3.ext hxW).sto6' (b' := w4.heap.size) (by omega) (.int .i64 e2.k) (.string e2.x) (.float .f64 e2.d) (.bool e2.y) (.slice e2.ka e2.n e2.kc) (.slice e2.ca e2.m e2.cc)
        have hTa := TreeAt.keep (S' := fun _ => True) (fun _ _ _ => trivial) (keeps_sto (S := fun b => b < w4.heap.size) (b := w4.heap.size) wm (show ¬ w4.heap.size < w4.heap.size by omega) e2) _ ((hT3.out.to (S' := fun b => b < w4.heap.size) (fun _ _ h => h)).ext hxW)
        have hTb := TreeAt.keep (S' := fun _ => True) (fun _ _ _ => trivial) (keeps_sto (S := fun b => wk.heap.size + 1 ≤ b) (b := w4.heap.size) wm (show ¬ (wk.heap.size + 1 ≤ w4.heap.size) by have := ((hxk) : Ext (w4.drew.alloc (.cells #[.int .i64 0, .string ⟨#[]⟩, .float .f64 0, .bool false, .slice none 0 0, .slice none 0 0] 26)) wk).sz; omega) e2) _ ((hT2.to (S' := fun b => wk.heap.size + 1 ≤ b) (fun _ h _ => h)).ext (ext_refl _))
        have hxF : Ext w (sto wm w4.heap.size e2) := ext_sto6 (ext_trans hxb hxW) (by omega) _ _ _ _ _ _
        generalize hWF : ((((((wm.setCell ⟨w4.heap.size, 0, none⟩ (.int .i64 e2.k)).setCell ⟨w4.heap.size, 1, none⟩ (.string e2.x)).setCell ⟨w4.heap.size, 2, none⟩ (.float .f64 e2.d)).setCell ⟨w4.heap.size, 3, none⟩ (.bool e2.y)).setCell ⟨w4.heap.size, 4, none⟩ (.slice e2.ka e2.n e2.kc)).setCell ⟨w4.heap.size, 5, none⟩ (.slice e2.ca e2.m e2.cc)) = wF
        have e9 : sto wm w4.heap.size e2 = wF := hWF
        have hb32 : Box (sto wm w4.heap.size e2) b3 e.arr 26 := hb32
        rw [e9] at hbA2 hb32 hTa hTb hxF
        clear hWF e9
        obtain ⟨q0, q1, q2, q3, q4, q5⟩ := hbA2.six
        obtain ⟨s0, s1, s2, s3, s4, s5⟩ := hb32.six
        simp only [last_back hDD.out] at hTb
        have hSm := Lib.hid (same_any (S := fun _ => True) _ _ e e2 _ hTa hTb)
        clear hTa hTb
        go_wp2_with (go_at_call 11; refine hSm.out.mono ?_; rintro r w8 ⟨rfl, hx12⟩; rw [hfit.out])
        go_ret
        exact ⟨rfl, ext_trans hxF hx12⟩
end Go.Proofs.Ytfkkagokpmldmaa
