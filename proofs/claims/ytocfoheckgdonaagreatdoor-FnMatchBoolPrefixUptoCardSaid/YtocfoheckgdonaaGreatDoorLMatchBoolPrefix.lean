/-
  The law of a query of a field (MatchBoolPrefix): what the builder gives is what is told.
-/
import Derived.Test.YtocfoheckgdonaaGreatDoorIMatchBoolPrefix
import Derived.Test.YtocfoheckgdonaaGreatDoorVr
import Derived.Test.YtocfoheckgdonaaGreatDoorLo
namespace Go.Proofs.YtocfoheckgdonaaGreatDoor
open Go.RowKit

abbrev sMatchBoolPrefix : ByteArray := ⟨#[77, 97, 116, 99, 104, 66, 111, 111, 108, 80, 114, 101, 102, 105, 120]⟩
abbrev tMatchBoolPrefix : ByteArray := ⟨#[97, 110, 97, 108, 121, 122, 101, 114, 32, 116, 44, 98, 111, 111, 115, 116, 32, 110, 44, 102, 117, 122, 122, 105, 110, 101, 115, 115, 32, 116, 44, 102, 117, 122, 122, 121, 95, 114, 101, 119, 114, 105, 116, 101, 32, 116, 44, 102, 117, 122, 122, 121, 95, 116, 114, 97, 110, 115, 112, 111, 115, 105, 116, 105, 111, 110, 115, 32, 98, 44, 109, 97, 120, 95, 101, 120, 112, 97, 110, 115, 105, 111, 110, 115, 32, 119, 44, 109, 105, 110, 105, 109, 117, 109, 95, 115, 104, 111, 117, 108, 100, 95, 109, 97, 116, 99, 104, 32, 116, 44, 111, 112, 101, 114, 97, 116, 111, 114, 32, 116, 44, 112, 114, 101, 102, 105, 120, 95, 108, 101, 110, 103, 116, 104, 32, 119]⟩
abbrev rMatchBoolPrefix : List (ByteArray × ByteArray) := [(s_analyzer, ⟨#[116]⟩), (s_boost, ⟨#[110]⟩), (s_fuzziness, ⟨#[116]⟩), (s_fuzzy_rewrite, ⟨#[116]⟩), (s_fuzzy_transpositions, ⟨#[98]⟩), (s_max_expansions, ⟨#[119]⟩), (s_minimum_should_match, ⟨#[116]⟩), (s_operator, ⟨#[116]⟩), (s_prefix_length, ⟨#[119]⟩)]
set_option maxHeartbeats 2000000 in
theorem table_matchBoolPrefix (w : World) : Calls Tryz.prog 128 #[.string sMatchBoolPrefix] w fun r w' => r = .returned (.string tMatchBoolPrefix) ∧ w' = w := by
  go_enter Tryz.func128, Tryz.ntmps128
  go_wp2
  go_ret
  exact ⟨rfl, rfl⟩
set_option maxRecDepth 20000 in
theorem rows_matchBoolPrefix (w : World) : Calls Tryz.prog 120 #[.string sMatchBoolPrefix] w fun r w' => ∃ v, r = .returned v ∧ Own2 w' w.heap.size v rMatchBoolPrefix ∧ Ext w w' :=
  rows_any sMatchBoolPrefix tMatchBoolPrefix w table_matchBoolPrefix 12 (by decide) (by decide)
abbrev matchBoolPrefix_A (gt : T) (ps : List (ByteArray × T)) : List (ByteArray × J) := [(s_query, jOf gt)] ++ jT s_analyzer (lastOf ps s_analyzer) ++ jT s_minimum_should_match (lastOf ps s_minimum_should_match) ++ jT s_operator (lastOf ps s_operator) ++ jT s_fuzziness (lastOf ps s_fuzziness) ++ jW s_prefix_length (lastOf ps s_prefix_length) ++ jW s_max_expansions (lastOf ps s_max_expansions) ++ jY s_fuzzy_transpositions (lastOf ps s_fuzzy_transpositions) ++ jT s_fuzzy_rewrite (lastOf ps s_fuzzy_rewrite) ++ jN s_boost (lastOf ps s_boost)
abbrev matchBoolPrefix_B (gt : T) (ps : List (ByteArray × T)) : List (ByteArray × T) := paramsL rMatchBoolPrefix ps ++ [(s_query, gt)]
theorem matchBoolPrefix_list (gt : T) (hgS : scalarT gt = true) {ps : List (ByteArray × T)} (hF : FitsP rMatchBoolPrefix ps) : SameL (jTree (matchBoolPrefix_A gt ps)) (matchBoolPrefix_B gt ps) := by
  let chs : Nat → Ch := fun i => match i with
    | 0 => (s_query, [(s_query, gt)])
    | 1 => (s_analyzer, (param ps (s_analyzer, ⟨#[116]⟩)).toList)
    | 2 => (s_minimum_should_match, (param ps (s_minimum_should_match, ⟨#[116]⟩)).toList)
    | 3 => (s_operator, (param ps (s_operator, ⟨#[116]⟩)).toList)
    | 4 => (s_fuzziness, (param ps (s_fuzziness, ⟨#[116]⟩)).toList)
    | 5 => (s_prefix_length, (param ps (s_prefix_length, ⟨#[119]⟩)).toList)
    | 6 => (s_max_expansions, (param ps (s_max_expansions, ⟨#[119]⟩)).toList)
    | 7 => (s_fuzzy_transpositions, (param ps (s_fuzzy_transpositions, ⟨#[98]⟩)).toList)
    | 8 => (s_fuzzy_rewrite, (param ps (s_fuzzy_rewrite, ⟨#[116]⟩)).toList)
    | 9 => (s_boost, (param ps (s_boost, ⟨#[110]⟩)).toList)
    | _ => (emptyS, [])
  have h0 : SameL (jTree ([(s_query, jOf gt)] ++ jT s_analyzer (lastOf ps s_analyzer) ++ jT s_minimum_should_match (lastOf ps s_minimum_should_match) ++ jT s_operator (lastOf ps s_operator) ++ jT s_fuzziness (lastOf ps s_fuzziness) ++ jW s_prefix_length (lastOf ps s_prefix_length) ++ jW s_max_expansions (lastOf ps s_max_expansions) ++ jY s_fuzzy_transpositions (lastOf ps s_fuzzy_transpositions) ++ jT s_fuzzy_rewrite (lastOf ps s_fuzzy_rewrite) ++ jN s_boost (lastOf ps s_boost))) ([(s_query, gt)] ++ (param ps (s_analyzer, ⟨#[116]⟩)).toList ++ (param ps (s_minimum_should_match, ⟨#[116]⟩)).toList ++ (param ps (s_operator, ⟨#[116]⟩)).toList ++ (param ps (s_fuzziness, ⟨#[116]⟩)).toList ++ (param ps (s_prefix_length, ⟨#[119]⟩)).toList ++ (param ps (s_max_expansions, ⟨#[119]⟩)).toList ++ (param ps (s_fuzzy_transpositions, ⟨#[98]⟩)).toList ++ (param ps (s_fuzzy_rewrite, ⟨#[116]⟩)).toList ++ (param ps (s_boost, ⟨#[110]⟩)).toList) := by
    unfold jTree
    simp only [List.map_append, List.append_assoc]
    exact SameL.append (SameL.one s_query (jOf_same hgS)) (SameL.append (jT_same hF (by rw [kindL_dec]; decide)) (SameL.append (jT_same hF (by rw [kindL_dec]; decide)) (SameL.append (jT_same hF (by rw [kindL_dec]; decide)) (SameL.append (jT_same hF (by rw [kindL_dec]; decide)) (SameL.append (jW_same hF (by rw [kindL_dec]; decide)) (SameL.append (jW_same hF (by rw [kindL_dec]; decide)) (SameL.append (jY_same hF (by rw [kindL_dec]; decide)) (SameL.append (jT_same hF (by rw [kindL_dec]; decide)) (jN_same hF (by rw [kindL_dec]; decide))))))))))
  have h1 := SameL.reorder (f := chs) [0, 1, 2, 3, 4, 5, 6, 7, 8, 9] [1, 9, 4, 8, 7, 6, 2, 3, 5, 0] (by decide) (show [s_query, s_analyzer, s_minimum_should_match, s_operator, s_fuzziness, s_prefix_length, s_max_expansions, s_fuzzy_transpositions, s_fuzzy_rewrite, s_boost].Nodup by decide) (by intro c hc; simp only [List.map_cons, List.map_nil, List.mem_cons, List.not_mem_nil, or_false] at hc; rcases hc with rfl | rfl | rfl | rfl | rfl | rfl | rfl | rfl | rfl | rfl <;> first | exact keys_param _ _ | exact keys_one _ _) (by simpa only [chs, flatC, List.map_cons, List.map_nil, List.flatMap_cons, List.flatMap_nil, List.append_nil, List.append_assoc] using h0)
  unfold matchBoolPrefix_B
  rw [params_cons, params_cons, params_cons, params_cons, params_cons, params_cons, params_cons, params_cons, params_cons, params_nil]
  refine (show SameL _ _ from ?_)
  simpa only [chs, flatC, List.map_cons, List.map_nil, List.flatMap_cons, List.flatMap_nil, List.append_nil, List.append_assoc, List.cons_append, List.nil_append] using h1
theorem matchBoolPrefix_keys (gt : T) (ps : List (ByteArray × T)) : KeysIn (jTree (matchBoolPrefix_A gt ps)) ([s_query] ++ ([s_analyzer] ++ ([s_minimum_should_match] ++ ([s_operator] ++ ([s_fuzziness] ++ ([s_prefix_length] ++ ([s_max_expansions] ++ ([s_fuzzy_transpositions] ++ ([s_fuzzy_rewrite] ++ ([s_boost])))))))))) := by
  unfold matchBoolPrefix_A jTree
  simp only [List.map_append, List.append_assoc]
  exact KeysIn.append (keys_one _ _) (KeysIn.append (keys_T _ _) (KeysIn.append (keys_T _ _) (KeysIn.append (keys_T _ _) (KeysIn.append (keys_T _ _) (KeysIn.append (keys_W _ _) (KeysIn.append (keys_W _ _) (KeysIn.append (keys_Y _ _) (KeysIn.append (keys_T _ _) (keys_N _ _)))))))))
theorem matchBoolPrefix_nomap (gt : T) (ps : List (ByteArray × T)) : NoMap (matchBoolPrefix_A gt ps) := NoMap.append (NoMap.append (NoMap.append (NoMap.append (NoMap.append (NoMap.append (NoMap.append (NoMap.append (NoMap.append (noMap_J _ _ (jOf_flat _)) (noMap_T _ _)) (noMap_T _ _)) (noMap_T _ _)) (noMap_T _ _)) (noMap_W _ _)) (noMap_W _ _)) (noMap_Y _ _)) (noMap_T _ _)) (noMap_N _ _)
theorem matchBoolPrefix_len (gt : T) (ps : List (ByteArray × T)) : (jTree (matchBoolPrefix_A gt ps)).length ≤ 100 := by
  have h1 := jT_len s_analyzer (lastOf ps s_analyzer)
  have h2 := jT_len s_minimum_should_match (lastOf ps s_minimum_should_match)
  have h3 := jT_len s_operator (lastOf ps s_operator)
  have h4 := jT_len s_fuzziness (lastOf ps s_fuzziness)
  have h5 := jW_len s_prefix_length (lastOf ps s_prefix_length)
  have h6 := jW_len s_max_expansions (lastOf ps s_max_expansions)
  have h7 := jY_len s_fuzzy_transpositions (lastOf ps s_fuzzy_transpositions)
  have h8 := jT_len s_fuzzy_rewrite (lastOf ps s_fuzzy_rewrite)
  have h9 := jN_len s_boost (lastOf ps s_boost)
  simp only [matchBoolPrefix_A, List.length_map, List.length_append, List.length_cons, List.length_nil]
  omega
theorem matchBoolPrefix_opsmall (gt : T) {ps : List (ByteArray × T)} (h : SmallAt ps) : OpSmall (jTree (matchBoolPrefix_A gt ps)) := by
  unfold matchBoolPrefix_A jTree
  simp only [List.map_append, List.append_assoc]
  exact OpSmall.append (opSmall_key (k := s_query) (keys_one _ _) (by decide)) (OpSmall.append (opSmall_key (k := s_analyzer) (keys_T _ _) (by decide)) (OpSmall.append (opSmall_key (k := s_minimum_should_match) (keys_T _ _) (by decide)) (OpSmall.append (opSmall_T h _) (OpSmall.append (opSmall_key (k := s_fuzziness) (keys_T _ _) (by decide)) (OpSmall.append (opSmall_key (k := s_prefix_length) (keys_W _ _) (by decide)) (OpSmall.append (opSmall_key (k := s_max_expansions) (keys_W _ _) (by decide)) (OpSmall.append (opSmall_key (k := s_fuzzy_transpositions) (keys_Y _ _) (by decide)) (OpSmall.append (opSmall_key (k := s_fuzzy_rewrite) (keys_T _ _) (by decide)) (opSmall_key (k := s_boost) (keys_N _ _) (by decide))))))))))
theorem matchBoolPrefix_bsmall (gt : T) {ps : List (ByteArray × T)} (h : SmallAt ps) : OpSmall (matchBoolPrefix_B gt ps) := OpSmall.append (opSmall_params h _) (opSmall_key (k := s_query) (keys_one _ _) (by decide))
theorem matchBoolPrefix_bkeys (gt : T) (ps : List (ByteArray × T)) : KeysIn (matchBoolPrefix_B gt ps) (rMatchBoolPrefix.map Prod.fst ++ [s_query]) := KeysIn.append (params_keys _ _) (keys_one _ _)
theorem matchBoolPrefix_bflat (gt : T) (hgS : scalarT gt = true) {ps : List (ByteArray × T)} (hF : FitsP rMatchBoolPrefix ps) : ∀ p ∈ matchBoolPrefix_B gt ps, p.2.kind ≠ 5 := fun p hp => by
  rcases List.mem_append.1 hp with hp | hp
  · exact params_flat hF p hp
  · simp at hp
    subst hp
    exact scalar_flat hgS
theorem matchBoolPrefix_blen (gt : T) (ps : List (ByteArray × T)) : (matchBoolPrefix_B gt ps).length ≤ 100 := by
  have h := params_len rMatchBoolPrefix ps
  simp only [matchBoolPrefix_B, List.length_append, List.length_cons, List.length_nil] at h ⊢
  omega
set_option maxHeartbeats 4000000 in
set_option maxRecDepth 20000 in
theorem matchBoolPrefix_law {S : Nat → Prop} (f : ByteArray) (ge : El) (gt : T) (a : Option Addr) (n c : Nat) (ps : List (ByteArray × T)) (w : World) (hgT : TreeAt S w ge gt) (h : PairsAt S w a n c ps) (hlw : ∀ s : ByteArray, s.size ≤ 1048576 → LowerAt lowS w s) (hsm : SmallAt ps) : Calls Tryz.prog 7 #[.string f, ge.val, .slice a n c] w fun r w' => r = .returned (.bool true) ∧ Ext w w' := by
  obtain ⟨gk, gx, gd, gy, gka, gn, gkc, gca, gm, gcc⟩ := ge
  have hnl := Nat.le_trans h.2.1 h.2.2.1
  unfold maxLen at hnl
  have hPs := Lib.hid fun w' (x : Ext w w') => (h.keep (S' := fun _ => True) (fun _ _ _ => trivial) (fun _ _ _ => rfl)).ext x
  have hZg := Lib.hid fun w' (x : Ext w w') => zzFits5_any (⟨gk, gx, gd, gy, gka, gn, gkc, gca, gm, gcc⟩ : El) gt w' (hgT.ext x)
  have hTg := Lib.hid fun w' (x : Ext w w') => (TreeAt.ext x hgT).any
  have hF := Lib.hid fun w' (x : Ext w w') => fits_any sMatchBoolPrefix rMatchBoolPrefix a n c ps w' rows_matchBoolPrefix (by simp [plainK]) (h.ext x)
  have hQ := Lib.hid fun w' (x : Ext w w') (hgS : scalarT gt = true) (hf_le : f.size ≤ maxLen) (hff : FitsP rMatchBoolPrefix ps) => matchBoolPrefix_any a n c ps w' f hf_le (⟨gk, gx, gd, gy, gka, gn, gkc, gca, gm, gcc⟩ : El) gt (TreeAt.ext x hgT) hgS (whole_of hff (by rw [kindL_dec]; decide)) (whole_of hff (by rw [kindL_dec]; decide)) (h.ext x)
  clear h
  have HLW := Lib.hid hlw
  have HSM := Lib.hid hsm
  clear hlw hsm
  clear hgT
  simp only [El.val]
  have hbtg : Box (w.alloc (.cells (⟨gk, gx, gd, gy, gka, gn, gkc, gca, gm, gcc⟩ : El).arr 26)) w.heap.size (⟨gk, gx, gd, gy, gka, gn, gkc, gca, gm, gcc⟩ : El).arr 26 := Box.at rfl _ _
  go_enter Tryz.func7, Tryz.ntmps7
  by_cases hsz0 : 2147483647 < f.size
  · go_wp2_with (first
        | (go_at_call 10; refine (hZg.out _ (by (repeat (first | exact ext_refl _ | assumption | refine ext_alloc ?_ _ | refine ext_drew ?_ | refine ext_set ?_ (by simp) _ | refine ext_trans ?_ (by assumption))))).mono ?_; rintro r wzg ⟨bzg, rfl, hzg, hxzg⟩; have HZg := Lib.hid hzg; clear hzg; have hbtg_wzg := hbtg.ext (show Ext (w.alloc (.cells (⟨gk, gx, gd, gy, gka, gn, gkc, gca, gm, gcc⟩ : El).arr 26)) wzg by (repeat (first | exact ext_refl _ | assumption | refine ext_alloc ?_ _ | refine ext_drew ?_ | refine ext_set ?_ (by simp) _ | refine ext_trans ?_ (by assumption)))); obtain ⟨og0, og1, og2, og3, og4, og5⟩ := hbtg_wzg.six; cases bzg))
    all_goals (go_ret; exact ⟨rfl, by (repeat (first | exact ext_refl _ | assumption | refine ext_alloc ?_ _ | refine ext_drew ?_ | refine ext_set ?_ (by simp) _ | refine ext_trans ?_ (by assumption)))⟩)
  · skip
    by_cases hsz1 : 2147483647 < n
    · go_wp2_with (first
          | (go_at_call 10; refine (hZg.out _ (by (repeat (first | exact ext_refl _ | assumption | refine ext_alloc ?_ _ | refine ext_drew ?_ | refine ext_set ?_ (by simp) _ | refine ext_trans ?_ (by assumption))))).mono ?_; rintro r wzg ⟨bzg, rfl, hzg, hxzg⟩; have HZg := Lib.hid hzg; clear hzg; have hbtg_wzg := hbtg.ext (show Ext (w.alloc (.cells (⟨gk, gx, gd, gy, gka, gn, gkc, gca, gm, gcc⟩ : El).arr 26)) wzg by (repeat (first | exact ext_refl _ | assumption | refine ext_alloc ?_ _ | refine ext_drew ?_ | refine ext_set ?_ (by simp) _ | refine ext_trans ?_ (by assumption)))); obtain ⟨og0, og1, og2, og3, og4, og5⟩ := hbtg_wzg.six; cases bzg))
      all_goals (go_ret; exact ⟨rfl, by (repeat (first | exact ext_refl _ | assumption | refine ext_alloc ?_ _ | refine ext_drew ?_ | refine ext_set ?_ (by simp) _ | refine ext_trans ?_ (by assumption)))⟩)
    · skip
      go_wp2_with (first
        | (go_at_call 10; refine (hZg.out _ (by (repeat (first | exact ext_refl _ | assumption | refine ext_alloc ?_ _ | refine ext_drew ?_ | refine ext_set ?_ (by simp) _ | refine ext_trans ?_ (by assumption))))).mono ?_; rintro r wzg ⟨bzg, rfl, hzg, hxzg⟩; have HZg := Lib.hid hzg; clear hzg; have hbtg_wzg := hbtg.ext (show Ext (w.alloc (.cells (⟨gk, gx, gd, gy, gka, gn, gkc, gca, gm, gcc⟩ : El).arr 26)) wzg by (repeat (first | exact ext_refl _ | assumption | refine ext_alloc ?_ _ | refine ext_drew ?_ | refine ext_set ?_ (by simp) _ | refine ext_trans ?_ (by assumption)))); obtain ⟨og0, og1, og2, og3, og4, og5⟩ := hbtg_wzg.six; cases bzg)
        | (go_at_call 11; refine (scalar_yes _ _ _ (hTg.out _ (by (repeat (first | exact ext_refl _ | assumption | refine ext_alloc ?_ _ | refine ext_drew ?_ | refine ext_set ?_ (by simp) _ | refine ext_trans ?_ (by assumption)))))).mono ?_; rintro r wscg ⟨bscg, rfl, hscg, hxscg⟩; have Hscg := Lib.hid hscg; clear hscg; have hbtg_wscg := hbtg.ext (show Ext (w.alloc (.cells (⟨gk, gx, gd, gy, gka, gn, gkc, gca, gm, gcc⟩ : El).arr 26)) wscg by (repeat (first | exact ext_refl _ | assumption | refine ext_alloc ?_ _ | refine ext_drew ?_ | refine ext_set ?_ (by simp) _ | refine ext_trans ?_ (by assumption)))); obtain ⟨og0, og1, og2, og3, og4, og5⟩ := hbtg_wscg.six; cases bscg)
        | (go_at_call 12; refine (field_any f (by omega) _).mono ?_; rintro r wfdf ⟨bfdf, rfl, hfdf, hxfdf⟩; have Hfdf := Lib.hid hfdf; clear hfdf; have hbtg_wfdf := hbtg.ext (show Ext (w.alloc (.cells (⟨gk, gx, gd, gy, gka, gn, gkc, gca, gm, gcc⟩ : El).arr 26)) wfdf by (repeat (first | exact ext_refl _ | assumption | refine ext_alloc ?_ _ | refine ext_drew ?_ | refine ext_set ?_ (by simp) _ | refine ext_trans ?_ (by assumption)))); obtain ⟨og0, og1, og2, og3, og4, og5⟩ := hbtg_wfdf.six; cases bfdf)
        | (go_at_call 13; refine (hF.out _ (by (repeat (first | exact ext_refl _ | assumption | refine ext_alloc ?_ _ | refine ext_drew ?_ | refine ext_set ?_ (by simp) _ | refine ext_trans ?_ (by assumption))))).mono ?_; rintro r wff ⟨bff, rfl, hff, hxff⟩; have Hff := Lib.hid hff; clear hff; have hbtg_wff := hbtg.ext (show Ext (w.alloc (.cells (⟨gk, gx, gd, gy, gka, gn, gkc, gca, gm, gcc⟩ : El).arr 26)) wff by (repeat (first | exact ext_refl _ | assumption | refine ext_alloc ?_ _ | refine ext_drew ?_ | refine ext_set ?_ (by simp) _ | refine ext_trans ?_ (by assumption)))); obtain ⟨og0, og1, og2, og3, og4, og5⟩ := hbtg_wff.six; cases bff))
      all_goals (try (go_ret; exact ⟨rfl, by (repeat (first | exact ext_refl _ | assumption | refine ext_alloc ?_ _ | refine ext_drew ?_ | refine ext_set ?_ (by simp) _ | refine ext_trans ?_ (by assumption)))⟩))
      have hff := Hff.out (by trivial)
      have hfd := Hfdf.out (by trivial)
      have hgS := Hscg.out (by trivial)
      have hfit := Lib.hid (readV_same lowS s_match_bool_prefix f (SameL.fold lowS (matchBoolPrefix_list gt hgS hff) (matchBoolPrefix_nomap gt ps)))
      have hx0 : Ext (w.alloc (.cells (⟨gk, gx, gd, gy, gka, gn, gkc, gca, gm, gcc⟩ : El).arr 26)) wff := by (repeat (first | exact ext_refl _ | assumption | refine ext_alloc ?_ _ | refine ext_drew ?_ | refine ext_set ?_ (by simp) _ | refine ext_trans ?_ (by assumption)))
      have hx1 : Ext w wff := by (repeat (first | exact ext_refl _ | assumption | refine ext_alloc ?_ _ | refine ext_drew ?_ | refine ext_set ?_ (by simp) _ | refine ext_trans ?_ (by assumption)))
      refine (hQ.out wff hx1 hgS (by unfold maxLen; omega) hff).mono ?_
      rintro r w3 ⟨e, rfl, hT, hx3⟩
      simp only [El.val]
      go_upto_region 6 with fail
      have hb3 : Box (w3.alloc (.cells e.arr 26)) w3.heap.size e.arr 26 := Box.at rfl _ _
      have hxa := ext_alloc (ext_trans hx0 hx3) (.cells e.arr 26)
      have hxb : Ext w (w3.alloc (.cells e.arr 26)) := ext_alloc (ext_trans hx1 hx3) _
      rw [jMap_treeV] at hT
      have hT3 := Lib.hid (hT.ext (ext_alloc (ext_refl w3) (.cells e.arr 26)))
      clear hT
      generalize w3.alloc (.cells e.arr 26) = w4 at hb3 hxa hxb hT3 ⊢
      generalize w3.heap.size = b3 at hb3 ⊢
      refine wp_region_order (fun w' => Six w' b3 e ∧ Six w' w.heap.size (⟨gk, gx, gd, gy, gka, gn, gkc, gca, gm, gcc⟩ : El)) [0, 1, 2, 3, 5, 6, 7, 10] [0, 1, 2, 3, 5, 6, 7, 4, 8, 9, 10, 11] (by kernel_rfl) (by kernel_rfl) (fun d _ _ _ _ h => by cases d <;> exact h) (by kernel_rfl) ?_
      have hS : (fun w' => Six w' b3 e ∧ Six w' w.heap.size (⟨gk, gx, gd, gy, gka, gn, gkc, gca, gm, gcc⟩ : El)) _ := ⟨hb3.Six, (hbtg.ext hxa).Six⟩
      (apply ord_held rfl rfl (by assumption) rfl; (focus ((intro w' hS'); go_simp; (try with_reducible rfl))); (try simp only [Act.put, List.setIfInBounds_toArray, List.set_cons_zero, List.set_cons_succ]))
      (apply ord_held rfl rfl (by assumption) rfl; (focus ((intro w' hS'); go_simp; (try with_reducible rfl))); (try simp only [Act.put, List.setIfInBounds_toArray, List.set_cons_zero, List.set_cons_succ]))
      (apply ord_guard rfl rfl (by assumption) rfl; (focus ((intro w' hS'); go_simp; (try with_reducible rfl))); (try simp only [Act.put, List.setIfInBounds_toArray, List.set_cons_zero, List.set_cons_succ]))
      (apply ord_guard rfl rfl (by assumption) rfl; (focus ((intro w' hS'); go_simp; (try with_reducible rfl))); (try simp only [Act.put, List.setIfInBounds_toArray, List.set_cons_zero, List.set_cons_succ]))
      (apply ord_guard rfl rfl (by assumption) rfl; (focus ((intro w' hS'); go_simp; (try with_reducible rfl))); (try simp only [Act.put, List.setIfInBounds_toArray, List.set_cons_zero, List.set_cons_succ]))
      (apply ord_guard rfl rfl (by assumption) rfl; (focus ((intro w' hS'); go_simp; (try with_reducible rfl))); (try simp only [Act.put, List.setIfInBounds_toArray, List.set_cons_zero, List.set_cons_succ]))
      (apply ord_guard rfl rfl (by assumption) rfl; (focus ((intro w' hS'); go_simp; (try with_reducible rfl))); (try simp only [Act.put, List.setIfInBounds_toArray, List.set_cons_zero, List.set_cons_succ]))
      (apply ord_want rfl rfl rfl; intro K hK; go_simp)
      refine (readValued_any lowS s_match_bool_prefix f s_query emptyS _ (jTree (matchBoolPrefix_A gt ps)) e _ (hT3.out.ext ((ext_drew (ext_refl w4)))) (map_own _ _) ((matchBoolPrefix_keys gt ps).no (by decide)) (field_ne hfd (by decide)) (field_ne hfd (by decide)) (by decide) (by omega) (fun p hp => ⟨keys_size (matchBoolPrefix_keys gt ps) (by decide) p hp, matchBoolPrefix_nomap gt ps p hp⟩) (by have := matchBoolPrefix_len gt ps; omega) (lows_of s_match_bool_prefix f (matchBoolPrefix_nomap gt ps) (matchBoolPrefix_opsmall gt HSM.out) HLW.out (ext_trans hxb ((ext_drew (ext_refl w4)))))).mono ?_
      rintro r wr ⟨gr, rfl, hTr, hxr⟩
      have hS1 : (fun w' => Six w' b3 e ∧ Six w' w.heap.size (⟨gk, gx, gd, gy, gka, gn, gkc, gca, gm, gcc⟩ : El)) wr := ⟨Six.ext hxr hS.1, Six.ext hxr hS.2⟩
      refine hK _ _ (fun _ => hS1) ?_
      clear hK K
      try simp only [El.val]
      (try simp only [Act.put, List.setIfInBounds_toArray, List.set_cons_zero, List.set_cons_succ])
      (apply ord_want rfl rfl rfl; intro K hK; go_simp)
      refine (match_any (S := fun _ => True) lowS s_match_bool_prefix sMatchBoolPrefix tMatchBoolPrefix f (⟨gk, gx, gd, gy, gka, gn, gkc, gca, gm, gcc⟩ : El) (gt) a n c ps _ table_matchBoolPrefix 12 (by decide) (by decide) rMatchBoolPrefix (by decide) (by decide) (hPs.out _ (ext_trans hxb (ext_trans ((ext_drew (ext_refl w4))) hxr))) (hTg.out _ (ext_trans hxb (ext_trans ((ext_drew (ext_refl w4))) hxr))) (by decide) (by omega) (fun p hp => ⟨keys_size (matchBoolPrefix_bkeys gt ps) (by decide) p hp, matchBoolPrefix_bflat gt hgS hff p hp⟩) (Nat.le_trans (matchBoolPrefix_blen gt ps) (by decide)) (lows_of s_match_bool_prefix f (matchBoolPrefix_bflat gt hgS hff) (matchBoolPrefix_bsmall gt HSM.out) HLW.out (ext_trans hxb (ext_trans ((ext_drew (ext_refl w4))) hxr)))).mono ?_
      rintro r wb ⟨gb, rfl, hTb, hxbb⟩
      have hS2 : (fun w' => Six w' b3 e ∧ Six w' w.heap.size (⟨gk, gx, gd, gy, gka, gn, gkc, gca, gm, gcc⟩ : El)) wb := ⟨Six.ext hxbb hS1.1, Six.ext hxbb hS1.2⟩
      refine hK _ _ (fun _ => hS2) ?_
      clear hK K
      try simp only [El.val]
      (try simp only [Act.put, List.setIfInBounds_toArray, List.set_cons_zero, List.set_cons_succ])
      (apply ord_want rfl rfl rfl; intro K hK; go_simp)
      refine (same_any (S := fun _ => True) _ _ gr gb _ (hTr.ext (hxbb)) (hTb.any)).mono ?_
      rintro r ws ⟨rfl, hxs⟩
      have hS3 : (fun w' => Six w' b3 e ∧ Six w' w.heap.size (⟨gk, gx, gd, gy, gka, gn, gkc, gca, gm, gcc⟩ : El)) ws := ⟨Six.ext hxs hS2.1, Six.ext hxs hS2.2⟩
      refine hK _ _ (fun _ => hS3) ?_
      clear hK K
      try simp only
      rw [hfit.out]
      (try simp only [Act.put, List.setIfInBounds_toArray, List.set_cons_zero, List.set_cons_succ])
      (apply ord_held rfl rfl (by assumption) rfl; (focus ((intro w' hS'); go_simp; (try with_reducible rfl))); (try simp only [Act.put, List.setIfInBounds_toArray, List.set_cons_zero, List.set_cons_succ]))
      (apply ord_last rfl rfl rfl (by kernel_rfl); intro K hK; go_simp; refine hK _ _ ?_; clear hK K; (try simp only [Act.put, List.setIfInBounds_toArray, List.set_cons_zero, List.set_cons_succ]))
      refine ord_end ?_
      go_wp2_with fail
      go_ret
      exact ⟨rfl, ext_trans hxb (ext_trans (ext_trans (ext_trans ((ext_drew (ext_refl w4))) hxr) hxbb) hxs)⟩
end Go.Proofs.YtocfoheckgdonaaGreatDoor
