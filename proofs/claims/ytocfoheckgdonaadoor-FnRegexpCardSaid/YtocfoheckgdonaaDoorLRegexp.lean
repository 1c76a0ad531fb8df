/-
  The law of a query of a field (Regexp): what the builder gives is what is told.
-/
import Derived.Test.YtocfoheckgdonaaDoorIRegexp
import Derived.Test.YtocfoheckgdonaaDoorVr
namespace Go.Proofs.YtocfoheckgdonaaDoor
open Go.RowKit

abbrev sRegexp : ByteArray := ⟨#[82, 101, 103, 101, 120, 112]⟩
abbrev tRegexp : ByteArray := ⟨#[98, 111, 111, 115, 116, 32, 110, 44, 99, 97, 115, 101, 95, 105, 110, 115, 101, 110, 115, 105, 116, 105, 118, 101, 32, 98, 44, 102, 108, 97, 103, 115, 32, 116, 44, 109, 97, 120, 95, 100, 101, 116, 101, 114, 109, 105, 110, 105, 122, 101, 100, 95, 115, 116, 97, 116, 101, 115, 32, 119, 44, 114, 101, 119, 114, 105, 116, 101, 32, 116]⟩
abbrev rRegexp : List (ByteArray × ByteArray) := [(s_boost, ⟨#[110]⟩), (s_case_insensitive, ⟨#[98]⟩), (s_flags, ⟨#[116]⟩), (s_max_determinized_states, ⟨#[119]⟩), (s_rewrite, ⟨#[116]⟩)]
set_option maxHeartbeats 2000000 in
theorem table_regexp (w : World) : Calls Tryd.prog 77 #[.string sRegexp] w fun r w' => r = .returned (.string tRegexp) ∧ w' = w := by
  go_enter Tryd.func77, Tryd.ntmps77
  go_wp2
  go_ret
  exact ⟨rfl, rfl⟩
set_option maxRecDepth 20000 in
theorem rows_regexp (w : World) : Calls Tryd.prog 70 #[.string sRegexp] w fun r w' => ∃ v, r = .returned v ∧ Own2 w' w.heap.size v rRegexp ∧ Ext w w' :=
  rows_any sRegexp tRegexp w table_regexp 8 (by decide) (by decide)
abbrev regexp_A (fv : ByteArray) (ps : List (ByteArray × T)) : List (ByteArray × J) := [(s_value, J.str fv)] ++ jT s_flags (lastOf ps s_flags) ++ jW s_max_determinized_states (lastOf ps s_max_determinized_states) ++ jN s_boost (lastOf ps s_boost) ++ jT s_rewrite (lastOf ps s_rewrite) ++ jY s_case_insensitive (lastOf ps s_case_insensitive) ++ jT s_plain_name (lastOf ps s_name)
abbrev regexp_B (fv : ByteArray) (ps : List (ByteArray × T)) : List (ByteArray × T) := paramsL rRegexp ps ++ [(s_value, textT fv)]
theorem regexp_list (fv : ByteArray) {ps : List (ByteArray × T)} (hF : FitsP rRegexp ps) : SameL (jTree (regexp_A fv ps)) (regexp_B fv ps) := by
  have hno6 : lastOf ps s_name = none := fits_none hF (by rw [kindL_dec]; decide)
  unfold regexp_A
  rw [hno6]
  let chs : Nat → Ch := fun i => match i with
    | 0 => (s_value, [(s_value, textT fv)])
    | 1 => (s_flags, (param ps (s_flags, ⟨#[116]⟩)).toList)
    | 2 => (s_max_determinized_states, (param ps (s_max_determinized_states, ⟨#[119]⟩)).toList)
    | 3 => (s_boost, (param ps (s_boost, ⟨#[110]⟩)).toList)
    | 4 => (s_rewrite, (param ps (s_rewrite, ⟨#[116]⟩)).toList)
    | 5 => (s_case_insensitive, (param ps (s_case_insensitive, ⟨#[98]⟩)).toList)
    | _ => (emptyS, [])
  have h0 : SameL (jTree ([(s_value, J.str fv)] ++ jT s_flags (lastOf ps s_flags) ++ jW s_max_determinized_states (lastOf ps s_max_determinized_states) ++ jN s_boost (lastOf ps s_boost) ++ jT s_rewrite (lastOf ps s_rewrite) ++ jY s_case_insensitive (lastOf ps s_case_insensitive) ++ jT s_plain_name (none))) ([(s_value, textT fv)] ++ (param ps (s_flags, ⟨#[116]⟩)).toList ++ (param ps (s_max_determinized_states, ⟨#[119]⟩)).toList ++ (param ps (s_boost, ⟨#[110]⟩)).toList ++ (param ps (s_rewrite, ⟨#[116]⟩)).toList ++ (param ps (s_case_insensitive, ⟨#[98]⟩)).toList) := by
    simp only [jT_nil, List.append_nil, List.nil_append]
    unfold jTree
    simp only [List.map_append, List.append_assoc]
    exact SameL.append (SameL.one s_value (sameT_self _ (okT_text fv))) (SameL.append (jT_same hF (by rw [kindL_dec]; decide)) (SameL.append (jW_same hF (by rw [kindL_dec]; decide)) (SameL.append (jN_same hF (by rw [kindL_dec]; decide)) (SameL.append (jT_same hF (by rw [kindL_dec]; decide)) (jY_same hF (by rw [kindL_dec]; decide))))))
  have h1 := SameL.reorder (f := chs) [0, 1, 2, 3, 4, 5] [3, 5, 1, 2, 4, 0] (by decide) (show [s_value, s_flags, s_max_determinized_states, s_boost, s_rewrite, s_case_insensitive].Nodup by decide) (by intro c hc; simp only [List.map_cons, List.map_nil, List.mem_cons, List.not_mem_nil, or_false] at hc; rcases hc with rfl | rfl | rfl | rfl | rfl | rfl <;> first | exact keys_param _ _ | exact keys_one _ _) (by simpa only [chs, flatC, List.map_cons, List.map_nil, List.flatMap_cons, List.flatMap_nil, List.append_nil, List.append_assoc] using h0)
  unfold regexp_B
  rw [params_cons, params_cons, params_cons, params_cons, params_cons, params_nil]
  refine (show SameL _ _ from ?_)
  simpa only [chs, flatC, List.map_cons, List.map_nil, List.flatMap_cons, List.flatMap_nil, List.append_nil, List.append_assoc, List.cons_append, List.nil_append] using h1
theorem regexp_keys (fv : ByteArray) (ps : List (ByteArray × T)) : KeysIn (jTree (regexp_A fv ps)) ([s_value] ++ ([s_flags] ++ ([s_max_determinized_states] ++ ([s_boost] ++ ([s_rewrite] ++ ([s_case_insensitive] ++ ([s_plain_name]))))))) := by
  unfold regexp_A jTree
  simp only [List.map_append, List.append_assoc]
  exact KeysIn.append (keys_one _ _) (KeysIn.append (keys_T _ _) (KeysIn.append (keys_W _ _) (KeysIn.append (keys_N _ _) (KeysIn.append (keys_T _ _) (KeysIn.append (keys_Y _ _) (keys_T _ _))))))
theorem regexp_nomap (fv : ByteArray) (ps : List (ByteArray × T)) : NoMap (regexp_A fv ps) := NoMap.append (NoMap.append (NoMap.append (NoMap.append (NoMap.append (NoMap.append (noMap_str _ _) (noMap_T _ _)) (noMap_W _ _)) (noMap_N _ _)) (noMap_T _ _)) (noMap_Y _ _)) (noMap_T _ _)
theorem regexp_len (fv : ByteArray) (ps : List (ByteArray × T)) : (jTree (regexp_A fv ps)).length ≤ 100 := by
  have h1 := jT_len s_flags (lastOf ps s_flags)
  have h2 := jW_len s_max_determinized_states (lastOf ps s_max_determinized_states)
  have h3 := jN_len s_boost (lastOf ps s_boost)
  have h4 := jT_len s_rewrite (lastOf ps s_rewrite)
  have h5 := jY_len s_case_insensitive (lastOf ps s_case_insensitive)
  have h6 := jT_len s_plain_name (lastOf ps s_name)
  simp only [regexp_A, List.length_map, List.length_append, List.length_cons, List.length_nil]
  omega
set_option maxHeartbeats 4000000 in
theorem regexp_law {S : Nat → Prop} (f : ByteArray) (fv : ByteArray) (a : Option Addr) (n c : Nat) (ps : List (ByteArray × T)) (w : World) (h : PairsAt S w a n c ps) : Calls Tryd.prog 6 #[.string f, .string fv, .slice a n c] w fun r w' => r = .returned (.bool true) ∧ Ext w w' := by
  have hnl := Nat.le_trans h.2.1 h.2.2.1
  unfold maxLen at hnl
  have hPs := Lib.hid fun w' (x : Ext w w') => (h.keep (S' := fun _ => True) (fun _ _ _ => trivial) (fun _ _ _ => rfl)).ext x
  have hF := Lib.hid fun w' (x : Ext w w') => fits_any sRegexp rRegexp a n c ps w' rows_regexp (by simp [plainK]) (h.ext x)
  have hQ := Lib.hid fun w' (x : Ext w w') (hf_le : f.size ≤ maxLen) (hff : FitsP rRegexp ps) => regexp_any a n c ps w' f hf_le fv (whole_of hff (by rw [kindL_dec]; decide)) (h.ext x)
  clear h
  go_enter Tryd.func6, Tryd.ntmps6
  by_cases hsz0 : 2147483647 < f.size
  · go_wp2_with fail
    all_goals (go_ret; exact ⟨rfl, by (repeat (first | exact ext_refl _ | assumption | refine ext_alloc ?_ _ | refine ext_drew ?_ | refine ext_set ?_ (by simp) _ | refine ext_trans ?_ (by assumption)))⟩)
  · skip
    by_cases hsz1 : 2147483647 < fv.size
    · go_wp2_with fail
      all_goals (go_ret; exact ⟨rfl, by (repeat (first | exact ext_refl _ | assumption | refine ext_alloc ?_ _ | refine ext_drew ?_ | refine ext_set ?_ (by simp) _ | refine ext_trans ?_ (by assumption)))⟩)
    · skip
      by_cases hsz2 : 2147483647 < n
      · go_wp2_with fail
        all_goals (go_ret; exact ⟨rfl, by (repeat (first | exact ext_refl _ | assumption | refine ext_alloc ?_ _ | refine ext_drew ?_ | refine ext_set ?_ (by simp) _ | refine ext_trans ?_ (by assumption)))⟩)
      · skip
        go_wp2_with (first
          | (go_at_call 8; refine (field_any f (by omega) _).mono ?_; rintro r wfdf ⟨bfdf, rfl, hfdf, hxfdf⟩; have Hfdf := Lib.hid hfdf; clear hfdf; cases bfdf)
          | (go_at_call 9; refine (hF.out _ (by (repeat (first | exact ext_refl _ | assumption | refine ext_alloc ?_ _ | refine ext_drew ?_ | refine ext_set ?_ (by simp) _ | refine ext_trans ?_ (by assumption))))).mono ?_; rintro r wff ⟨bff, rfl, hff, hxff⟩; have Hff := Lib.hid hff; clear hff; cases bff))
        all_goals (try (go_ret; exact ⟨rfl, by (repeat (first | exact ext_refl _ | assumption | refine ext_alloc ?_ _ | refine ext_drew ?_ | refine ext_set ?_ (by simp) _ | refine ext_trans ?_ (by assumption)))⟩))
        have hff := Hff.out (by trivial)
        have hfd := Hfdf.out (by trivial)
        have hfit := Lib.hid (readV_flat (fun s => s) s_regexp f (flat_of (regexp_nomap fv ps) (regexp_keys fv ps) (by decide)) (regexp_list fv hff))
        have hx0 : Ext w wff := by (repeat (first | exact ext_refl _ | assumption | refine ext_alloc ?_ _ | refine ext_drew ?_ | refine ext_set ?_ (by simp) _ | refine ext_trans ?_ (by assumption)))
        have hx1 : Ext w wff := by (repeat (first | exact ext_refl _ | assumption | refine ext_alloc ?_ _ | refine ext_drew ?_ | refine ext_set ?_ (by simp) _ | refine ext_trans ?_ (by assumption)))
        refine (hQ.out wff hx1 (by unfold maxLen; omega) hff).mono ?_
        rintro r w3 ⟨e, rfl, hT, hx3⟩
        simp only [El.val]
        go_upto_region 6 with fail
        have hb3 : Box (w3.alloc (.cells e.arr 29)) w3.heap.size e.arr 29 := Box.at rfl _ _
        have hxa := ext_alloc (ext_trans hx0 hx3) (.cells e.arr 29)
        have hxb : Ext w (w3.alloc (.cells e.arr 29)) := ext_alloc (ext_trans hx1 hx3) _
        rw [jMap_treeV] at hT
        have hT3 := Lib.hid (hT.ext (ext_alloc (ext_refl w3) (.cells e.arr 29)))
        clear hT
        generalize w3.alloc (.cells e.arr 29) = w4 at hb3 hxa hxb hT3 ⊢
        generalize w3.heap.size = b3 at hb3 ⊢
        have tk4 := trivial
        have tk7 := trivial
        have tk9 := trivial
        have tk10 := trivial
        obtain ⟨o0, o1, o2, o3, o4, o5⟩ := hb3.six
        go_wp2_with (first
          | (go_at_call 12; have _t := tk4; clear _t tk4
             refine (readValued_any (fun s => s) s_regexp f s_value emptyS _ (jTree (regexp_A fv ps)) e _ (hT3.out.ext (ext_refl _)) (map_own _ _) ((regexp_keys fv ps).no (by decide)) (field_ne hfd (by decide)) (field_ne hfd (by decide)) (by decide) (by omega) (fun p hp => ⟨keys_size (regexp_keys fv ps) (by decide) p hp, regexp_nomap fv ps p hp⟩) (by have := regexp_len fv ps; omega) (fun s hs => (readV_no s_regexp f (flat_of (regexp_nomap fv ps) (regexp_keys fv ps) (by decide)) s hs).elim)).mono ?_
             rintro r wr ⟨gr, rfl, hTr, hxr⟩
             try simp only [El.val]
             have hb3_wr := hb3.ext (hxr)
             obtain ⟨o0, o1, o2, o3, o4, o5⟩ := hb3_wr.six)
          | (go_at_call 14; have _t := tk7; clear _t tk7
             refine (text_any fv _).mono ?_
             rintro r wt2 ⟨gt2, rfl, hTt2, hxt2⟩
             have hTu2 := hTt2 (fun _ => True)
             try simp only [El.val]
             have hb3_wt2 := hb3.ext (ext_trans (hxr) hxt2)
             obtain ⟨o0, o1, o2, o3, o4, o5⟩ := hb3_wt2.six)
          | (go_at_call 13; have _t := tk9; clear _t tk9
             refine (valued_any (S := fun _ => True) s_regexp sRegexp tRegexp f s_value gt2 (textT fv) a n c ps _ table_regexp 8 (by decide) (by decide) rRegexp (by decide) (by decide) (hPs.out _ (ext_trans hxb (ext_trans (hxr) hxt2))) (hTu2.ext (ext_refl _))).mono ?_
             rintro r wb ⟨gb, rfl, hTb, hxbb⟩
             try simp only [El.val]
             have hb3_wb := hb3.ext (ext_trans (ext_trans (hxr) hxt2) hxbb)
             obtain ⟨o0, o1, o2, o3, o4, o5⟩ := hb3_wb.six)
          | (go_at_call 11; have _t := tk10; clear _t tk10
             refine (same_any (S := fun _ => True) _ _ gr gb _ (hTr.ext (ext_trans (hxt2) hxbb)) (hTb.any)).mono ?_
             rintro r ws ⟨rfl, hxs⟩
             try simp only [El.val]
             rw [hfit.out]
             have hb3_ws := hb3.ext (ext_trans (ext_trans (ext_trans (hxr) hxt2) hxbb) hxs)
             obtain ⟨o0, o1, o2, o3, o4, o5⟩ := hb3_ws.six))
        go_ret
        exact ⟨rfl, ext_trans hxb (ext_trans (ext_trans (ext_trans (hxr) hxt2) hxbb) hxs)⟩
end Go.Proofs.YtocfoheckgdonaaDoor
