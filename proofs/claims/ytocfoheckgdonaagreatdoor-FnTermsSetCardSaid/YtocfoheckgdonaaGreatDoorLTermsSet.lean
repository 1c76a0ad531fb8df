/-
  The law of a query of a field (TermsSet): what the builder gives is what is told.
-/
import Derived.Test.YtocfoheckgdonaaGreatDoorITermsSet
import Derived.Test.YtocfoheckgdonaaGreatDoorVr
namespace Go.Proofs.YtocfoheckgdonaaGreatDoor
open Go.RowKit

theorem scalars_yes2 {S : Nat → Prop} (a : Option Addr) (n c : Nat) (ts : List T) (w : World) (h : KidsAt S w a n c ts) : Calls Tryz.prog 19 #[.slice a n c] w (Yes ((∀ t ∈ ts, scalarT t = true) ∧ 0 < ts.length) w) :=
  (scalars_any a n c ts w h).mono fun _ _ ⟨h1, h2⟩ => ⟨_, h1, fun hs => by
    simp only [scalarsT, Bool.and_eq_true, List.all_eq_true, decide_eq_true_eq] at hs
    exact hs, h2⟩
theorem sames_jOf2 : ∀ {u : List T} (_ : ∀ t ∈ u, scalarT t = true), samesT (treesJ (u.map jOf)) u = true
  | [], _ => by simp [treesJ, samesT]
  | t :: r, h => by
    simp only [List.map_cons, treesJ, samesT, Bool.and_eq_true]
    exact ⟨jOf_same (h t (by simp)), sames_jOf2 fun x hx => h x (by simp [hx])⟩
theorem list_jOf2 {u : List T} (h : ∀ t ∈ u, scalarT t = true) : sameT (treeJ (J.list (u.map jOf))) (listT u) = true := by
  have hl : (treesJ (u.map jOf)).length = u.length := by rw [treesJ_len, List.length_map]
  simp [treeJ, listT, sameT, hl, sames_jOf2 h, seqs]
abbrev sTermsSet : ByteArray := ⟨#[84, 101, 114, 109, 115, 83, 101, 116]⟩
abbrev tTermsSet : ByteArray := ⟨#[98, 111, 111, 115, 116, 32, 110, 44, 109, 105, 110, 105, 109, 117, 109, 95, 115, 104, 111, 117, 108, 100, 95, 109, 97, 116, 99, 104, 95, 102, 105, 101, 108, 100, 32, 116, 44, 95, 110, 97, 109, 101, 32, 116]⟩
abbrev rTermsSet : List (ByteArray × ByteArray) := [(s_boost, ⟨#[110]⟩), (s_minimum_should_match_field, ⟨#[116]⟩), (s_name, ⟨#[116]⟩)]
set_option maxHeartbeats 2000000 in
theorem table_termsSet (w : World) : Calls Tryz.prog 128 #[.string sTermsSet] w fun r w' => r = .returned (.string tTermsSet) ∧ w' = w := by
  go_enter Tryz.func128, Tryz.ntmps128
  go_wp2
  go_ret
  exact ⟨rfl, rfl⟩
set_option maxRecDepth 20000 in
theorem rows_termsSet (w : World) : Calls Tryz.prog 120 #[.string sTermsSet] w fun r w' => ∃ v, r = .returned v ∧ Own2 w' w.heap.size v rTermsSet ∧ Ext w w' :=
  rows_any sTermsSet tTermsSet w table_termsSet 6 (by decide) (by decide)
abbrev termsSet_A (u : List T) (ps : List (ByteArray × T)) : List (ByteArray × J) := [(s_terms, J.list (u.map jOf))] ++ jT s_minimum_should_match_field (lastOf ps s_minimum_should_match_field) ++ jN s_boost (lastOf ps s_boost) ++ jT s_name (lastOf ps s_name)
abbrev termsSet_B (u : List T) (ps : List (ByteArray × T)) : List (ByteArray × T) := paramsL rTermsSet ps ++ [(s_terms, listT u)]
theorem termsSet_list (u : List T) (hss : ∀ t ∈ u, scalarT t = true) {ps : List (ByteArray × T)} (hF : FitsP rTermsSet ps) : SameL (jTree (termsSet_A u ps)) (termsSet_B u ps) := by
  let chs : Nat → Ch := fun i => match i with
    | 0 => (s_terms, [(s_terms, listT u)])
    | 1 => (s_minimum_should_match_field, (param ps (s_minimum_should_match_field, ⟨#[116]⟩)).toList)
    | 2 => (s_boost, (param ps (s_boost, ⟨#[110]⟩)).toList)
    | 3 => (s_name, (param ps (s_name, ⟨#[116]⟩)).toList)
    | _ => (emptyS, [])
  have h0 : SameL (jTree ([(s_terms, J.list (u.map jOf))] ++ jT s_minimum_should_match_field (lastOf ps s_minimum_should_match_field) ++ jN s_boost (lastOf ps s_boost) ++ jT s_name (lastOf ps s_name))) ([(s_terms, listT u)] ++ (param ps (s_minimum_should_match_field, ⟨#[116]⟩)).toList ++ (param ps (s_boost, ⟨#[110]⟩)).toList ++ (param ps (s_name, ⟨#[116]⟩)).toList) := by
    unfold jTree
    simp only [List.map_append, List.append_assoc]
    exact SameL.append (SameL.one s_terms (list_jOf2 hss)) (SameL.append (jT_same hF (by rw [kindL_dec]; decide)) (SameL.append (jN_same hF (by rw [kindL_dec]; decide)) (jT_same hF (by rw [kindL_dec]; decide))))
  have h1 := SameL.reorder (f := chs) [0, 1, 2, 3] [2, 1, 3, 0] (by decide) (show [s_terms, s_minimum_should_match_field, s_boost, s_name].Nodup by decide) (by intro c hc; simp only [List.map_cons, List.map_nil, List.mem_cons, List.not_mem_nil, or_false] at hc; rcases hc with rfl | rfl | rfl | rfl <;> first | exact keys_param _ _ | exact keys_one _ _) (by simpa only [chs, flatC, List.map_cons, List.map_nil, List.flatMap_cons, List.flatMap_nil, List.append_nil, List.append_assoc] using h0)
  unfold termsSet_B
  rw [params_cons, params_cons, params_cons, params_nil]
  refine (show SameL _ _ from ?_)
  simpa only [chs, flatC, List.map_cons, List.map_nil, List.flatMap_cons, List.flatMap_nil, List.append_nil, List.append_assoc, List.cons_append, List.nil_append] using h1
theorem termsSet_keys (u : List T) (ps : List (ByteArray × T)) : KeysIn (jTree (termsSet_A u ps)) ([s_terms] ++ ([s_minimum_should_match_field] ++ ([s_boost] ++ ([s_name])))) := by
  unfold termsSet_A jTree
  simp only [List.map_append, List.append_assoc]
  exact KeysIn.append (keys_one _ _) (KeysIn.append (keys_T _ _) (KeysIn.append (keys_N _ _) (keys_T _ _)))
theorem termsSet_nomap (u : List T) (ps : List (ByteArray × T)) : NoMap (termsSet_A u ps) := NoMap.append (NoMap.append (NoMap.append (noMap_J _ _ (by simp [treeJ, listT, T.kind])) (noMap_T _ _)) (noMap_N _ _)) (noMap_T _ _)
theorem termsSet_len (u : List T) (ps : List (ByteArray × T)) : (jTree (termsSet_A u ps)).length ≤ 100 := by
  have h1 := jT_len s_minimum_should_match_field (lastOf ps s_minimum_should_match_field)
  have h2 := jN_len s_boost (lastOf ps s_boost)
  have h3 := jT_len s_name (lastOf ps s_name)
  simp only [termsSet_A, List.length_map, List.length_append, List.length_cons, List.length_nil]
  omega
set_option maxHeartbeats 4000000 in
theorem termsSet_law {S : Nat → Prop} (f : ByteArray) (ua : Option Addr) (un uc : Nat) (u : List T) (a : Option Addr) (n c : Nat) (ps : List (ByteArray × T)) (w : World) (huT : KidsAt S w ua un uc u) (h : PairsAt S w a n c ps) : Calls Tryz.prog 5 #[.string f, .slice ua un uc, .slice a n c] w fun r w' => r = .returned (.bool true) ∧ Ext w w' := by
  have hnl := Nat.le_trans h.2.1 h.2.2.1
  unfold maxLen at hnl
  have hPs := Lib.hid fun w' (x : Ext w w') => (h.keep (S' := fun _ => True) (fun _ _ _ => trivial) (fun _ _ _ => rfl)).ext x
  have hnu := Nat.le_trans huT.2.1 huT.2.2.1
  unfold maxLen at hnu
  have hTu := Lib.hid fun w' (x : Ext w w') => (huT.keep (S' := fun _ => True) (fun _ _ _ => trivial) (fun _ _ _ => rfl)).ext x
  have hF := Lib.hid fun w' (x : Ext w w') => fits_any sTermsSet rTermsSet a n c ps w' rows_termsSet (by simp [plainK]) (h.ext x)
  have hul := huT.1
  have hSc := Lib.hid fun w' (x : Ext w w') => scalars_yes2 ua un uc u w' (huT.ext x)
  have hQ := Lib.hid fun w' (x : Ext w w') (hup : 0 < un) (hub : un ≤ 2147483647) (hss : ∀ t ∈ u, scalarT t = true) (hf_le : f.size ≤ maxLen) => termsSet_any a n c ps w' f hf_le ua un uc u (huT.ext x) hup hub (fun t ht => scalar_kind (hss t ht))  (h.ext x)
  clear h
  clear huT
  go_enter Tryz.func5, Tryz.ntmps5
  by_cases hsz0 : 2147483647 < f.size
  · go_wp2_with fail
    all_goals (go_ret; exact ⟨rfl, by (repeat (first | exact ext_refl _ | assumption | refine ext_alloc ?_ _ | refine ext_drew ?_ | refine ext_set ?_ (by simp) _ | refine ext_trans ?_ (by assumption)))⟩)
  · skip
    by_cases hsz1 : 2147483647 < un
    · go_wp2_with fail
      all_goals (go_ret; exact ⟨rfl, by (repeat (first | exact ext_refl _ | assumption | refine ext_alloc ?_ _ | refine ext_drew ?_ | refine ext_set ?_ (by simp) _ | refine ext_trans ?_ (by assumption)))⟩)
    · skip
      by_cases hsz2 : 2147483647 < n
      · go_wp2_with fail
        all_goals (go_ret; exact ⟨rfl, by (repeat (first | exact ext_refl _ | assumption | refine ext_alloc ?_ _ | refine ext_drew ?_ | refine ext_set ?_ (by simp) _ | refine ext_trans ?_ (by assumption)))⟩)
      · skip
        go_wp2_with (first
          | (go_at_call 19; refine (hSc.out _ (by (repeat (first | exact ext_refl _ | assumption | refine ext_alloc ?_ _ | refine ext_drew ?_ | refine ext_set ?_ (by simp) _ | refine ext_trans ?_ (by assumption))))).mono ?_; rintro r wsc ⟨bsc, rfl, hsc, hxsc⟩; have Hsc := Lib.hid hsc; clear hsc; cases bsc)
          | (go_at_call 12; refine (field_any f (by omega) _).mono ?_; rintro r wfdf ⟨bfdf, rfl, hfdf, hxfdf⟩; have Hfdf := Lib.hid hfdf; clear hfdf; cases bfdf)
          | (go_at_call 13; refine (hF.out _ (by (repeat (first | exact ext_refl _ | assumption | refine ext_alloc ?_ _ | refine ext_drew ?_ | refine ext_set ?_ (by simp) _ | refine ext_trans ?_ (by assumption))))).mono ?_; rintro r wff ⟨bff, rfl, hff, hxff⟩; have Hff := Lib.hid hff; clear hff; cases bff))
        all_goals (try (go_ret; exact ⟨rfl, by (repeat (first | exact ext_refl _ | assumption | refine ext_alloc ?_ _ | refine ext_drew ?_ | refine ext_set ?_ (by simp) _ | refine ext_trans ?_ (by assumption)))⟩))
        have hff := Hff.out (by trivial)
        have hfd := Hfdf.out (by trivial)
        have hsc := Hsc.out (by trivial)
        have hup : 0 < un := by rw [← hul]; exact hsc.2
        have hub : un ≤ 2147483647 := by omega
        have hss := hsc.1
        have hfit := Lib.hid (readV_flat (fun s => s) s_terms_set f (flat_of (termsSet_nomap u ps) (termsSet_keys u ps) (by decide)) (termsSet_list u hss hff))
        have hx0 : Ext w wff := by (repeat (first | exact ext_refl _ | assumption | refine ext_alloc ?_ _ | refine ext_drew ?_ | refine ext_set ?_ (by simp) _ | refine ext_trans ?_ (by assumption)))
        have hx1 : Ext w wff := by (repeat (first | exact ext_refl _ | assumption | refine ext_alloc ?_ _ | refine ext_drew ?_ | refine ext_set ?_ (by simp) _ | refine ext_trans ?_ (by assumption)))
        refine (hQ.out wff hx1 hup hub hss (by unfold maxLen; omega)).mono ?_
        rintro r w3 ⟨e, rfl, hT, hx3⟩
        simp only [El.val]
        go_upto_region 6 with fail
        have hb3 : Box (w3.alloc (.cells e.arr 26)) w3.heap.size e.arr 26 := Box.at rfl _ _
        have hxa := ext_alloc (ext_trans hx0 hx3) (.cells e.arr 26)
        have hxb : Ext w (w3.alloc (.cells e.arr 26)) := ext_alloc (ext_trans hx1 hx3) _
        rw [jMap_treeV] at hT
        have hT3 := Lib.hid (hT.ext (ext_alloc (ext_refl w3) (.cells e.arr 26)))
        clear hT
        generalize w3.alloc (.cells e.arr 26) = w4 at hb3 hxa hxb hT3 ⊢
        generalize w3.heap.size = b3 at hb3 ⊢
        have tk4 := trivial
        have tk7 := trivial
        have tk9 := trivial
        have tk10 := trivial
        obtain ⟨o0, o1, o2, o3, o4, o5⟩ := hb3.six
        go_wp2_with (first
          | (go_at_call 16; have _t := tk4; clear _t tk4
             refine (readValued_any (fun s => s) s_terms_set f s_terms emptyS _ (jTree (termsSet_A u ps)) e _ (hT3.out.ext (ext_refl _)) (map_own _ _) ((termsSet_keys u ps).no (by decide)) (field_ne hfd (by decide)) (field_ne hfd (by decide)) (by decide) (by omega) (fun p hp => ⟨keys_size (termsSet_keys u ps) (by decide) p hp, termsSet_nomap u ps p hp⟩) (by have := termsSet_len u ps; omega) (fun s hs => (readV_no s_terms_set f (flat_of (termsSet_nomap u ps) (termsSet_keys u ps) (by decide)) s hs).elim)).mono ?_
             rintro r wr ⟨gr, rfl, hTr, hxr⟩
             try simp only [El.val]
             have hb3_wr := hb3.ext (hxr)
             obtain ⟨o0, o1, o2, o3, o4, o5⟩ := hb3_wr.six)
          | (go_at_call 22; have _t := tk7; clear _t tk7
             refine (list_any (S := fun _ => True) ua un uc u _ (hTu.out _ (ext_trans hxb (hxr)))).mono ?_
             rintro r wl ⟨gl, rfl, hTl, hxl⟩
             try simp only [El.val]
             have hb3_wl := hb3.ext (ext_trans (hxr) hxl)
             obtain ⟨o0, o1, o2, o3, o4, o5⟩ := hb3_wl.six)
          | (go_at_call 21; have _t := tk9; clear _t tk9
             refine (valued_any (S := fun _ => True) s_terms_set sTermsSet tTermsSet f s_terms gl (listT u) a n c ps _ table_termsSet 6 (by decide) (by decide) rTermsSet (by decide) (by decide) (hPs.out _ (ext_trans hxb (ext_trans (hxr) hxl))) (hTl.ext (ext_refl _))).mono ?_
             rintro r wb ⟨gb, rfl, hTb, hxbb⟩
             try simp only [El.val]
             have hb3_wb := hb3.ext (ext_trans (ext_trans (hxr) hxl) hxbb)
             obtain ⟨o0, o1, o2, o3, o4, o5⟩ := hb3_wb.six)
          | (go_at_call 15; have _t := tk10; clear _t tk10
             refine (same_any (S := fun _ => True) _ _ gr gb _ (hTr.ext (ext_trans (hxl) hxbb)) (hTb.any)).mono ?_
             rintro r ws ⟨rfl, hxs⟩
             try simp only
             rw [hfit.out]
             have hb3_ws := hb3.ext (ext_trans (ext_trans (ext_trans (hxr) hxl) hxbb) hxs)
             obtain ⟨o0, o1, o2, o3, o4, o5⟩ := hb3_ws.six))
        go_ret
        exact ⟨rfl, ext_trans hxb (ext_trans (ext_trans (ext_trans (hxr) hxl) hxbb) hxs)⟩
end Go.Proofs.YtocfoheckgdonaaGreatDoor
