/-
  The law of an ids query: what the builder gives is what is told.
-/
import Derived.Test.YtdpgmmkecghihaaIIds
import Derived.Test.YtdpgmmkecghihaaIdsSpec
namespace Go.Proofs.Ytdpgmmkecghihaa
open Go.RowKit

theorem ids_same (u : List ByteArray) {ps : List (ByteArray × T)} (hF : FitsP rIds ps) : sameT (mapT [(s_ids, mapT (jTree ([(s_values, J.texts u)] ++ jN s_boost (lastOf ps s_boost) ++ jT s_name (lastOf ps s_name))))]) (mapT [(s_ids, mapT (paramsL rIds ps ++ [(s_values, listT (u.map textT))]))]) = true := by
  refine same_one _ (sameT_map ?_)
  let chs : Nat → Ch := fun i => match i with
    | 0 => (s_values, [(s_values, listT (u.map textT))])
    | 1 => (s_boost, (param ps (s_boost, ⟨#[110]⟩)).toList)
    | 2 => (s_name, (param ps (s_name, ⟨#[116]⟩)).toList)
    | _ => (emptyS, [])
  have h0 : SameL (jTree ([(s_values, J.texts u)] ++ jN s_boost (lastOf ps s_boost) ++ jT s_name (lastOf ps s_name))) ([(s_values, listT (u.map textT))] ++ (param ps (s_boost, ⟨#[110]⟩)).toList ++ (param ps (s_name, ⟨#[116]⟩)).toList) := by
    unfold jTree
    rw [List.map_append, List.map_append]
    exact SameL.append (SameL.append (SameL.one s_values (sameT_self (listT (u.map textT)) (okT_list fun t ht => by obtain ⟨x, -, rfl⟩ := List.mem_map.1 ht; exact okT_text x))) (jN_same hF (by rw [kindL_dec]; decide))) (jT_same hF (by rw [kindL_dec]; decide))
  have h1 := SameL.reorder (f := chs) [0, 1, 2] [1, 2, 0] (by decide) (show [s_values, s_boost, s_name].Nodup by decide) (by intro c hc; simp only [List.map_cons, List.map_nil, List.mem_cons, List.not_mem_nil, or_false] at hc; rcases hc with rfl | rfl | rfl <;> first | exact keys_param _ _ | exact keys_one _ _) (by simpa only [chs, flatC, List.map_cons, List.map_nil, List.flatMap_cons, List.flatMap_nil, List.append_nil, List.append_assoc] using h0)
  rw [params_cons, params_cons, params_nil]
  refine (show SameL _ _ from ?_)
  simpa only [chs, flatC, List.map_cons, List.map_nil, List.flatMap_cons, List.flatMap_nil, List.append_nil, List.append_assoc, List.cons_append, List.nil_append] using h1
theorem lastOf_vals {u : List ByteArray} {ps : List (ByteArray × T)} : lastOf (jTree ([(s_values, J.texts u)] ++ jN s_boost (lastOf ps s_boost) ++ jT s_name (lastOf ps s_name))) s_values = some (treeJ (J.texts u)) := by
  unfold jTree
  rw [List.map_append, List.map_append, lastOf_append, lastOf_append, (keys_T _ _).none (by rw [List.mem_singleton]; decide), (keys_N _ _).none (by rw [List.mem_singleton]; decide)]
  simp [lastOf_cons, lastOf_nil, seq_self]
set_option maxHeartbeats 4000000 in
theorem ids_law {S : Nat → Prop} (ua : Option Addr) (un uc : Nat) (u : List ByteArray) (a : Option Addr) (n c : Nat) (ps : List (ByteArray × T)) (w : World) (huT : StrsAt S w ua un uc u) (h : PairsAt S w a n c ps) : Calls Try.prog 5 #[.slice ua un uc, .slice a n c] w fun r w' => r = .returned (.bool true) ∧ Ext w w' := by
  have hnl := Nat.le_trans h.2.1 h.2.2.1
  unfold maxLen at hnl
  have hPs := Lib.hid fun w' (x : Ext w w') => (h.keep (S' := fun _ => True) (fun _ _ _ => trivial) (fun _ _ _ => rfl)).ext x
  have hZu := Lib.hid fun w' (x : Ext w w') => zzFits1_any ua un uc u w' (huT.ext x)
  have hTu := Lib.hid fun w' (x : Ext w w') => (huT.keep (S' := fun _ => True) (fun _ _ _ => trivial) (fun _ _ _ => rfl)).ext x
  have hF := Lib.hid fun w' (x : Ext w w') => fits_any sIds rIds a n c ps w' rows_ids (by simp [plainK]) (h.ext x)
  have hFi := Lib.hid fun w' (x : Ext w w') => filled_any ua un uc u w' (huT.ext x)
  have hul := huT.1
  have hQ := Lib.hid fun w' (x : Ext w w') (hup : 0 < un) (hub : un ≤ 2147483647) => ids_any a n c ps w' ua un uc u (huT.ext x) hup hub (h.ext x)
  clear h
  clear huT
  go_enter Try.func5, Try.ntmps5
  by_cases hsz0 : 2147483647 < n
  · go_wp2_with (first
        | (go_at_call 20; refine (hZu.out _ (by (repeat (first | exact ext_refl _ | assumption | refine ext_alloc ?_ _ | refine ext_drew ?_ | refine ext_set ?_ (by simp) _ | refine ext_trans ?_ (by assumption))))).mono ?_; rintro r wzu ⟨bzu, rfl, hzu, hxzu⟩; have HZu := Lib.hid hzu; clear hzu; cases bzu))
    all_goals (go_ret; exact ⟨rfl, by (repeat (first | exact ext_refl _ | assumption | refine ext_alloc ?_ _ | refine ext_drew ?_ | refine ext_set ?_ (by simp) _ | refine ext_trans ?_ (by assumption)))⟩)
  · skip
    go_wp2_with (first
      | (go_at_call 20; refine (hZu.out _ (by (repeat (first | exact ext_refl _ | assumption | refine ext_alloc ?_ _ | refine ext_drew ?_ | refine ext_set ?_ (by simp) _ | refine ext_trans ?_ (by assumption))))).mono ?_; rintro r wzu ⟨bzu, rfl, hzu, hxzu⟩; have HZu := Lib.hid hzu; clear hzu; cases bzu)
      | (go_at_call 26; refine (hFi.out _ (by (repeat (first | exact ext_refl _ | assumption | refine ext_alloc ?_ _ | refine ext_drew ?_ | refine ext_set ?_ (by simp) _ | refine ext_trans ?_ (by assumption))))).mono ?_; rintro r wfi ⟨bfi, rfl, hfi, hxfi⟩; have Hfi := Lib.hid hfi; clear hfi; cases bfi)
      | (go_at_call 15; refine (hF.out _ (by (repeat (first | exact ext_refl _ | assumption | refine ext_alloc ?_ _ | refine ext_drew ?_ | refine ext_set ?_ (by simp) _ | refine ext_trans ?_ (by assumption))))).mono ?_; rintro r wff ⟨bff, rfl, hff, hxff⟩; have Hff := Lib.hid hff; clear hff; cases bff))
    all_goals (try (go_ret; exact ⟨rfl, by (repeat (first | exact ext_refl _ | assumption | refine ext_alloc ?_ _ | refine ext_drew ?_ | refine ext_set ?_ (by simp) _ | refine ext_trans ?_ (by assumption)))⟩))
    have hff := Hff.out (by trivial)
    have hup := (Hfi.out (by trivial)).1
    have hub := HZu.out (by trivial)
    have hfit := Lib.hid (ids_same u hff)
    have hx1 : Ext w wff := by (repeat (first | exact ext_refl _ | assumption | refine ext_alloc ?_ _ | refine ext_drew ?_ | refine ext_set ?_ (by simp) _ | refine ext_trans ?_ (by assumption)))
    refine (hQ.out wff hx1 hup hub).mono ?_
    rintro r w3 ⟨e, rfl, hT, hx3⟩
    simp only [El.val]
    rw [jMap_tree] at hT
    have hb3 : Box (w3.alloc (.cells e.arr 28)) w3.heap.size e.arr 28 := Box.at rfl _ _
    obtain ⟨o0, o1, o2, o3, o4, o5⟩ := hb3.six
    have hx4 : Ext w ((w3.alloc (.cells e.arr 28)).alloc (.cells #[.string s_values] 9)) := ext_alloc (ext_alloc (ext_trans hx1 hx3) _) _
    have hbs : Box ((w3.alloc (.cells e.arr 28)).alloc (.cells #[.string s_values] 9)) (w3.heap.size + 1) #[.string s_values] 9 := Box.at (by simp) _ _
    have hls : StrsAt (fun _ => True) ((w3.alloc (.cells e.arr 28)).alloc (.cells #[.string s_values] 9)) (some ⟨w3.heap.size + 1, 0, none⟩) 1 1 [s_values] := ⟨rfl, Nat.le_refl _, by simp [maxLen], fun i f hf => by
      cases i with
      | zero => simp at hf; subst hf; exact ⟨_, 0, rfl, trivial, hbs.cell 0 _ rfl⟩
      | succ i => simp at hf⟩
    have hul2 : u.length ≠ 0 := by omega
    have hRB := Lib.hid (rb_any (S := fun _ => True) s_ids _ e _ 1 1 [s_values] _ ((hT.ext (ext_alloc (ext_alloc (ext_refl w3) (.cells e.arr 28)) (.cells #[.string s_values] 9))).any) hls (fun k t hl => ⟨(NoNull.append (NoNull.append (noNull_J _ _ (by simp [treeJ, listT, T.kind])) (noNull_N _ _)) (noNull_T _ _)) _ (lastOf_mem hl), fun hh => by
      have hk : s_values = k := by simpa [hasS, seq_iff] using hh
      subst hk
      rw [lastOf_vals] at hl
      cases hl
      exact ⟨rfl, by simpa [treeJ, listT, T.kids] using hul2⟩⟩) (by have h1 := jN_len s_boost (lastOf ps s_boost); have h2 := jT_len s_name (lastOf ps s_name); simp only [List.length_map, List.length_append, List.length_cons, List.length_nil]; omega))
    have hIS := Lib.hid fun w' (x : Ext w w') => idsSpec_any (S := fun _ => True) ua un uc u a n c ps w' (hTu.out _ x) (hPs.out _ x) (by omega)
    clear hQ
    go_wp2_with (first
      | (go_at_call 23; refine hRB.out.mono ?_; rintro r w4 ⟨g4, rfl, hT4, hx5⟩; simp only [El.val]; have hx6 := ext_trans hx4 hx5; clear hRB)
      | (go_at_call 28; refine (hIS.out _ hx6).mono ?_; rintro r w6 ⟨g6, rfl, hT6, hx7⟩; simp only [El.val]; have hSm := Lib.hid (same_any (S := fun _ => True) _ _ g4 g6 _ ((hT4.ext hx7).any) hT6); have hx11 := ext_trans hx6 hx7)
      | (go_at_call 17; refine hSm.out.mono ?_; rintro r w8 ⟨rfl, hx12⟩; rw [hfit.out]))
    go_ret
    exact ⟨rfl, ext_trans hx11 hx12⟩
end Go.Proofs.Ytdpgmmkecghihaa
