/-
  The law of a terms query (Terms).
-/
import Derived.Test.YtdpgmmkecghihaaITerms
import Derived.Test.YtdpgmmkecghihaaTermsL
namespace Go.Proofs.Ytdpgmmkecghihaa
open Go.RowKit

theorem scalars_yes {S : Nat → Prop} (a : Option Addr) (n c : Nat) (ts : List T) (w : World) (h : KidsAt S w a n c ts) : Calls Try.prog 37 #[.slice a n c] w (Yes ((∀ t ∈ ts, scalarT t = true) ∧ 0 < ts.length) w) :=
  (scalars_any a n c ts w h).mono fun _ _ ⟨h1, h2⟩ => ⟨_, h1, fun hs => by
    simp only [scalarsT, Bool.and_eq_true, List.all_eq_true, decide_eq_true_eq] at hs
    exact hs, h2⟩
set_option maxHeartbeats 4000000 in
theorem terms_law {S : Nat → Prop} (f : ByteArray) (ua : Option Addr) (un uc : Nat) (u : List T) (a : Option Addr) (n c : Nat) (ps : List (ByteArray × T)) (w : World) (huT : KidsAt S w ua un uc u) (h : PairsAt S w a n c ps) : Calls Try.prog 8 #[.string f, .slice ua un uc, .slice a n c] w fun r w' => r = .returned (.bool true) ∧ Ext w w' := by
  have hnl := Nat.le_trans h.2.1 h.2.2.1
  unfold maxLen at hnl
  have hPs := Lib.hid fun w' (x : Ext w w') => (h.keep (S' := fun _ => True) (fun _ _ _ => trivial) (fun _ _ _ => rfl)).ext x
  have hnu := Nat.le_trans huT.2.1 huT.2.2.1
  unfold maxLen at hnu
  have hTu := Lib.hid fun w' (x : Ext w w') => (huT.keep (S' := fun _ => True) (fun _ _ _ => trivial) (fun _ _ _ => rfl)).ext x
  have hF := Lib.hid fun w' (x : Ext w w') => fits_any sTerms rTerms a n c ps w' rows_terms (by simp [plainK]) (h.ext x)
  have hul := huT.1
  have hSc := Lib.hid fun w' (x : Ext w w') => scalars_yes ua un uc u w' (huT.ext x)
  have hQ := Lib.hid fun w' (x : Ext w w') (hup : 0 < un) (hub : un ≤ 2147483647) (hf_le : f.size ≤ maxLen) (hss : ∀ t ∈ u, scalarT t = true) => terms_any a n c ps w' f hf_le ua un uc u (huT.ext x) hup hub (fun t ht => scalar_kind (hss t ht)) (h.ext x)
  clear h
  clear huT
  go_enter Try.func8, Try.ntmps8
  by_cases hsz0 : 2147483647 < f.size
  · go_wp2_with fail
    all_goals (go_ret; exact ⟨rfl, by (repeat (first | exact ext_refl _ | assumption | refine ext_alloc ?_ _ | refine ext_drew ?_ | refine ext_set ?_ (by simp) _ | refine ext_trans ?_ (by assumption)))⟩)
  · skip
    by_cases hsz1 : 2147483647 < un
    · go_wp2_with fail
      all_goals (go_ret; exact ⟨rfl, by (repeat (first | exact ext_refl _ | assumption | refine ext_alloc ?_ _ | refine ext_drew ?_ | refine ext_set ?_ (by simp) _ | refine ext_trans ?_ (by assumption)))⟩)
    · skip
      by_cases hsz2 : 2147483647 < n
      · go_wp2_with fail
        all_goals (go_ret; exact ⟨rfl, by (repeat (first | exact ext_refl _ | assumption | refine ext_alloc ?_ _ | refine ext_drew ?_ | refine ext_set ?_ (by simp) _ | refine ext_trans ?_ (by assumption)))⟩)
      · skip
        go_wp2_with (first
          | (go_at_call 37; refine (hSc.out _ (by (repeat (first | exact ext_refl _ | assumption | refine ext_alloc ?_ _ | refine ext_drew ?_ | refine ext_set ?_ (by simp) _ | refine ext_trans ?_ (by assumption))))).mono ?_; rintro r wsc ⟨bsc, rfl, hsc, hxsc⟩; have Hsc := Lib.hid hsc; clear hsc; cases bsc)
          | (go_at_call 21; refine (field_any f (by omega) _).mono ?_; rintro r wfdf ⟨bfdf, rfl, hfdf, hxfdf⟩; have Hfdf := Lib.hid hfdf; clear hfdf; cases bfdf)
          | (go_at_call 15; refine (hF.out _ (by (repeat (first | exact ext_refl _ | assumption | refine ext_alloc ?_ _ | refine ext_drew ?_ | refine ext_set ?_ (by simp) _ | refine ext_trans ?_ (by assumption))))).mono ?_; rintro r wff ⟨bff, rfl, hff, hxff⟩; have Hff := Lib.hid hff; clear hff; cases bff))
        all_goals (try (go_ret; exact ⟨rfl, by (repeat (first | exact ext_refl _ | assumption | refine ext_alloc ?_ _ | refine ext_drew ?_ | refine ext_set ?_ (by simp) _ | refine ext_trans ?_ (by assumption)))⟩))
        have hff := Hff.out (by trivial)
        have hsc := Hsc.out (by trivial)
        have hup : 0 < un := by rw [← hul]; exact hsc.2
        have hub : un ≤ 2147483647 := by omega
        have hss := hsc.1
        have hx1 : Ext w wff := by (repeat (first | exact ext_refl _ | assumption | refine ext_alloc ?_ _ | refine ext_drew ?_ | refine ext_set ?_ (by simp) _ | refine ext_trans ?_ (by assumption)))
        have hfit := Lib.hid (terms_same (f := f) (Hfdf.out (by trivial)) hff (list_jOf hss))
        refine (hQ.out wff hx1 hup hub (by unfold maxLen; omega) hss).mono ?_
        rintro r w3 ⟨e, rfl, hT, hx3⟩
        simp only [El.val]
        rw [jMap_tree] at hT
        have hb3 : Box (w3.alloc (.cells e.arr 28)) w3.heap.size e.arr 28 := Box.at rfl _ _
        obtain ⟨o0, o1, o2, o3, o4, o5⟩ := hb3.six
        have hx4 : Ext w (w3.alloc (.cells e.arr 28)) := ext_alloc (ext_trans hx1 hx3) _
        have hRB := Lib.hid (rb_any (S := fun _ => True) s_terms _ e none 0 0 [] _ ((hT.ext (ext_alloc (ext_refl w3) (.cells e.arr 28))).any) (strs_none _) (fun k t hl => ⟨(NoNull.append (NoNull.append (noNull_J _ _ (by simp [treeJ, listT, T.kind])) (noNull_N _ _)) (noNull_T _ _)) _ (lastOf_mem hl), fun hh => by simp [hasS] at hh⟩) (by have h1 := jN_len s_boost (lastOf ps s_boost); have h2 := jT_len s_name (lastOf ps s_name); simp only [List.length_map, List.length_append, List.length_cons, List.length_nil]; omega))
        clear hQ
        go_wp2_with (first
          | (go_at_call 23; refine hRB.out.mono ?_; rintro r w4 ⟨g4, rfl, hT4, hx5⟩; simp only [El.val]; have hx6 := ext_trans hx4 hx5; clear hRB)
          | (go_at_call 39; refine (list_any (S := fun _ => True) ua un uc u _ (hTu.out _ hx6)).mono ?_; rintro r w5 ⟨g5, rfl, hT5, hx7⟩; simp only [El.val]; have hx8 := ext_trans hx6 hx7; have hTS := Lib.hid (termsSpec_any (S := fun _ => True) f g5 _ a n c ps w5 hT5.any (hPs.out _ hx8)))
          | (go_at_call 24; refine hTS.out.mono ?_; rintro r w6 ⟨g6, rfl, hT6, hx9⟩; simp only [El.val]; have hSm := Lib.hid (same_any (S := fun _ => True) _ _ g4 g6 _ ((hT4.ext (ext_trans hx7 hx9)).any) hT6); have hx11 := ext_trans hx8 hx9)
          | (go_at_call 17; refine hSm.out.mono ?_; rintro r w8 ⟨rfl, hx12⟩; rw [hfit.out]))
        go_ret
        exact ⟨rfl, ext_trans hx11 hx12⟩
end Go.Proofs.Ytdpgmmkecghihaa
