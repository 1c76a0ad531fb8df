/-
  A bound that is included, or not, is the same as the bound and that it is included, or not.
-/
import Derived.Test.YtdpgmmkecghihaaIRange
import Derived.Test.YtdpgmmkecghihaaBd
import Derived.Test.YtdpgmmkecghihaaTu
namespace Go.Proofs.Ytdpgmmkecghihaa
open Go.RowKit

theorem bound_hit {a b c : ByteArray} {n : ByteArray} {t : T} (h : n = a ∨ n = b ∨ n = c) : bound a b c [(n, t)] = some t := by
  unfold bound
  simp only [List.foldl_cons, List.foldl_nil]
  rcases h with h | h | h
  · rw [if_pos h]
  · by_cases h1 : n = a
    · rw [if_pos h1]
    · rw [if_neg h1, if_pos h]
  · by_cases h1 : n = a
    · rw [if_pos h1]
    · by_cases h2 : n = b
      · rw [if_neg h1, if_pos h2]
      · rw [if_neg h1, if_neg h2, if_pos h]
theorem bound_cons_miss {a b c : ByteArray} {ps : List (ByteArray × T)} {n : ByteArray} {t : T} (h1 : n ≠ a) (h2 : n ≠ b) (h3 : n ≠ c) : bound a b c (ps ++ [(n, t)]) = bound a b c ps := by
  unfold bound
  rw [List.foldl_append]
  simp only [List.foldl_cons, List.foldl_nil]
  rw [if_neg h1, if_neg h2, if_neg h3]
theorem rangeMade_eq (f : ByteArray) (up inc : Bool) (t : T) : rangeJ f (inSteps up inc t) = rangeJ f [(atOnce up inc, t)] := by
  have hL : ∀ k : ByteArray, k = s_time_zone ∨ k = s_format ∨ k = s_relation ∨ k = s_boost ∨ k = s_name → lastOf (inSteps up inc t) k = none ∧ lastOf [(atOnce up inc, t)] k = none := fun k hk => by
    constructor
    · refine lastOf_none fun i p hp e => ?_
      have hm := List.mem_of_getElem? hp
      cases up <;> simp only [inSteps, if_true, if_false, Bool.false_eq_true, List.mem_cons, List.not_mem_nil, or_false] at hm <;> rcases hm with rfl | rfl <;> rcases hk with rfl | rfl | rfl | rfl | rfl <;> (dsimp only at e; exact absurd e (by decide))
    · refine lastOf_none fun i p hp e => ?_
      have hm := List.mem_of_getElem? hp
      cases up <;> cases inc <;> simp only [atOnce, if_true, if_false, Bool.false_eq_true, List.mem_cons, List.not_mem_nil, or_false] at hm <;> subst hm <;> rcases hk with rfl | rfl | rfl | rfl | rfl <;> (dsimp only at e; exact absurd e (by decide))
  unfold rangeJ
  rw [(hL s_time_zone (by simp)).1, (hL s_time_zone (by simp)).2, (hL s_format (by simp)).1, (hL s_format (by simp)).2, (hL s_relation (by simp)).1, (hL s_relation (by simp)).2, (hL s_boost (by simp)).1, (hL s_boost (by simp)).2, (hL s_name (by simp)).1, (hL s_name (by simp)).2]
  have h1 : bound s_from s_gt s_gte (inSteps up inc t) = bound s_from s_gt s_gte [(atOnce up inc, t)] := by cases up <;> cases inc <;> rfl
  have h2 : bound s_to s_lt s_lte (inSteps up inc t) = bound s_to s_lt s_lte [(atOnce up inc, t)] := by cases up <;> cases inc <;> rfl
  have h3 : incl s_gt s_gte s_include_lower (inSteps up inc t) = incl s_gt s_gte s_include_lower [(atOnce up inc, t)] := by cases up <;> cases inc <;> rfl
  have h4 : incl s_lt s_lte s_include_upper (inSteps up inc t) = incl s_lt s_lte s_include_upper [(atOnce up inc, t)] := by cases up <;> cases inc <;> rfl
  rw [h1, h2, h3, h4]
theorem jU_self {o : Option T} (h : ∀ t, o = some t → scalarT t = true) : sameT (treeJ (jU o)) (treeJ (jU o)) = true := by
  cases o with
  | none => exact sameT_self _ (by decide)
  | some t =>
    unfold jU
    dsimp only
    split
    · exact sameT_self _ (by decide)
    · exact jOf_self (h t rfl)
theorem bound_mem {a b c : ByteArray} {n : ByteArray} {t t' : T} (h : bound a b c [(n, t)] = some t') : t' = t := by
  unfold bound at h
  simp only [List.foldl_cons, List.foldl_nil] at h
  split at h
  · exact (Option.some.inj h).symm
  · split at h
    · exact (Option.some.inj h).symm
    · split at h
      · exact (Option.some.inj h).symm
      · cases h
theorem rangeMade_same (f : ByteArray) (up inc : Bool) (t : T) (hs : scalarT t = true) : sameT (treeJ (rangeJ f [(atOnce up inc, t)])) (treeJ (rangeJ f [(atOnce up inc, t)])) = true := by
  have hb : lastOf [(atOnce up inc, t)] s_boost = none := lastOf_none fun i p hp e => by
    have hm := List.mem_of_getElem? hp
    cases up <;> cases inc <;> simp only [atOnce, if_true, if_false, Bool.false_eq_true, List.mem_cons, List.not_mem_nil, or_false] at hm <;> subst hm <;> (dsimp only at e; exact absurd e (by decide))
  unfold rangeJ
  rw [hb]
  rw [treeJ_jMap]
  refine selfs_map (Selfs.one ?_)
  rw [treeJ_jMap, List.map_append]
  refine selfs_map (Selfs.append (Selfs.one ?_) (jT_self _ _))
  rw [treeJ_jMap]
  refine selfs_map ?_
  simp only [List.map_append]
  refine Selfs.append (Selfs.append (Selfs.append (Selfs.append (Selfs.append (Selfs.append (Selfs.append (Selfs.one ?_) (Selfs.one ?_)) (jT_self _ _)) (jT_self _ _)) (jT_self _ _)) ?_) (Selfs.one (sameT_self _ (okT_yes _)))) (Selfs.one (sameT_self _ (okT_yes _)))
  · exact jU_self fun t' h => by rw [bound_mem h]; exact hs
  · exact jU_self fun t' h => by rw [bound_mem h]; exact hs
  · exact fun p hp => by simp [jN] at hp
set_option maxRecDepth 20000 in
set_option maxHeartbeats 4000000 in
theorem rangeMade_law {S : Nat → Prop} (f : ByteArray) (ge : El) (gt : T) (up : Bool) (inc : Bool) (w : World) (hgT : TreeAt S w ge gt) : Calls Try.prog 14 #[.string f, ge.val, .bool up, .bool inc] w fun r w' => r = .returned (.bool true) ∧ Ext w w' := by
  obtain ⟨gk, gx, gd, gy, gka, gn, gkc, gca, gm, gcc⟩ := ge
  have hZg := Lib.hid fun w' (x : Ext w w') => zzFits5_any (⟨gk, gx, gd, gy, gka, gn, gkc, gca, gm, gcc⟩ : El) gt w' (hgT.ext x)
  have hTg := Lib.hid fun w' (x : Ext w w') => (TreeAt.ext x hgT).any
  have hAO := Lib.hid fun w' (x : Ext w w') => atOnce_any (⟨gk, gx, gd, gy, gka, gn, gkc, gca, gm, gcc⟩ : El) gt up inc w' (TreeAt.ext x hgT)
  have hIS := Lib.hid fun w' (x : Ext w w') => inSteps_any (⟨gk, gx, gd, gy, gka, gn, gkc, gca, gm, gcc⟩ : El) gt up inc w' (TreeAt.ext x hgT)
  clear hgT
  simp only [El.val]
  have hbtg : Box (w.alloc (.cells (⟨gk, gx, gd, gy, gka, gn, gkc, gca, gm, gcc⟩ : El).arr 28)) w.heap.size (⟨gk, gx, gd, gy, gka, gn, gkc, gca, gm, gcc⟩ : El).arr 28 := Box.at rfl _ _
  go_enter Try.func14, Try.ntmps14
  by_cases hsz0 : 2147483647 < f.size
  · go_wp2_with (first
        | (go_at_call 32; refine (hZg.out _ (by (repeat (first | exact ext_refl _ | assumption | refine ext_alloc ?_ _ | refine ext_drew ?_ | refine ext_set ?_ (by simp) _ | refine ext_trans ?_ (by assumption))))).mono ?_; rintro r wzg ⟨bzg, rfl, hzg, hxzg⟩; have HZg := Lib.hid hzg; clear hzg; have hbtg_wzg := hbtg.ext (show Ext (w.alloc (.cells (⟨gk, gx, gd, gy, gka, gn, gkc, gca, gm, gcc⟩ : El).arr 28)) wzg by (repeat (first | exact ext_refl _ | assumption | refine ext_alloc ?_ _ | refine ext_drew ?_ | refine ext_set ?_ (by simp) _ | refine ext_trans ?_ (by assumption)))); obtain ⟨og0, og1, og2, og3, og4, og5⟩ := hbtg_wzg.six; cases bzg))
    all_goals (go_ret; exact ⟨rfl, by (repeat (first | exact ext_refl _ | assumption | refine ext_alloc ?_ _ | refine ext_drew ?_ | refine ext_set ?_ (by simp) _ | refine ext_trans ?_ (by assumption)))⟩)
  · skip
    go_wp2_with (first
      | (go_at_call 32; refine (hZg.out _ (by (repeat (first | exact ext_refl _ | assumption | refine ext_alloc ?_ _ | refine ext_drew ?_ | refine ext_set ?_ (by simp) _ | refine ext_trans ?_ (by assumption))))).mono ?_; rintro r wzg ⟨bzg, rfl, hzg, hxzg⟩; have HZg := Lib.hid hzg; clear hzg; have hbtg_wzg := hbtg.ext (show Ext (w.alloc (.cells (⟨gk, gx, gd, gy, gka, gn, gkc, gca, gm, gcc⟩ : El).arr 28)) wzg by (repeat (first | exact ext_refl _ | assumption | refine ext_alloc ?_ _ | refine ext_drew ?_ | refine ext_set ?_ (by simp) _ | refine ext_trans ?_ (by assumption)))); obtain ⟨og0, og1, og2, og3, og4, og5⟩ := hbtg_wzg.six; cases bzg)
      | (go_at_call 33; refine (scalar_yes _ _ _ (hTg.out _ (by (repeat (first | exact ext_refl _ | assumption | refine ext_alloc ?_ _ | refine ext_drew ?_ | refine ext_set ?_ (by simp) _ | refine ext_trans ?_ (by assumption)))))).mono ?_; rintro r wscg ⟨bscg, rfl, hscg, hxscg⟩; have Hscg := Lib.hid hscg; clear hscg; have hbtg_wscg := hbtg.ext (show Ext (w.alloc (.cells (⟨gk, gx, gd, gy, gka, gn, gkc, gca, gm, gcc⟩ : El).arr 28)) wscg by (repeat (first | exact ext_refl _ | assumption | refine ext_alloc ?_ _ | refine ext_drew ?_ | refine ext_set ?_ (by simp) _ | refine ext_trans ?_ (by assumption)))); obtain ⟨og0, og1, og2, og3, og4, og5⟩ := hbtg_wscg.six; cases bscg)
      | (go_at_call 21; refine (field_any f (by omega) _).mono ?_; rintro r wfdf ⟨bfdf, rfl, hfdf, hxfdf⟩; have Hfdf := Lib.hid hfdf; clear hfdf; have hbtg_wfdf := hbtg.ext (show Ext (w.alloc (.cells (⟨gk, gx, gd, gy, gka, gn, gkc, gca, gm, gcc⟩ : El).arr 28)) wfdf by (repeat (first | exact ext_refl _ | assumption | refine ext_alloc ?_ _ | refine ext_drew ?_ | refine ext_set ?_ (by simp) _ | refine ext_trans ?_ (by assumption)))); obtain ⟨og0, og1, og2, og3, og4, og5⟩ := hbtg_wfdf.six; cases bfdf))
    all_goals (try (go_ret; exact ⟨rfl, by (repeat (first | exact ext_refl _ | assumption | refine ext_alloc ?_ _ | refine ext_drew ?_ | refine ext_set ?_ (by simp) _ | refine ext_trans ?_ (by assumption)))⟩))
    have hgS := Hscg.out (by trivial)
    have hfit := Lib.hid (rangeMade_same f up inc gt hgS)
    have hU1 : ∀ p ∈ [(atOnce up inc, gt)], UT p.2 := fun p hp => by simp only [List.mem_cons, List.not_mem_nil, or_false] at hp; subst hp; exact .inr (scalar_kind hgS)
    have hU2 : ∀ p ∈ inSteps up inc gt, UT p.2 := fun p hp => by
      cases up <;> simp only [inSteps, if_true, if_false, Bool.false_eq_true, List.mem_cons, List.not_mem_nil, or_false] at hp <;> rcases hp with rfl | rfl
      · exact .inr (scalar_kind hgS)
      · exact .inr (.inr (.inr rfl))
      · exact .inr (scalar_kind hgS)
      · exact .inr (.inr (.inr rfl))
    have hU1 := Lib.hid hU1
    have hU2 := Lib.hid hU2
    have hb1 : Ext (w.alloc (.cells (⟨gk, gx, gd, gy, gka, gn, gkc, gca, gm, gcc⟩ : El).arr 28)) wfdf := by (repeat (first | exact ext_refl _ | assumption | refine ext_alloc ?_ _ | refine ext_drew ?_ | refine ext_set ?_ (by simp) _ | refine ext_trans ?_ (by assumption)))
    have hx1 : Ext w wfdf := by (repeat (first | exact ext_refl _ | assumption | refine ext_alloc ?_ _ | refine ext_drew ?_ | refine ext_set ?_ (by simp) _ | refine ext_trans ?_ (by assumption)))
    refine (hAO.out wfdf hx1).mono ?_
    rintro r w2 ⟨a1, c1, rfl, hP1, hx2⟩
    have hx2' := ext_trans hx1 hx2
    have hb2 := ext_trans hb1 hx2
    have tokA := trivial
    have tokB := trivial
    go_wp2_with (first
      | (go_at_call 51; have _t := tokA; clear _t tokA; refine (range_any a1 1 c1 _ w2 f (by unfold maxLen; omega) (fun p hp _ => hU1.out p hp) hP1).mono ?_; rintro r w3 ⟨e, rfl, hT, hx3⟩; simp only [El.val]
         have hb3 : Box (w3.alloc (.cells e.arr 28)) w3.heap.size e.arr 28 := Box.at rfl _ _
         have hx4 : Ext w (w3.alloc (.cells e.arr 28)) := ext_alloc (ext_trans hx2' hx3) _
         have hb4 := ext_alloc (ext_trans hb2 hx3) (.cells e.arr 28)
         have hT1 := Lib.hid ((hT.ext (ext_alloc (ext_refl w3) (.cells e.arr 28))).any)
         clear hT
         obtain ⟨o0, o1, o2, o3, o4, o5⟩ := (hbtg.ext hb4).six)
      | (go_at_call 53; refine (hIS.out _ hx4).mono ?_; rintro r w5 ⟨a2, c2, rfl, hP2, hx5⟩)
      | (go_at_call 51; have _t := tokB; clear _t tokB; refine (range_any a2 2 c2 _ w5 f (by unfold maxLen; omega) (fun p hp _ => hU2.out p hp) hP2).mono ?_; rintro r w6 ⟨e2, rfl, hT2, hx6⟩; simp only [El.val]
         rw [rangeMade_eq] at hT2
         have hb6 : Box (w6.alloc (.cells e2.arr 28)) w6.heap.size e2.arr 28 := Box.at rfl _ _
         have hx7 : Ext (w3.alloc (.cells e.arr 28)) (w6.alloc (.cells e2.arr 28)) := ext_alloc (ext_trans hx5 hx6) _
         obtain ⟨p0, p1, p2, p3, p4, p5⟩ := (hb3.ext hx7).six
         obtain ⟨q0, q1, q2, q3, q4, q5⟩ := hb6.six
         have hx8 := ext_trans hx4 hx7
         have hSm := Lib.hid (same_any (S := fun _ => True) _ _ e e2 _ (hT1.out.ext hx7) ((hT2.ext (ext_alloc (ext_refl w6) (.cells e2.arr 28))).any)))
      | (go_at_call 17; refine hSm.out.mono ?_; rintro r w8 ⟨rfl, hx12⟩; rw [hfit.out]))
    go_ret
    exact ⟨rfl, ext_trans hx8 hx12⟩
end Go.Proofs.Ytdpgmmkecghihaa
