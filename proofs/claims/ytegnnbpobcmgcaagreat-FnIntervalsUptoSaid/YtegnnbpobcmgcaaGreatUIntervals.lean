/-
  An intervals query has its field and its rule: the statement FnIntervals where what comes in is of bulk at most 1048576.
-/
import Derived.Test.YtegnnbpobcmgcaaGreatLin
import Derived.Test.YtegnnbpobcmgcaaGreatRows
import Derived.Test.YtegnnbpobcmgcaaGreatOr
namespace Go.Proofs.YtegnnbpobcmgcaaGreat
open Go.RowKit

set_option maxRecDepth 20000 in
set_option maxHeartbeats 4000000 in
theorem intervals_law {S : Nat → Prop} (f : ByteArray) (e0 : Rv) (r0 : Rl) (w : World) (h : RuleAt S w e0 r0) (hSm0 : SmallR 1048576 r0) : Calls Tryz.prog 10 #[.string f, e0.val] w fun r w' => r = .returned (.bool true) ∧ Ext w w' := by
  obtain ⟨ek, ex, esa, esn, esc, eka, ekn, ekc, eva, evn, evc⟩ := e0
  have HR := Lib.hid fun w' (x : Ext w w') => RuleAt.ext x h
  have hSm := Lib.hid hSm0
  have hF := Lib.hid fun w' (x : Ext w w') => (show Calls Tryz.prog 12 #[((⟨ek, ex, esa, esn, esc, eka, ekn, ekc, eva, evn, evc⟩ : Rv)).val, .int .i64 6] w' (Yes (FitR r0) w') from fits_at 6 (by decide) r0 S (⟨ek, ex, esa, esn, esc, eka, ekn, ekc, eva, evn, evc⟩ : Rv) w' (RuleAt.ext x h))
  have hQ := Lib.hid fun w' (x : Ext w w') (hFr : FitR r0) (hf : f.size ≤ maxLen) => intervals_any f hf (⟨ek, ex, esa, esn, esc, eka, ekn, ekc, eva, evn, evc⟩ : Rv) r0 w' (RuleAt.ext x h) hFr hSm0
  clear h hSm0
  simp only [Rv.val]
  have hbt : Box (w.alloc (.cells #[.int .i64 ek, .string ex, .slice esa esn esc, .slice eka ekn ekc, .slice eva evn evc] 26)) w.heap.size #[.int .i64 ek, .string ex, .slice esa esn esc, .slice eka ekn ekc, .slice eva evn evc] 26 := Box.at rfl _ _
  have c0 := hbt.cell 0 _ rfl
  have c1 := hbt.cell 1 _ rfl
  have c2 := hbt.cell 2 _ rfl
  have c3 := hbt.cell 3 _ rfl
  have c4 := hbt.cell 4 _ rfl
  go_enter Tryz.func10, Tryz.ntmps10
  by_cases hsz0 : 2147483647 < f.size
  · go_wp2_with fail
    all_goals (go_ret; exact ⟨rfl, by (repeat (first | exact ext_refl _ | assumption | refine ext_alloc ?_ _ | refine ext_drew ?_ | refine ext_set ?_ (by simp) _ | refine ext_trans ?_ (by assumption)))⟩)
  go_wp2_with (first
    | (go_at_call 21; refine (zzFits4_any (⟨ek, ex, esa, esn, esc, eka, ekn, ekc, eva, evn, evc⟩ : Rv) _).mono ?_; rintro r wz ⟨bz, rfl, hz, hxz⟩; clear hz; have hbz := hbt.ext (show Ext (w.alloc (.cells #[.int .i64 ek, .string ex, .slice esa esn esc, .slice eka ekn ekc, .slice eva evn evc] 26)) wz by (repeat (first | exact ext_refl _ | assumption | refine ext_alloc ?_ _ | refine ext_drew ?_ | refine ext_set ?_ (by simp) _ | refine ext_trans ?_ (by assumption)))); have d0 := hbz.cell 0 _ rfl; have d1 := hbz.cell 1 _ rfl; have d2 := hbz.cell 2 _ rfl; have d3 := hbz.cell 3 _ rfl; have d4 := hbz.cell 4 _ rfl; cases bz)
    | (go_at_call 11; refine (field_any f (by omega) _).mono ?_; rintro r wfd ⟨bfd, rfl, hfd, hxfd⟩; clear hfd; have hbfd := hbt.ext (show Ext (w.alloc (.cells #[.int .i64 ek, .string ex, .slice esa esn esc, .slice eka ekn ekc, .slice eva evn evc] 26)) wfd by (repeat (first | exact ext_refl _ | assumption | refine ext_alloc ?_ _ | refine ext_drew ?_ | refine ext_set ?_ (by simp) _ | refine ext_trans ?_ (by assumption)))); have p0 := hbfd.cell 0 _ rfl; have p1 := hbfd.cell 1 _ rfl; have p2 := hbfd.cell 2 _ rfl; have p3 := hbfd.cell 3 _ rfl; have p4 := hbfd.cell 4 _ rfl; cases bfd)
    | (go_at_call 12; refine (hF.out _ (by (repeat (first | exact ext_refl _ | assumption | refine ext_alloc ?_ _ | refine ext_drew ?_ | refine ext_set ?_ (by simp) _ | refine ext_trans ?_ (by assumption))))).mono ?_; rintro r wff ⟨bff, rfl, hff, hxff⟩; have Hff := Lib.hid hff; clear hff; have hbff := hbt.ext (show Ext (w.alloc (.cells #[.int .i64 ek, .string ex, .slice esa esn esc, .slice eka ekn ekc, .slice eva evn evc] 26)) wff by (repeat (first | exact ext_refl _ | assumption | refine ext_alloc ?_ _ | refine ext_drew ?_ | refine ext_set ?_ (by simp) _ | refine ext_trans ?_ (by assumption)))); have q0 := hbff.cell 0 _ rfl; have q1 := hbff.cell 1 _ rfl; have q2 := hbff.cell 2 _ rfl; have q3 := hbff.cell 3 _ rfl; have q4 := hbff.cell 4 _ rfl; cases bff)
    | fail)
  all_goals (try (go_ret; exact ⟨rfl, by (repeat (first | exact ext_refl _ | assumption | refine ext_alloc ?_ _ | refine ext_drew ?_ | refine ext_set ?_ (by simp) _ | refine ext_trans ?_ (by assumption)))⟩))
  have hFr := Hff.out (by trivial)
  have hx1 : Ext w wff := by (repeat (first | exact ext_refl _ | assumption | refine ext_alloc ?_ _ | refine ext_drew ?_ | refine ext_set ?_ (by simp) _ | refine ext_trans ?_ (by assumption)))
  refine (hQ.out wff hx1 hFr (by unfold maxLen; omega)).mono ?_
  rintro r w3 ⟨e, rfl, hT, hx3⟩
  simp only [El.val]
  go_upto_region 6 with fail
  have hb3 : Box (w3.alloc (.cells e.arr 33)) w3.heap.size e.arr 33 := Box.at rfl _ _
  have hbr := (hbff.ext hx3).alloc (.cells e.arr 33)
  have hxb : Ext w (w3.alloc (.cells e.arr 33)) := ext_alloc (ext_trans hx1 hx3) _
  have hT3 := Lib.hid (hT.ext (ext_alloc (ext_refl w3) (.cells e.arr 33)))
  clear hT
  generalize w3.alloc (.cells e.arr 33) = w4 at hb3 hbr hxb hT3 ⊢
  generalize w3.heap.size = b3 at hb3 ⊢
  refine wp_region_order (fun (w' : World) => Six w' b3 e ∧ RCells w' w.heap.size 0 (⟨ek, ex, esa, esn, esc, eka, ekn, ekc, eva, evn, evc⟩ : Rv)) [0, 1, 2, 3, 4, 9] [0, 1, 2, 3, 4, 5, 6, 7, 8, 9, 10] (by kernel_rfl) (by kernel_rfl) (fun d _ _ _ _ h => by cases d <;> exact h) (by kernel_rfl) ?_
  have hS : (fun (w' : World) => Six w' b3 e ∧ RCells w' w.heap.size 0 (⟨ek, ex, esa, esn, esc, eka, ekn, ekc, eva, evn, evc⟩ : Rv)) _ := ⟨hb3.Six, hbr.cell 0 _ rfl, hbr.cell 1 _ rfl, hbr.cell 2 _ rfl, hbr.cell 3 _ rfl, hbr.cell 4 _ rfl⟩
  (apply ord_held rfl rfl (by assumption) rfl; (focus ((intro w' hS'); go_simp; (try with_reducible rfl))); (try simp only [Act.put, List.setIfInBounds_toArray, List.set_cons_zero, List.set_cons_succ]))
  (apply ord_held rfl rfl (by assumption) rfl; (focus ((intro w' hS'); go_simp; (try with_reducible rfl))); (try simp only [Act.put, List.setIfInBounds_toArray, List.set_cons_zero, List.set_cons_succ]))
  (apply ord_guard rfl rfl (by assumption) rfl; (focus ((intro w' hS'); go_simp; (try with_reducible rfl))); (try simp only [Act.put, List.setIfInBounds_toArray, List.set_cons_zero, List.set_cons_succ]))
  (apply ord_guard rfl rfl (by assumption) rfl; (focus ((intro w' hS'); go_simp; (try with_reducible rfl))); (try simp only [Act.put, List.setIfInBounds_toArray, List.set_cons_zero, List.set_cons_succ]))
  (apply ord_guard rfl rfl (by assumption) rfl; (focus ((intro w' hS'); go_simp; (try with_reducible rfl))); (try simp only [Act.put, List.setIfInBounds_toArray, List.set_cons_zero, List.set_cons_succ]))
  (apply ord_want rfl rfl rfl; intro K hK; go_simp)
  refine (told2 r0 hFr hSm.out _ (⟨ek, ex, esa, esn, esc, eka, ekn, ekc, eva, evn, evc⟩ : Rv) _ (HR.out _ (ext_trans hxb (ext_drew (ext_refl w4))))).mono ?_
  rintro r w5 ⟨g5, rfl, hT5, hx5⟩
  have x5 : Ext w4 w5 := ext_trans (ext_drew (ext_refl w4)) hx5
  have hS1 : (fun (w' : World) => Six w' b3 e ∧ RCells w' w.heap.size 0 (⟨ek, ex, esa, esn, esc, eka, ekn, ekc, eva, evn, evc⟩ : Rv)) w5 := ⟨Six.ext x5 hS.1, RCells.ext x5 hS.2⟩
  refine hK _ _ (fun _ => hS1) ?_
  clear hK K
  simp only [El.val]
  (try simp only [Act.put, List.setIfInBounds_toArray, List.set_cons_zero, List.set_cons_succ])
  (apply ord_want rfl rfl rfl; intro K hK; go_simp)
  obtain ⟨rk, rt, hrt⟩ := ruleT_one r0
  rw [hrt] at hT5
  refine (pairsOf_any _ [(rk, rt)] w5 hT5 (by simp)).mono ?_
  rintro r w6 ⟨v6, es6, rfl, hO6, hP6, hx6⟩
  have hS2 : (fun (w' : World) => Six w' b3 e ∧ RCells w' w.heap.size 0 (⟨ek, ex, esa, esn, esc, eka, ekn, ekc, eva, evn, evc⟩ : Rv)) w6 := ⟨Six.ext hx6 hS1.1, RCells.ext hx6 hS1.2⟩
  refine hK _ _ (fun _ => hS2) ?_
  clear hK K
  (try simp only [Act.put, List.setIfInBounds_toArray, List.set_cons_zero, List.set_cons_succ])
  obtain ⟨pa, pc, hpe, hPA⟩ := hO6.pairs (S := fun _ => True) (ps := [(rk, rt)]) hP6.1 (fun b hb => trivial) (fun i e p he hp => ⟨(hP6.2 i e p he hp).1, (hP6.2 i e p he hp).2.any⟩)
  subst hpe
  (apply ord_want rfl rfl rfl; intro K hK; go_simp)
  refine (infield_any s_intervals f _ _ _ [(rk, rt)] w6 hPA (by simp)).mono ?_
  rintro r w7 ⟨g7, rfl, hT7, hx7⟩
  have hS3 : (fun (w' : World) => Six w' b3 e ∧ RCells w' w.heap.size 0 (⟨ek, ex, esa, esn, esc, eka, ekn, ekc, eva, evn, evc⟩ : Rv)) w7 := ⟨Six.ext hx7 hS2.1, RCells.ext hx7 hS2.2⟩
  refine hK _ _ (fun _ => hS3) ?_
  clear hK K
  simp only [El.val]
  (try simp only [Act.put, List.setIfInBounds_toArray, List.set_cons_zero, List.set_cons_succ])
  have hfit := intervals_same f r0 hFr
  rw [hrt, ← mapT_one] at hfit
  (apply ord_want rfl rfl rfl; intro K hK; go_simp)
  refine (same_any (S := fun _ => True) _ _ e g7 _ ((hT3.out.ext (ext_trans (ext_trans x5 hx6) hx7)).any) (hT7.any)).mono ?_
  rintro r w8 ⟨rfl, hx8⟩
  have hS4 : (fun (w' : World) => Six w' b3 e ∧ RCells w' w.heap.size 0 (⟨ek, ex, esa, esn, esc, eka, ekn, ekc, eva, evn, evc⟩ : Rv)) w8 := ⟨Six.ext hx8 hS3.1, RCells.ext hx8 hS3.2⟩
  refine hK _ _ (fun _ => hS4) ?_
  clear hK K
  rw [hfit]
  (try simp only [Act.put, List.setIfInBounds_toArray, List.set_cons_zero, List.set_cons_succ])
  (apply ord_held rfl rfl (by assumption) rfl; (focus ((intro w' hS'); go_simp; (try with_reducible rfl))); (try simp only [Act.put, List.setIfInBounds_toArray, List.set_cons_zero, List.set_cons_succ]))
  (apply ord_last rfl rfl rfl (by kernel_rfl); intro K hK; go_simp; refine hK _ _ ?_; clear hK K; (try simp only [Act.put, List.setIfInBounds_toArray, List.set_cons_zero, List.set_cons_succ]))
  refine ord_end ?_
  go_wp2_with fail
  go_ret
  exact ⟨rfl, ext_trans hxb (ext_trans (ext_trans (ext_trans x5 hx6) hx7) hx8)⟩
end Go.Proofs.YtegnnbpobcmgcaaGreat

namespace Go.Proofs.YtegnnbpobcmgcaaGreat
open Go.ChangeShapes Go.WideShapes Go.ChangeAt Go.RowKit

set_option maxRecDepth 100000 in
theorem intervals_lifted (os : Os) (started : os.Started) (H : Type) (enc : TypeId × Value → H) (F : Stop.Interp) :
    ReturnsInHanded {} Tryz.checked os 10 .any ((Rows.OpenSpec.upto Rows.fnIntervalsSpec).pre6 enc Tryz.prog Tryz.f10 Rows.fnIntervalsUptoRow.domain false) (((Rows.OpenSpec.upto Rows.fnIntervalsSpec).at F).post enc Tryz.prog Tryz.f10 false true false false) := by
  refine returnsInHanded_of_cond (C := Tryz.checked) (s := Rows.OpenSpec.upto Rows.fnIntervalsSpec) (k := Rows.uptoSmall) rfl ownKnobs started (by kernel_rfl) Tryz.func10
    (OpenSpec.witness (enc := enc) (C := Tryz.checked) (s := Rows.OpenSpec.upto Rows.fnIntervalsSpec) (k := Rows.uptoSmall) rfl false ⟨#[], #[.string ⟨#[]⟩, .agg #[.int .i64 0, .string ⟨#[]⟩, .slice none 0 0, .slice none 0 0, .slice none 0 0]], []⟩ 8 (by kernel_rfl) (by kernel_rfl) (by kernel_rfl)
      (x := ([.lit (.string []), .agg [.lit (.int .i64 0), .lit (.string []), .nil, .nil, .nil]], [], [])) (by kernel_rfl) rfl (by kernel_rfl)) ?_
  intro W base args ds gs before hval hW _ hk _
  have hbulk : Rows.uptoBulkAll (ds ++ gs) ≤ 1048576 := of_decide_eq_true hk
  have hW' := hW
  obtain ⟨p, q, hA, hV, rfl, hfz, hnd⟩ := hW'
  have hA : DataW.TrodAll enc Tryz.prog W 0 (fun _ => true) true Tryz.f10.params.toList args.toList ds p := hA
  rw [Tryz.params10] at hA hval
  obtain ⟨v0, vs0, d0, ds0, p0, q0, hargs, rfl, rfl, h0, r0⟩ := trodAll_cons hA
  obtain ⟨v1, vs1, d1, ds1, p1, q1, rfl, rfl, rfl, h1, r1⟩ := trodAll_cons r0
  obtain ⟨rfl, rfl, rfl⟩ := trodAll_nil r1
  obtain rfl : args = #[v0, v1] := by cases args; simp_all
  obtain ⟨rfl, rfl⟩ := trodVars_none hV
  obtain ⟨s0, rfl, rfl, rfl, w0⟩ := Go.ChangeMaps.open_string Tryz.underlying9 (hval 0 9 v0 rfl rfl) h0
  obtain ⟨fuel1, hf1⟩ := h1
  obtain ⟨e1, t1, he1, hP1, hSm1⟩ := rule_valS (hval 1 26 v1 rfl rfl) hf1
  subst he1
  simp only [List.append_nil, Rows.uptoBulkAll] at hbulk
  refine (intervals_law s0 e1 t1 W hP1 (SmallR.mono (show Rows.uptoBulk d1 ≤ 1048576 by omega) hSm1)).mono fun e W' ⟨he, hx⟩ => ?_
  subst he
  exact ⟨_, rfl, post_law (s := Rows.fnIntervalsSpec) laidOut (by kernel_rfl) (by kernel_rfl) Tryz.underlying4 rfl hW rfl hx⟩

/-- An intervals query has its field and its rule: where what comes in is of bulk at most 1048576. -/
theorem intervals_proved : Rows.FnIntervalsUptoSaid :=
  OpenClaim.holds_of_cond 10 Tryz.f10 rfl rfl rfl rfl rfl rfl rfl ⟨rfl, rfl, rfl, rfl, rfl⟩ rfl rfl rfl rfl rfl (by kernel_rfl) Tryz.func10 (by kernel_rfl)
    (of_decide_eq_true (by kernel_rfl)) (by unfold Func.isWrapper; first | (rw [if_pos (by decide +kernel)]; kernel_rfl) | (rw [if_neg (by decide +kernel)]; exact ⟨rfl, rfl⟩))
    (fun os started H enc _ F => intervals_lifted os started H enc F)
#print axioms intervals_proved
end Go.Proofs.YtegnnbpobcmgcaaGreat

