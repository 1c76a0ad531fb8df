/-
  A rule of intervals (all_of) has its rules in order, and its settings: the statement FnRuleAllOf where what comes in is of bulk at most 1048576.
-/
import Derived.Test.YtegnnbpobcmgcaaGreatMat
import Derived.Test.YtegnnbpobcmgcaaGreatRows
import Derived.Test.YtegnnbpobcmgcaaGreatOr
namespace Go.Proofs.YtegnnbpobcmgcaaGreat
open Go.RowKit

set_option maxRecDepth 20000 in
set_option maxHeartbeats 4000000 in
theorem ruleAllOf_law {S : Nat → Prop} (f : ByteArray) (la : Option Addr) (ln lc : Nat) (ls : List ByteArray) (a : Option Addr) (n c : Nat) (ps : List (ByteArray × T)) (w : World) (hl : StrsAt S w la ln lc ls) (hb : ln ≤ 1048576) (h : PairsAt S w a n c ps) : Calls Tryz.prog 7 #[.string f, .slice la ln lc, .slice a n c] w fun r w' => r = .returned (.bool true) ∧ Ext w w' := by
  have hnl := Nat.le_trans h.2.1 h.2.2.1
  unfold maxLen at hnl
  have HPS := Lib.hid fun w' (x : Ext w w') => (h.keep (S' := fun _ => True) (fun _ _ _ => trivial) (fun _ _ _ => rfl)).ext x
  clear h
  have hll := hl.1
  have hZ := Lib.hid fun w' (x : Ext w w') => zzFits1_any la ln lc ls w' (hl.ext x)
  have hM := Lib.hid fun w' (x : Ext w w') => matches_any la ln lc ls w' (hl.ext x) hb
  clear hl
  go_enter Tryz.func7, Tryz.ntmps7
  by_cases hsz0 : 2147483647 < f.size
  · go_wp2_with fail
    all_goals (go_ret; exact ⟨rfl, by (repeat (first | exact ext_refl _ | assumption | refine ext_alloc ?_ _ | refine ext_drew ?_ | refine ext_set ?_ (by simp) _ | refine ext_trans ?_ (by assumption)))⟩)
  by_cases hsz2 : 2147483647 < n
  · go_wp2_with (first
      | (go_at_call 18; refine (hZ.out _ (by (repeat (first | exact ext_refl _ | assumption | refine ext_alloc ?_ _ | refine ext_drew ?_ | refine ext_set ?_ (by simp) _ | refine ext_trans ?_ (by assumption))))).mono ?_; rintro r wz ⟨bz, rfl, hz, hxz⟩; clear hz; cases bz)
      | fail)
    all_goals (go_ret; exact ⟨rfl, by (repeat (first | exact ext_refl _ | assumption | refine ext_alloc ?_ _ | refine ext_drew ?_ | refine ext_set ?_ (by simp) _ | refine ext_trans ?_ (by assumption)))⟩)
  go_wp2_with (first
    | (go_at_call 18; refine (hZ.out _ (by (repeat (first | exact ext_refl _ | assumption | refine ext_alloc ?_ _ | refine ext_drew ?_ | refine ext_set ?_ (by simp) _ | refine ext_trans ?_ (by assumption))))).mono ?_; rintro r wz ⟨bz, rfl, hz, hxz⟩; clear hz; cases bz)
    | (go_at_call 19; refine (hM.out _ (by (repeat (first | exact ext_refl _ | assumption | refine ext_alloc ?_ _ | refine ext_drew ?_ | refine ext_set ?_ (by simp) _ | refine ext_trans ?_ (by assumption))))).mono ?_; rintro r wm ⟨ka, kc, rfl, hks, hxm⟩
       have hxw : Ext w wm := by (repeat (first | exact ext_refl _ | assumption | refine ext_alloc ?_ _ | refine ext_drew ?_ | refine ext_set ?_ (by simp) _ | refine ext_trans ?_ (by assumption)))
       have hRA : RuleAt (fun _ => True) wm (⟨4, ⟨#[]⟩, a, n, c, ka, ln, kc, none, 0, 0⟩ : Rv) (Rl.mk 4 ⟨#[]⟩ ps (ls.map matchR) [] []) := by
         simp only [RuleAt, RowR]
         exact ⟨trivial, trivial, HPS.out wm hxw, ⟨hks.1, hks.2.1, hks.2.2.1⟩, (hks.keep (S' := fun _ => True) (fun _ _ _ => trivial) (fun _ _ _ => rfl)).2.2.2, ⟨rfl, rfl, Nat.le_refl _, Nat.zero_le _⟩, fun i nm hi => by simp at hi, trivial⟩
       have hSm0 : SmallR 1048576 (Rl.mk 4 ⟨#[]⟩ ps (ls.map matchR) [] []) := by
         simp only [SmallR]
         refine ⟨by rw [List.length_map]; omega, Nat.zero_le _, (smallRs_iff _ _).2 fun r hr => ?_, trivial⟩
         obtain ⟨s, -, rfl⟩ := List.mem_map.1 hr
         exact matchR_small _ s
       have HR0 := Lib.hid fun w' (x : Ext wm w') => RuleAt.ext x hRA
       have hSm := Lib.hid hSm0
       have hF := Lib.hid fun w' (x1 : Ext wm w') => (show Calls Tryz.prog 12 #[((⟨4, ⟨#[]⟩, a, n, c, ka, ln, kc, none, 0, 0⟩ : Rv)).val, .int .i64 2] w' (Yes (FitR (Rl.mk 4 ⟨#[]⟩ ps (ls.map matchR) [] [])) w') from fits_at 2 (by decide) (Rl.mk 4 ⟨#[]⟩ ps (ls.map matchR) [] []) _ (⟨4, ⟨#[]⟩, a, n, c, ka, ln, kc, none, 0, 0⟩ : Rv) w' (RuleAt.ext x1 hRA))
       have hQ := Lib.hid fun w' (x1 : Ext wm w') (hFr : FitR (Rl.mk 4 ⟨#[]⟩ ps (ls.map matchR) [] [])) (hf : f.size ≤ maxLen) => intervals_any f hf (⟨4, ⟨#[]⟩, a, n, c, ka, ln, kc, none, 0, 0⟩ : Rv) (Rl.mk 4 ⟨#[]⟩ ps (ls.map matchR) [] []) w' (RuleAt.ext x1 hRA) hFr hSm0
       clear hSm0 hRA hks
       have hbt : Box (wm.alloc (.cells #[.int .i64 4, .string ⟨#[]⟩, .slice a n c, .slice ka ln kc, .slice none 0 0] 26)) wm.heap.size #[.int .i64 4, .string ⟨#[]⟩, .slice a n c, .slice ka ln kc, .slice none 0 0] 26 := Box.at rfl _ _
       have c0 := hbt.cell 0 _ rfl
       have c1 := hbt.cell 1 _ rfl
       have c2 := hbt.cell 2 _ rfl
       have c3 := hbt.cell 3 _ rfl
       have c4 := hbt.cell 4 _ rfl)
    | (go_at_call 11; refine (field_any f (by omega) _).mono ?_; rintro r wfd ⟨bfd, rfl, hfd, hxfd⟩; clear hfd; have hbfd := hbt.ext (show Ext (wm.alloc (.cells #[.int .i64 4, .string ⟨#[]⟩, .slice a n c, .slice ka ln kc, .slice none 0 0] 26)) wfd by (repeat (first | exact ext_refl _ | assumption | refine ext_alloc ?_ _ | refine ext_drew ?_ | refine ext_set ?_ (by simp) _ | refine ext_trans ?_ (by assumption)))); have p0 := hbfd.cell 0 _ rfl; have p1 := hbfd.cell 1 _ rfl; have p2 := hbfd.cell 2 _ rfl; have p3 := hbfd.cell 3 _ rfl; have p4 := hbfd.cell 4 _ rfl; cases bfd)
    | (go_at_call 12; refine (hF.out _ (by (repeat (first | exact ext_refl _ | assumption | refine ext_alloc ?_ _ | refine ext_drew ?_ | refine ext_set ?_ (by simp) _ | refine ext_trans ?_ (by assumption))))).mono ?_; rintro r wff ⟨bff, rfl, hff, hxff⟩; have Hff := Lib.hid hff; clear hff; have hbff := hbt.ext (show Ext (wm.alloc (.cells #[.int .i64 4, .string ⟨#[]⟩, .slice a n c, .slice ka ln kc, .slice none 0 0] 26)) wff by (repeat (first | exact ext_refl _ | assumption | refine ext_alloc ?_ _ | refine ext_drew ?_ | refine ext_set ?_ (by simp) _ | refine ext_trans ?_ (by assumption)))); have q0 := hbff.cell 0 _ rfl; have q1 := hbff.cell 1 _ rfl; have q2 := hbff.cell 2 _ rfl; have q3 := hbff.cell 3 _ rfl; have q4 := hbff.cell 4 _ rfl; cases bff)
    | fail)
  all_goals (try (go_ret; exact ⟨rfl, by (repeat (first | exact ext_refl _ | assumption | refine ext_alloc ?_ _ | refine ext_drew ?_ | refine ext_set ?_ (by simp) _ | refine ext_trans ?_ (by assumption)))⟩))
  have hFr := Hff.out (by trivial)
  have hx1 : Ext wm wff := by (repeat (first | exact ext_refl _ | assumption | refine ext_alloc ?_ _ | refine ext_drew ?_ | refine ext_set ?_ (by simp) _ | refine ext_trans ?_ (by assumption)))
  refine (hQ.out wff hx1 hFr (by unfold maxLen; omega)).mono ?_
  rintro r w3 ⟨e, rfl, hT, hx3⟩
  simp only [El.val]
  go_upto_region 7 with fail
  have hb3 : Box (w3.alloc (.cells e.arr 33)) w3.heap.size e.arr 33 := Box.at rfl _ _
  have hbr := (hbff.ext hx3).alloc (.cells e.arr 33)
  have hyb : Ext wm (w3.alloc (.cells e.arr 33)) := ext_alloc (ext_trans hx1 hx3) _
  have hxb : Ext w (w3.alloc (.cells e.arr 33)) := ext_trans hxw hyb
  have hT3 := Lib.hid (hT.ext (ext_alloc (ext_refl w3) (.cells e.arr 33)))
  clear hT
  generalize w3.alloc (.cells e.arr 33) = w4 at hb3 hbr hxb hyb hT3 ⊢
  generalize w3.heap.size = b3 at hb3 ⊢
  refine wp_region_order (fun (w' : World) => Six w' b3 e ∧ RCells w' wm.heap.size 0 (⟨4, ⟨#[]⟩, a, n, c, ka, ln, kc, none, 0, 0⟩ : Rv)) [0, 1, 2, 3, 4, 9] [0, 1, 2, 3, 4, 5, 6, 7, 8, 9, 10] (by kernel_rfl) (by kernel_rfl) (fun d _ _ _ _ h => by cases d <;> exact h) (by kernel_rfl) ?_
  have hS : (fun (w' : World) => Six w' b3 e ∧ RCells w' wm.heap.size 0 (⟨4, ⟨#[]⟩, a, n, c, ka, ln, kc, none, 0, 0⟩ : Rv)) _ := ⟨hb3.Six, hbr.cell 0 _ rfl, hbr.cell 1 _ rfl, hbr.cell 2 _ rfl, hbr.cell 3 _ rfl, hbr.cell 4 _ rfl⟩
  (apply ord_held rfl rfl (by assumption) rfl; (focus ((intro w' hS'); go_simp; (try with_reducible rfl))); (try simp only [Act.put, List.setIfInBounds_toArray, List.set_cons_zero, List.set_cons_succ]))
  (apply ord_held rfl rfl (by assumption) rfl; (focus ((intro w' hS'); go_simp; (try with_reducible rfl))); (try simp only [Act.put, List.setIfInBounds_toArray, List.set_cons_zero, List.set_cons_succ]))
  (apply ord_guard rfl rfl (by assumption) rfl; (focus ((intro w' hS'); go_simp; (try with_reducible rfl))); (try simp only [Act.put, List.setIfInBounds_toArray, List.set_cons_zero, List.set_cons_succ]))
  (apply ord_guard rfl rfl (by assumption) rfl; (focus ((intro w' hS'); go_simp; (try with_reducible rfl))); (try simp only [Act.put, List.setIfInBounds_toArray, List.set_cons_zero, List.set_cons_succ]))
  (apply ord_guard rfl rfl (by assumption) rfl; (focus ((intro w' hS'); go_simp; (try with_reducible rfl))); (try simp only [Act.put, List.setIfInBounds_toArray, List.set_cons_zero, List.set_cons_succ]))
  (apply ord_want rfl rfl rfl; intro K hK; go_simp)
  refine (told2 (Rl.mk 4 ⟨#[]⟩ ps (ls.map matchR) [] []) hFr hSm.out _ (⟨4, ⟨#[]⟩, a, n, c, ka, ln, kc, none, 0, 0⟩ : Rv) _ (HR0.out _ (ext_trans hyb (ext_drew (ext_refl w4))))).mono ?_
  rintro r w5 ⟨g5, rfl, hT5, hx5⟩
  have x5 : Ext w4 w5 := ext_trans (ext_drew (ext_refl w4)) hx5
  have hS1 : (fun (w' : World) => Six w' b3 e ∧ RCells w' wm.heap.size 0 (⟨4, ⟨#[]⟩, a, n, c, ka, ln, kc, none, 0, 0⟩ : Rv)) w5 := ⟨Six.ext x5 hS.1, RCells.ext x5 hS.2⟩
  refine hK _ _ (fun _ => hS1) ?_
  clear hK K
  simp only [El.val]
  (try simp only [Act.put, List.setIfInBounds_toArray, List.set_cons_zero, List.set_cons_succ])
  (apply ord_want rfl rfl rfl; intro K hK; go_simp)
  obtain ⟨rk, rt, hrt⟩ := ruleT_one (Rl.mk 4 ⟨#[]⟩ ps (ls.map matchR) [] [])
  rw [hrt] at hT5
  refine (pairsOf_any _ [(rk, rt)] w5 hT5 (by simp)).mono ?_
  rintro r w6 ⟨v6, es6, rfl, hO6, hP6, hx6⟩
  have hS2 : (fun (w' : World) => Six w' b3 e ∧ RCells w' wm.heap.size 0 (⟨4, ⟨#[]⟩, a, n, c, ka, ln, kc, none, 0, 0⟩ : Rv)) w6 := ⟨Six.ext hx6 hS1.1, RCells.ext hx6 hS1.2⟩
  refine hK _ _ (fun _ => hS2) ?_
  clear hK K
  (try simp only [Act.put, List.setIfInBounds_toArray, List.set_cons_zero, List.set_cons_succ])
  obtain ⟨pa, pc, hpe, hPA⟩ := hO6.pairs (S := fun _ => True) (ps := [(rk, rt)]) hP6.1 (fun b hb => trivial) (fun i e p he hp => ⟨(hP6.2 i e p he hp).1, (hP6.2 i e p he hp).2.any⟩)
  subst hpe
  (apply ord_want rfl rfl rfl; intro K hK; go_simp)
  refine (infield_any s_intervals f _ _ _ [(rk, rt)] w6 hPA (by simp)).mono ?_
  rintro r w7 ⟨g7, rfl, hT7, hx7⟩
  have hS3 : (fun (w' : World) => Six w' b3 e ∧ RCells w' wm.heap.size 0 (⟨4, ⟨#[]⟩, a, n, c, ka, ln, kc, none, 0, 0⟩ : Rv)) w7 := ⟨Six.ext hx7 hS2.1, RCells.ext hx7 hS2.2⟩
  refine hK _ _ (fun _ => hS3) ?_
  clear hK K
  simp only [El.val]
  (try simp only [Act.put, List.setIfInBounds_toArray, List.set_cons_zero, List.set_cons_succ])
  have hfit := intervals_same f (Rl.mk 4 ⟨#[]⟩ ps (ls.map matchR) [] []) hFr
  rw [hrt, ← mapT_one] at hfit
  (apply ord_want rfl rfl rfl; intro K hK; go_simp)
  refine (same_any (S := fun _ => True) _ _ e g7 _ ((hT3.out.ext (ext_trans (ext_trans x5 hx6) hx7)).any) (hT7.any)).mono ?_
  rintro r w8 ⟨rfl, hx8⟩
  have hS4 : (fun (w' : World) => Six w' b3 e ∧ RCells w' wm.heap.size 0 (⟨4, ⟨#[]⟩, a, n, c, ka, ln, kc, none, 0, 0⟩ : Rv)) w8 := ⟨Six.ext hx8 hS3.1, RCells.ext hx8 hS3.2⟩
  refine hK _ _ (fun _ => hS4) ?_
  clear hK K
  rw [hfit]
  (try simp only [Act.put, List.setIfInBounds_toArray, List.set_cons_zero, List.set_cons_succ])
  (apply ord_held rfl rfl (by assumption) rfl; (focus ((intro w' hS'); go_simp; (try with_reducible rfl))); (try simp only [Act.put, List.setIfInBounds_toArray, List.set_cons_zero, List.set_cons_succ]))
  (apply ord_last rfl rfl rfl (by kernel_rfl); intro K hK; go_simp; refine hK _ _ ?_; clear hK K; (try simp only [Act.put, List.setIfInBounds_toArray, List.set_cons_zero, List.set_cons_succ]))
  refine ord_end ?_
  go_wp2_with fail
  go_ret
  exact ⟨rfl, ext_trans hxb (ext_trans (ext_trans (ext_trans x5 hx6) hx7) hx8)⟩
end Go.Proofs.YtegnnbpobcmgcaaGreat

namespace Go.Proofs.YtegnnbpobcmgcaaGreat
open Go.ChangeShapes Go.WideShapes Go.ChangeAt Go.RowKit

set_option maxRecDepth 100000 in
theorem ruleAllOf_lifted (os : Os) (started : os.Started) (H : Type) (enc : TypeId × Value → H) (F : Stop.Interp) :
    ReturnsInHanded {} Tryz.checked os 7 .any ((Rows.OpenSpec.upto Rows.fnRuleAllOfSpec).pre6 enc Tryz.prog Tryz.f7 Rows.fnRuleAllOfUptoRow.domain false) (((Rows.OpenSpec.upto Rows.fnRuleAllOfSpec).at F).post enc Tryz.prog Tryz.f7 false true false false) := by
  refine returnsInHanded_of_cond (C := Tryz.checked) (s := Rows.OpenSpec.upto Rows.fnRuleAllOfSpec) (k := Rows.uptoSmall) rfl ownKnobs started (by kernel_rfl) Tryz.func7
    (OpenSpec.witness (enc := enc) (C := Tryz.checked) (s := Rows.OpenSpec.upto Rows.fnRuleAllOfSpec) (k := Rows.uptoSmall) rfl false ⟨#[], #[.string ⟨#[]⟩, .slice none 0 0, .slice none 0 0], []⟩ 8 (by kernel_rfl) (by kernel_rfl) (by kernel_rfl)
      (x := ([.lit (.string []), .nil, .nil], [], [])) (by kernel_rfl) rfl (by kernel_rfl)) ?_
  intro W base args ds gs before hval hW _ hk _
  have hbulk : Rows.uptoBulkAll (ds ++ gs) ≤ 1048576 := of_decide_eq_true hk
  have hW' := hW
  obtain ⟨p, q, hA, hV, rfl, hfz, hnd⟩ := hW'
  have hA : DataW.TrodAll enc Tryz.prog W 0 (fun _ => true) true Tryz.f7.params.toList args.toList ds p := hA
  rw [Tryz.params7] at hA hval
  obtain ⟨v0, vs0, d0, ds0, p0, q0, hargs, rfl, rfl, h0, r0⟩ := trodAll_cons hA
  obtain ⟨v1, vs1, d1, ds1, p1, q1, rfl, rfl, rfl, h1, r1⟩ := trodAll_cons r0
  obtain ⟨v2, vs2, d2, ds2, p2, q2, rfl, rfl, rfl, h2, r2⟩ := trodAll_cons r1
  obtain ⟨rfl, rfl, rfl⟩ := trodAll_nil r2
  obtain rfl : args = #[v0, v1, v2] := by cases args; simp_all
  obtain ⟨rfl, rfl⟩ := trodVars_none hV
  obtain ⟨s0, rfl, rfl, rfl, w0⟩ := Go.ChangeMaps.open_string Tryz.underlying9 (hval 0 9 v0 rfl rfl) h0
  obtain ⟨a1, n1, c1, rfl⟩ := okWide_slice Tryz.underlying30 (hval 1 30 v1 rfl rfl)
  obtain ⟨fuel1, hf1⟩ := h1
  obtain ⟨a1', n1', c1', ps1, e1, hP1, hSl1, -⟩ := strs_small hf1
  simp only [Value.cells, List.cons.injEq, and_true, Value.slice.injEq] at e1
  obtain ⟨rfl, rfl, rfl⟩ := e1
  obtain ⟨a2, n2, c2, rfl⟩ := okWide_slice Tryz.underlying22 (hval 2 22 v2 rfl rfl)
  obtain ⟨fuel2, hf2⟩ := h2
  obtain ⟨a2', n2', c2', ps2, e2, hP2⟩ := sets_of hf2
  simp only [Value.cells, List.cons.injEq, and_true, Value.slice.injEq] at e2
  obtain ⟨rfl, rfl, rfl⟩ := e2
  simp only [List.append_nil, Rows.uptoBulkAll] at hbulk
  refine (ruleAllOf_law s0 a1 n1 c1 ps1 a2 n2 c2 ps2 W hP1 (show n1 ≤ 1048576 from Nat.le_trans (Nat.le_of_eq hP1.1.symm) (Nat.le_trans (show ps1.length ≤ Rows.uptoBulk d1 from hSl1) (by omega))) hP2).mono fun e W' ⟨he, hx⟩ => ?_
  subst he
  exact ⟨_, rfl, post_law (s := Rows.fnRuleAllOfSpec) laidOut (by kernel_rfl) (by kernel_rfl) Tryz.underlying4 rfl hW rfl hx⟩

/-- A rule of intervals (all_of) has its rules in order, and its settings: where what comes in is of bulk at most 1048576. -/
theorem ruleAllOf_proved : Rows.FnRuleAllOfUptoSaid :=
  OpenClaim.holds_of_cond 7 Tryz.f7 rfl rfl rfl rfl rfl rfl rfl ⟨rfl, rfl, rfl, rfl, rfl⟩ rfl rfl rfl rfl rfl (by kernel_rfl) Tryz.func7 (by kernel_rfl)
    (of_decide_eq_true (by kernel_rfl)) (by unfold Func.isWrapper; first | (rw [if_pos (by decide +kernel)]; kernel_rfl) | (rw [if_neg (by decide +kernel)]; exact ⟨rfl, rfl⟩))
    (fun os started H enc _ F => ruleAllOf_lifted os started H enc F)
#print axioms ruleAllOf_proved
end Go.Proofs.YtegnnbpobcmgcaaGreat

