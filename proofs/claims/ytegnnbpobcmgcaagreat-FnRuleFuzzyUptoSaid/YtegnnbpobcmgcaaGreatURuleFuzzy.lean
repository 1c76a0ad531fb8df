/-
  A rule of intervals (fuzzy) has its text, and its settings: the statement FnRuleFuzzy where what comes in is of bulk at most 1048576.
-/
import Derived.Test.YtegnnbpobcmgcaaGreatLin
import Derived.Test.YtegnnbpobcmgcaaGreatRows
import Derived.Test.YtegnnbpobcmgcaaGreatOr
namespace Go.Proofs.YtegnnbpobcmgcaaGreat
open Go.RowKit

set_option maxRecDepth 20000 in
set_option maxHeartbeats 4000000 in
theorem ruleFuzzy_law {S : Nat → Prop} (f x : ByteArray) (a : Option Addr) (n c : Nat) (ps : List (ByteArray × T)) (w : World) (h : PairsAt S w a n c ps) : Calls Tryz.prog 6 #[.string f, .string x, .slice a n c] w fun r w' => r = .returned (.bool true) ∧ Ext w w' := by
  have hnl := Nat.le_trans h.2.1 h.2.2.1
  unfold maxLen at hnl
  have hRA : RuleAt S w (⟨3, x, a, n, c, none, 0, 0, none, 0, 0⟩ : Rv) (Rl.mk 3 x ps [] [] []) := by
    simp only [RuleAt, RowR]
    exact ⟨trivial, trivial, h, ⟨rfl, Nat.le_refl _, Nat.zero_le _⟩, trivial, ⟨rfl, rfl, Nat.le_refl _, Nat.zero_le _⟩, fun i nm hi => by simp at hi, trivial⟩
  have hSm0 : SmallR 1048576 (Rl.mk 3 x ps [] [] []) := by simp [SmallR, SmallRs]
  have HR := Lib.hid fun w' (x : Ext w w') => RuleAt.ext x hRA
  have hSm := Lib.hid hSm0
  have hF := Lib.hid fun w' (x1 : Ext w w') => (show Calls Tryz.prog 12 #[((⟨3, x, a, n, c, none, 0, 0, none, 0, 0⟩ : Rv)).val, .int .i64 1] w' (Yes (FitR (Rl.mk 3 x ps [] [] [])) w') from fits_at 1 (by decide) (Rl.mk 3 x ps [] [] []) S (⟨3, x, a, n, c, none, 0, 0, none, 0, 0⟩ : Rv) w' (RuleAt.ext x1 hRA))
  have hQ := Lib.hid fun w' (x1 : Ext w w') (hFr : FitR (Rl.mk 3 x ps [] [] [])) (hf : f.size ≤ maxLen) => intervals_any f hf (⟨3, x, a, n, c, none, 0, 0, none, 0, 0⟩ : Rv) (Rl.mk 3 x ps [] [] []) w' (RuleAt.ext x1 hRA) hFr hSm0
  clear h hSm0 hRA
  have hbt : Box (w.alloc (.cells #[.int .i64 3, .string x, .slice a n c, .slice none 0 0, .slice none 0 0] 26)) w.heap.size #[.int .i64 3, .string x, .slice a n c, .slice none 0 0, .slice none 0 0] 26 := Box.at rfl _ _
  have c0 := hbt.cell 0 _ rfl
  have c1 := hbt.cell 1 _ rfl
  have c2 := hbt.cell 2 _ rfl
  have c3 := hbt.cell 3 _ rfl
  have c4 := hbt.cell 4 _ rfl
  go_enter Tryz.func6, Tryz.ntmps6
  by_cases hsz0 : 2147483647 < f.size
  · go_wp2_with fail
    all_goals (go_ret; exact ⟨rfl, by (repeat (first | exact ext_refl _ | assumption | refine ext_alloc ?_ _ | refine ext_drew ?_ | refine ext_set ?_ (by simp) _ | refine ext_trans ?_ (by assumption)))⟩)
  by_cases hsz1 : 2147483647 < x.size
  · go_wp2_with fail
    all_goals (go_ret; exact ⟨rfl, by (repeat (first | exact ext_refl _ | assumption | refine ext_alloc ?_ _ | refine ext_drew ?_ | refine ext_set ?_ (by simp) _ | refine ext_trans ?_ (by assumption)))⟩)
  by_cases hsz2 : 2147483647 < n
  · go_wp2_with fail
    all_goals (go_ret; exact ⟨rfl, by (repeat (first | exact ext_refl _ | assumption | refine ext_alloc ?_ _ | refine ext_drew ?_ | refine ext_set ?_ (by simp) _ | refine ext_trans ?_ (by assumption)))⟩)
  go_wp2_with (first
    | (go_at_call 11; refine (field_any f (by omega) _).mono ?_; rintro r wfd ⟨bfd, rfl, hfd, hxfd⟩; clear hfd; have hbfd := hbt.ext (show Ext (w.alloc (.cells #[.int .i64 3, .string x, .slice a n c, .slice none 0 0, .slice none 0 0] 26)) wfd by (repeat (first | exact ext_refl _ | assumption | refine ext_alloc ?_ _ | refine ext_drew ?_ | refine ext_set ?_ (by simp) _ | refine ext_trans ?_ (by assumption)))); have p0 := hbfd.cell 0 _ rfl; have p1 := hbfd.cell 1 _ rfl; have p2 := hbfd.cell 2 _ rfl; have p3 := hbfd.cell 3 _ rfl; have p4 := hbfd.cell 4 _ rfl; cases bfd)
    | (go_at_call 12; refine (hF.out _ (by (repeat (first | exact ext_refl _ | assumption | refine ext_alloc ?_ _ | refine ext_drew ?_ | refine ext_set ?_ (by simp) _ | refine ext_trans ?_ (by assumption))))).mono ?_; rintro r wff ⟨bff, rfl, hff, hxff⟩; have Hff := Lib.hid hff; clear hff; have hbff := hbt.ext (show Ext (w.alloc (.cells #[.int .i64 3, .string x, .slice a n c, .slice none 0 0, .slice none 0 0] 26)) wff by (repeat (first | exact ext_refl _ | assumption | refine ext_alloc ?_ _ | refine ext_drew ?_ | refine ext_set ?_ (by simp) _ | refine ext_trans ?_ (by assumption)))); have q0 := hbff.cell 0 _ rfl; have q1 := hbff.cell 1 _ rfl; have q2 := hbff.cell 2 _ rfl; have q3 := hbff.cell 3 _ rfl; have q4 := hbff.cell 4 _ rfl; cases bff)
    | fail)
  all_goals (try (go_ret; exact ⟨rfl, by (repeat (first | exact ext_refl _ | assumption | refine ext_alloc ?_ _ | refine ext_drew ?_ | refine ext_set ?_ (by simp) _ | refine ext_trans ?_ (by assumption)))⟩))
  have hFr := Hff.out (by trivial)
  have hx1 : Ext w wff := by (repeat (first | exact ext_refl _ | assumption | refine ext_alloc ?_ _ | refine ext_drew ?_ | refine ext_set ?_ (by simp) _ | refine ext_trans ?_ (by assumption)))
  refine (hQ.out wff hx1 hFr (by unfold maxLen; omega)).mono ?_
  rintro r w3 ⟨e, rfl, hT, hx3⟩
  simp only [El.val]
  go_upto_region 7 with fail
  have hb3 : Box (w3.alloc (.cells e.arr 33)) w3.heap.size e.arr 33 := Box.at rfl _ _
  have hbr := (hbff.ext hx3).alloc (.cells e.arr 33)
  have hxb : Ext w (w3.alloc (.cells e.arr 33)) := ext_alloc (ext_trans hx1 hx3) _
  have hT3 := Lib.hid (hT.ext (ext_alloc (ext_refl w3) (.cells e.arr 33)))
  clear hT
  generalize w3.alloc (.cells e.arr 33) = w4 at hb3 hbr hxb hT3 ⊢
  generalize w3.heap.size = b3 at hb3 ⊢
  refine wp_region_order (fun (w' : World) => Six w' b3 e ∧ RCells w' w.heap.size 0 (⟨3, x, a, n, c, none, 0, 0, none, 0, 0⟩ : Rv)) [0, 1, 2, 3, 4, 9] [0, 1, 2, 3, 4, 5, 6, 7, 8, 9, 10] (by kernel_rfl) (by kernel_rfl) (fun d _ _ _ _ h => by cases d <;> exact h) (by kernel_rfl) ?_
  have hS : (fun (w' : World) => Six w' b3 e ∧ RCells w' w.heap.size 0 (⟨3, x, a, n, c, none, 0, 0, none, 0, 0⟩ : Rv)) _ := ⟨hb3.Six, hbr.cell 0 _ rfl, hbr.cell 1 _ rfl, hbr.cell 2 _ rfl, hbr.cell 3 _ rfl, hbr.cell 4 _ rfl⟩
  (apply ord_held rfl rfl (by assumption) rfl; (focus ((intro w' hS'); go_simp; (try with_reducible rfl))); (try simp only [Act.put, List.setIfInBounds_toArray, List.set_cons_zero, List.set_cons_succ]))
  (apply ord_held rfl rfl (by assumption) rfl; (focus ((intro w' hS'); go_simp; (try with_reducible rfl))); (try simp only [Act.put, List.setIfInBounds_toArray, List.set_cons_zero, List.set_cons_succ]))
  (apply ord_guard rfl rfl (by assumption) rfl; (focus ((intro w' hS'); go_simp; (try with_reducible rfl))); (try simp only [Act.put, List.setIfInBounds_toArray, List.set_cons_zero, List.set_cons_succ]))
  (apply ord_guard rfl rfl (by assumption) rfl; (focus ((intro w' hS'); go_simp; (try with_reducible rfl))); (try simp only [Act.put, List.setIfInBounds_toArray, List.set_cons_zero, List.set_cons_succ]))
  (apply ord_guard rfl rfl (by assumption) rfl; (focus ((intro w' hS'); go_simp; (try with_reducible rfl))); (try simp only [Act.put, List.setIfInBounds_toArray, List.set_cons_zero, List.set_cons_succ]))
  (apply ord_want rfl rfl rfl; intro K hK; go_simp)
  refine (told2 (Rl.mk 3 x ps [] [] []) hFr hSm.out _ (⟨3, x, a, n, c, none, 0, 0, none, 0, 0⟩ : Rv) _ (HR.out _ (ext_trans hxb (ext_drew (ext_refl w4))))).mono ?_
  rintro r w5 ⟨g5, rfl, hT5, hx5⟩
  have x5 : Ext w4 w5 := ext_trans (ext_drew (ext_refl w4)) hx5
  have hS1 : (fun (w' : World) => Six w' b3 e ∧ RCells w' w.heap.size 0 (⟨3, x, a, n, c, none, 0, 0, none, 0, 0⟩ : Rv)) w5 := ⟨Six.ext x5 hS.1, RCells.ext x5 hS.2⟩
  refine hK _ _ (fun _ => hS1) ?_
  clear hK K
  simp only [El.val]
  (try simp only [Act.put, List.setIfInBounds_toArray, List.set_cons_zero, List.set_cons_succ])
  (apply ord_want rfl rfl rfl; intro K hK; go_simp)
  obtain ⟨rk, rt, hrt⟩ := ruleT_one (Rl.mk 3 x ps [] [] [])
  rw [hrt] at hT5
  refine (pairsOf_any _ [(rk, rt)] w5 hT5 (by simp)).mono ?_
  rintro r w6 ⟨v6, es6, rfl, hO6, hP6, hx6⟩
  have hS2 : (fun (w' : World) => Six w' b3 e ∧ RCells w' w.heap.size 0 (⟨3, x, a, n, c, none, 0, 0, none, 0, 0⟩ : Rv)) w6 := ⟨Six.ext hx6 hS1.1, RCells.ext hx6 hS1.2⟩
  refine hK _ _ (fun _ => hS2) ?_
  clear hK K
  (try simp only [Act.put, List.setIfInBounds_toArray, List.set_cons_zero, List.set_cons_succ])
  obtain ⟨pa, pc, hpe, hPA⟩ := hO6.pairs (S := fun _ => True) (ps := [(rk, rt)]) hP6.1 (fun b hb => trivial) (fun i e p he hp => ⟨(hP6.2 i e p he hp).1, (hP6.2 i e p he hp).2.any⟩)
  subst hpe
  (apply ord_want rfl rfl rfl; intro K hK; go_simp)
  refine (infield_any s_intervals f _ _ _ [(rk, rt)] w6 hPA (by simp)).mono ?_
  rintro r w7 ⟨g7, rfl, hT7, hx7⟩
  have hS3 : (fun (w' : World) => Six w' b3 e ∧ RCells w' w.heap.size 0 (⟨3, x, a, n, c, none, 0, 0, none, 0, 0⟩ : Rv)) w7 := ⟨Six.ext hx7 hS2.1, RCells.ext hx7 hS2.2⟩
  refine hK _ _ (fun _ => hS3) ?_
  clear hK K
  simp only [El.val]
  (try simp only [Act.put, List.setIfInBounds_toArray, List.set_cons_zero, List.set_cons_succ])
  have hfit := intervals_same f (Rl.mk 3 x ps [] [] []) hFr
  rw [hrt, ← mapT_one] at hfit
  (apply ord_want rfl rfl rfl; intro K hK; go_simp)
  refine (same_any (S := fun _ => True) _ _ e g7 _ ((hT3.out.ext (ext_trans (ext_trans x5 hx6) hx7)).any) (hT7.any)).mono ?_
  rintro r w8 ⟨rfl, hx8⟩
  have hS4 : (fun (w' : World) => Six w' b3 e ∧ RCells w' w.heap.size 0 (⟨3, x, a, n, c, none, 0, 0, none, 0, 0⟩ : Rv)) w8 := ⟨Six.ext hx8 hS3.1, RCells.ext hx8 hS3.2⟩
  refine hK _ _ (fun _ => hS4) ?_
  clear hK K
  rw [hfit]
  (try simp only [Act.put, List.setIfInBounds_toArray, List.set_cons_zero, List.set_cons_succ])
  (apply ord_held rfl rfl (by assumption) rfl; (focus ((intro w' hS'); go_simp; (try with_reducible rfl))); (try simp only [Act.put, List.setIfInBounds_toArray, List.set_cons_zero, List.set_cons_succ]))
  (apply ord_last rfl rfl rfl (by kernel_rfl); intro K hK; go_simp; refine hK _ _ ?_; clear hK K; (try simp only [Act.put, List.setIfInBounds_toArray, List.set_cons_zero, List.set_cons_succ]))
  refine ord_end ?_
  go_wp2_with fail
  go_ret
  exact ⟨rfl, ext_trans hxb (ext_trans (ext_trans (ext_trans x5 hx6) hx7) hx8)⟩
end Go.Proofs.YtegnnbpobcmgcaaGreat

namespace Go.Proofs.YtegnnbpobcmgcaaGreat
open Go.ChangeShapes Go.WideShapes Go.ChangeAt Go.RowKit

set_option maxRecDepth 100000 in
theorem ruleFuzzy_lifted (os : Os) (started : os.Started) (H : Type) (enc : TypeId × Value → H) (F : Stop.Interp) :
    ReturnsInHanded {} Tryz.checked os 6 .any ((Rows.OpenSpec.upto Rows.fnRuleFuzzySpec).pre6 enc Tryz.prog Tryz.f6 Rows.fnRuleFuzzyUptoRow.domain false) (((Rows.OpenSpec.upto Rows.fnRuleFuzzySpec).at F).post enc Tryz.prog Tryz.f6 false true false false) := by
  refine returnsInHanded_of_cond (C := Tryz.checked) (s := Rows.OpenSpec.upto Rows.fnRuleFuzzySpec) (k := Rows.uptoSmall) rfl ownKnobs started (by kernel_rfl) Tryz.func6
    (OpenSpec.witness (enc := enc) (C := Tryz.checked) (s := Rows.OpenSpec.upto Rows.fnRuleFuzzySpec) (k := Rows.uptoSmall) rfl false ⟨#[], #[.string ⟨#[]⟩, .string ⟨#[]⟩, .slice none 0 0], []⟩ 8 (by kernel_rfl) (by kernel_rfl) (by kernel_rfl)
      (x := ([.lit (.string []), .lit (.string []), .nil], [], [])) (by kernel_rfl) rfl (by kernel_rfl)) ?_
  intro W base args ds gs before hval hW _ hk _
  have hbulk : Rows.uptoBulkAll (ds ++ gs) ≤ 1048576 := of_decide_eq_true hk
  have hW' := hW
  obtain ⟨p, q, hA, hV, rfl, hfz, hnd⟩ := hW'
  have hA : DataW.TrodAll enc Tryz.prog W 0 (fun _ => true) true Tryz.f6.params.toList args.toList ds p := hA
  rw [Tryz.params6] at hA hval
  obtain ⟨v0, vs0, d0, ds0, p0, q0, hargs, rfl, rfl, h0, r0⟩ := trodAll_cons hA
  obtain ⟨v1, vs1, d1, ds1, p1, q1, rfl, rfl, rfl, h1, r1⟩ := trodAll_cons r0
  obtain ⟨v2, vs2, d2, ds2, p2, q2, rfl, rfl, rfl, h2, r2⟩ := trodAll_cons r1
  obtain ⟨rfl, rfl, rfl⟩ := trodAll_nil r2
  obtain rfl : args = #[v0, v1, v2] := by cases args; simp_all
  obtain ⟨rfl, rfl⟩ := trodVars_none hV
  obtain ⟨s0, rfl, rfl, rfl, w0⟩ := Go.ChangeMaps.open_string Tryz.underlying9 (hval 0 9 v0 rfl rfl) h0
  obtain ⟨s1, rfl, rfl, rfl, w1⟩ := Go.ChangeMaps.open_string Tryz.underlying9 (hval 1 9 v1 rfl rfl) h1
  obtain ⟨a2, n2, c2, rfl⟩ := okWide_slice Tryz.underlying22 (hval 2 22 v2 rfl rfl)
  obtain ⟨fuel2, hf2⟩ := h2
  obtain ⟨a2', n2', c2', ps2, e2, hP2⟩ := sets_of hf2
  simp only [Value.cells, List.cons.injEq, and_true, Value.slice.injEq] at e2
  obtain ⟨rfl, rfl, rfl⟩ := e2
  simp only [List.append_nil, Rows.uptoBulkAll] at hbulk
  refine (ruleFuzzy_law s0 s1 a2 n2 c2 ps2 W hP2).mono fun e W' ⟨he, hx⟩ => ?_
  subst he
  exact ⟨_, rfl, post_law (s := Rows.fnRuleFuzzySpec) laidOut (by kernel_rfl) (by kernel_rfl) Tryz.underlying4 rfl hW rfl hx⟩

/-- A rule of intervals (fuzzy) has its text, and its settings: where what comes in is of bulk at most 1048576. -/
theorem ruleFuzzy_proved : Rows.FnRuleFuzzyUptoSaid :=
  OpenClaim.holds_of_cond 6 Tryz.f6 rfl rfl rfl rfl rfl rfl rfl ⟨rfl, rfl, rfl, rfl, rfl⟩ rfl rfl rfl rfl rfl (by kernel_rfl) Tryz.func6 (by kernel_rfl)
    (of_decide_eq_true (by kernel_rfl)) (by unfold Func.isWrapper; first | (rw [if_pos (by decide +kernel)]; kernel_rfl) | (rw [if_neg (by decide +kernel)]; exact ⟨rfl, rfl⟩))
    (fun os started H enc _ F => ruleFuzzy_lifted os started H enc F)
#print axioms ruleFuzzy_proved
end Go.Proofs.YtegnnbpobcmgcaaGreat

