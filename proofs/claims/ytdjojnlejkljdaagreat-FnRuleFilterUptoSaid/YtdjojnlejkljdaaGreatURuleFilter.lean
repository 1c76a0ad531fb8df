/-
  A rule of intervals of one match rule with a filter has the rules of the filter: the statement FnRuleFilter where what comes in is of bulk at most 1048576.
-/
import Derived.Test.YtdjojnlejkljdaaGreatSiv
import Derived.Test.YtdjojnlejkljdaaGreatRows
import Derived.Test.YtdjojnlejkljdaaGreatOr
namespace Go.Proofs.YtdjojnlejkljdaaGreat
open Go.RowKit

theorem sieves_some {S : Nat → Prop} (na : Option Addr) (nn nc : Nat) (ns : List ByteArray) (ta : Option Addr) (tn tc : Nat) (ts : List ByteArray) (w : World) (hN : StrsAt S w na nn nc ns) (hT : StrsAt S w ta tn tc ts) (hnb : nn ≤ 1048576) (htb : tn ≤ 1048576) :
    Calls Tryz.prog 5 #[.slice na nn nc, .slice ta tn tc] w fun r w' => ∃ ka km kc nms rls, r = .returned (.slice ka km kc) ∧ SievesAt (fun _ => True) w' ka km kc nms rls ∧ SmallR 1048576 (.mk 0 ⟨#[]⟩ [] [] nms rls) ∧ Ext w w' := by
  refine (sieves_any na nn nc ns ta tn tc ts w hN hT hnb htb).mono ?_
  rintro r w' ⟨a2, c2, rfl, h, hx⟩
  refine ⟨a2, _, c2, _, _, rfl, h.keep (fun _ _ _ => trivial) (fun _ _ _ => rfl), ?_, hx⟩
  simp only [SmallR]
  refine ⟨Nat.zero_le _, by rw [List.length_map, List.length_zip, hN.1]; omega, trivial, (smallRs_iff _ _).2 fun r hr => ?_⟩
  obtain ⟨s, -, rfl⟩ := List.mem_map.1 hr
  exact matchR_small _ _
set_option maxRecDepth 20000 in
set_option maxHeartbeats 4000000 in
theorem ruleFilter_law {S : Nat → Prop} (f x : ByteArray) (na : Option Addr) (nn nc : Nat) (ns : List ByteArray) (ta : Option Addr) (tn tc : Nat) (ts : List ByteArray) (w : World) (hN : StrsAt S w na nn nc ns) (hnb : nn ≤ 1048576) (hT : StrsAt S w ta tn tc ts) (htb : tn ≤ 1048576) : Calls Tryz.prog 3 #[.string f, .string x, .slice na nn nc, .slice ta tn tc] w fun r w' => r = .returned (.bool true) ∧ Ext w w' := by
  have hZn := Lib.hid fun w' (x : Ext w w') => zzFits1_any na nn nc ns w' (hN.ext x)
  have hZt := Lib.hid fun w' (x : Ext w w') => zzFits1_any ta tn tc ts w' (hT.ext x)
  have hM := Lib.hid fun w' (x : Ext w w') => sieves_some na nn nc ns ta tn tc ts w' (hN.ext x) (hT.ext x) hnb htb
  clear hN hT
  go_enter Tryz.func3, Tryz.ntmps3
  by_cases hsz0 : 2147483647 < f.size
  · go_wp2_with fail
    all_goals (go_ret; exact ⟨rfl, by (repeat (first | exact ext_refl _ | assumption | refine ext_alloc ?_ _ | refine ext_drew ?_ | refine ext_set ?_ (by simp) _ | refine ext_trans ?_ (by assumption)))⟩)
  by_cases hsz1 : 2147483647 < x.size
  · go_wp2_with fail
    all_goals (go_ret; exact ⟨rfl, by (repeat (first | exact ext_refl _ | assumption | refine ext_alloc ?_ _ | refine ext_drew ?_ | refine ext_set ?_ (by simp) _ | refine ext_trans ?_ (by assumption)))⟩)
  have tkzn := trivial
  have tkzt := trivial
  go_wp2_with (first
    | (go_at_call 4; have _t := tkzn; clear _t tkzn; refine (hZn.out _ (by (repeat (first | exact ext_refl _ | assumption | refine ext_alloc ?_ _ | refine ext_drew ?_ | refine ext_set ?_ (by simp) _ | refine ext_trans ?_ (by assumption))))).mono ?_; rintro r wzn ⟨bzn, rfl, hzn, hxzn⟩; clear hzn; cases bzn)
    | (go_at_call 4; have _t := tkzt; clear _t tkzt; refine (hZt.out _ (by (repeat (first | exact ext_refl _ | assumption | refine ext_alloc ?_ _ | refine ext_drew ?_ | refine ext_set ?_ (by simp) _ | refine ext_trans ?_ (by assumption))))).mono ?_; rintro r wzt ⟨bzt, rfl, hzt, hxzt⟩; clear hzt; cases bzt)
    | (go_at_call 5; refine (hM.out _ (by (repeat (first | exact ext_refl _ | assumption | refine ext_alloc ?_ _ | refine ext_drew ?_ | refine ext_set ?_ (by simp) _ | refine ext_trans ?_ (by assumption))))).mono ?_; rintro r wm ⟨ka, km, kc, nms, rls, rfl, hks, hsm, hxm⟩
       have hxw : Ext w wm := by (repeat (first | exact ext_refl _ | assumption | refine ext_alloc ?_ _ | refine ext_drew ?_ | refine ext_set ?_ (by simp) _ | refine ext_trans ?_ (by assumption)))
       have hRA : RuleAt (fun _ => True) wm (⟨0, x, none, 0, 0, none, 0, 0, ka, km, kc⟩ : Rv) (Rl.mk 0 x [] [] nms rls) := by
         simp only [RuleAt]
         exact ⟨trivial, trivial, ⟨rfl, Nat.le_refl _, Nat.zero_le _, fun i p hp => by simp at hp⟩, ⟨rfl, Nat.le_refl _, Nat.zero_le _⟩, by simp [RowR], ⟨hks.1, hks.2.1, hks.2.2.1, hks.2.2.2.1⟩, hks.2.2.2.2.1, hks.2.2.2.2.2⟩
       have hSm0 : SmallR 1048576 (Rl.mk 0 x [] [] nms rls) := by
         simp only [SmallR] at hsm ⊢
         exact hsm
       have HR0 := Lib.hid fun w' (x : Ext wm w') => RuleAt.ext x hRA
       have hSm := Lib.hid hSm0
       have hF := Lib.hid fun w' (x1 : Ext wm w') => (show Calls Tryz.prog 7 #[((⟨0, x, none, 0, 0, none, 0, 0, ka, km, kc⟩ : Rv)).val, .int .i64 2] w' (Yes (FitR (Rl.mk 0 x [] [] nms rls)) w') from fits_at 2 (by decide) (Rl.mk 0 x [] [] nms rls) _ (⟨0, x, none, 0, 0, none, 0, 0, ka, km, kc⟩ : Rv) w' (RuleAt.ext x1 hRA))
       have hQ := Lib.hid fun w' (x1 : Ext wm w') (hFr : FitR (Rl.mk 0 x [] [] nms rls)) (hf : f.size ≤ maxLen) => intervals_any f hf (⟨0, x, none, 0, 0, none, 0, 0, ka, km, kc⟩ : Rv) (Rl.mk 0 x [] [] nms rls) w' (RuleAt.ext x1 hRA) hFr hSm0
       clear hSm0 hRA hks hsm
       have hbt : Box (wm.alloc (.cells #[.int .i64 0, .string x, .slice none 0 0, .slice none 0 0, .slice ka km kc] 29)) wm.heap.size #[.int .i64 0, .string x, .slice none 0 0, .slice none 0 0, .slice ka km kc] 29 := Box.at rfl _ _
       have c0 := hbt.cell 0 _ rfl
       have c1 := hbt.cell 1 _ rfl
       have c2 := hbt.cell 2 _ rfl
       have c3 := hbt.cell 3 _ rfl
       have c4 := hbt.cell 4 _ rfl)
    | (go_at_call 6; refine (field_any f (by omega) _).mono ?_; rintro r wfd ⟨bfd, rfl, hfd, hxfd⟩; clear hfd; have hbfd := hbt.ext (show Ext (wm.alloc (.cells #[.int .i64 0, .string x, .slice none 0 0, .slice none 0 0, .slice ka km kc] 29)) wfd by (repeat (first | exact ext_refl _ | assumption | refine ext_alloc ?_ _ | refine ext_drew ?_ | refine ext_set ?_ (by simp) _ | refine ext_trans ?_ (by assumption)))); have p0 := hbfd.cell 0 _ rfl; have p1 := hbfd.cell 1 _ rfl; have p2 := hbfd.cell 2 _ rfl; have p3 := hbfd.cell 3 _ rfl; have p4 := hbfd.cell 4 _ rfl; cases bfd)
    | (go_at_call 7; refine (hF.out _ (by (repeat (first | exact ext_refl _ | assumption | refine ext_alloc ?_ _ | refine ext_drew ?_ | refine ext_set ?_ (by simp) _ | refine ext_trans ?_ (by assumption))))).mono ?_; rintro r wff ⟨bff, rfl, hff, hxff⟩; have Hff := Lib.hid hff; clear hff; have hbff := hbt.ext (show Ext (wm.alloc (.cells #[.int .i64 0, .string x, .slice none 0 0, .slice none 0 0, .slice ka km kc] 29)) wff by (repeat (first | exact ext_refl _ | assumption | refine ext_alloc ?_ _ | refine ext_drew ?_ | refine ext_set ?_ (by simp) _ | refine ext_trans ?_ (by assumption)))); have q0 := hbff.cell 0 _ rfl; have q1 := hbff.cell 1 _ rfl; have q2 := hbff.cell 2 _ rfl; have q3 := hbff.cell 3 _ rfl; have q4 := hbff.cell 4 _ rfl; cases bff)
    | fail)
  all_goals (try (go_ret; exact ⟨rfl, by (repeat (first | exact ext_refl _ | assumption | refine ext_alloc ?_ _ | refine ext_drew ?_ | refine ext_set ?_ (by simp) _ | refine ext_trans ?_ (by assumption)))⟩))
  have hFr := Hff.out (by trivial)
  have hx1 : Ext wm wff := by (repeat (first | exact ext_refl _ | assumption | refine ext_alloc ?_ _ | refine ext_drew ?_ | refine ext_set ?_ (by simp) _ | refine ext_trans ?_ (by assumption)))
  refine (hQ.out wff hx1 hFr (by unfold maxLen; omega)).mono ?_
  rintro r w3 ⟨e, rfl, hT, hx3⟩
  simp only [El.val]
  go_upto_region 7 with fail
  have hb3 : Box (w3.alloc (.cells e.arr 35)) w3.heap.size e.arr 35 := Box.at rfl _ _
  have hbr := (hbff.ext hx3).alloc (.cells e.arr 35)
  have hyb : Ext wm (w3.alloc (.cells e.arr 35)) := ext_alloc (ext_trans hx1 hx3) _
  have hxb : Ext w (w3.alloc (.cells e.arr 35)) := ext_trans hxw hyb
  have hT3 := Lib.hid (hT.ext (ext_alloc (ext_refl w3) (.cells e.arr 35)))
  clear hT
  generalize w3.alloc (.cells e.arr 35) = w4 at hb3 hbr hxb hyb hT3 ⊢
  generalize w3.heap.size = b3 at hb3 ⊢
  refine wp_region_order (fun (w' : World) => Six w' b3 e ∧ RCells w' wm.heap.size 0 (⟨0, x, none, 0, 0, none, 0, 0, ka, km, kc⟩ : Rv)) [0, 1, 2, 3, 4, 9] [0, 1, 2, 3, 4, 5, 6, 7, 8, 9, 10] (by kernel_rfl) (by kernel_rfl) (fun d _ _ _ _ h => by cases d <;> exact h) (by kernel_rfl) ?_
  have hS : (fun (w' : World) => Six w' b3 e ∧ RCells w' wm.heap.size 0 (⟨0, x, none, 0, 0, none, 0, 0, ka, km, kc⟩ : Rv)) _ := ⟨hb3.Six, hbr.cell 0 _ rfl, hbr.cell 1 _ rfl, hbr.cell 2 _ rfl, hbr.cell 3 _ rfl, hbr.cell 4 _ rfl⟩
  (apply ord_held rfl rfl (by assumption) rfl; (focus ((intro w' hS'); go_simp; (try with_reducible rfl))); (try simp only [Act.put, List.setIfInBounds_toArray, List.set_cons_zero, List.set_cons_succ]))
  (apply ord_held rfl rfl (by assumption) rfl; (focus ((intro w' hS'); go_simp; (try with_reducible rfl))); (try simp only [Act.put, List.setIfInBounds_toArray, List.set_cons_zero, List.set_cons_succ]))
  (apply ord_guard rfl rfl (by assumption) rfl; (focus ((intro w' hS'); go_simp; (try with_reducible rfl))); (try simp only [Act.put, List.setIfInBounds_toArray, List.set_cons_zero, List.set_cons_succ]))
  (apply ord_guard rfl rfl (by assumption) rfl; (focus ((intro w' hS'); go_simp; (try with_reducible rfl))); (try simp only [Act.put, List.setIfInBounds_toArray, List.set_cons_zero, List.set_cons_succ]))
  (apply ord_guard rfl rfl (by assumption) rfl; (focus ((intro w' hS'); go_simp; (try with_reducible rfl))); (try simp only [Act.put, List.setIfInBounds_toArray, List.set_cons_zero, List.set_cons_succ]))
  (apply ord_want rfl rfl rfl; intro K hK; go_simp)
  refine (told2 (Rl.mk 0 x [] [] nms rls) hFr hSm.out _ (⟨0, x, none, 0, 0, none, 0, 0, ka, km, kc⟩ : Rv) _ (HR0.out _ (ext_trans hyb (ext_drew (ext_refl w4))))).mono ?_
  rintro r w5 ⟨g5, rfl, hT5, hx5⟩
  have x5 : Ext w4 w5 := ext_trans (ext_drew (ext_refl w4)) hx5
  have hS1 : (fun (w' : World) => Six w' b3 e ∧ RCells w' wm.heap.size 0 (⟨0, x, none, 0, 0, none, 0, 0, ka, km, kc⟩ : Rv)) w5 := ⟨Six.ext x5 hS.1, RCells.ext x5 hS.2⟩
  refine hK _ _ (fun _ => hS1) ?_
  clear hK K
  simp only [El.val]
  (try simp only [Act.put, List.setIfInBounds_toArray, List.set_cons_zero, List.set_cons_succ])
  (apply ord_want rfl rfl rfl; intro K hK; go_simp)
  obtain ⟨rk, rt, hrt⟩ := ruleT_one (Rl.mk 0 x [] [] nms rls)
  rw [hrt] at hT5
  refine (pairsOf_any _ [(rk, rt)] w5 hT5 (by simp)).mono ?_
  rintro r w6 ⟨v6, es6, rfl, hO6, hP6, hx6⟩
  have hS2 : (fun (w' : World) => Six w' b3 e ∧ RCells w' wm.heap.size 0 (⟨0, x, none, 0, 0, none, 0, 0, ka, km, kc⟩ : Rv)) w6 := ⟨Six.ext hx6 hS1.1, RCells.ext hx6 hS1.2⟩
  refine hK _ _ (fun _ => hS2) ?_
  clear hK K
  (try simp only [Act.put, List.setIfInBounds_toArray, List.set_cons_zero, List.set_cons_succ])
  obtain ⟨pa, pc, hpe, hPA⟩ := hO6.pairs (S := fun _ => True) (ps := [(rk, rt)]) hP6.1 (fun b hb => trivial) (fun i e p he hp => ⟨(hP6.2 i e p he hp).1, (hP6.2 i e p he hp).2.any⟩)
  subst hpe
  (apply ord_want rfl rfl rfl; intro K hK; go_simp)
  refine (infield_any s_intervals f _ _ _ [(rk, rt)] w6 hPA (by simp)).mono ?_
  rintro r w7 ⟨g7, rfl, hT7, hx7⟩
  have hS3 : (fun (w' : World) => Six w' b3 e ∧ RCells w' wm.heap.size 0 (⟨0, x, none, 0, 0, none, 0, 0, ka, km, kc⟩ : Rv)) w7 := ⟨Six.ext hx7 hS2.1, RCells.ext hx7 hS2.2⟩
  refine hK _ _ (fun _ => hS3) ?_
  clear hK K
  simp only [El.val]
  (try simp only [Act.put, List.setIfInBounds_toArray, List.set_cons_zero, List.set_cons_succ])
  have hfit := intervals_same f (Rl.mk 0 x [] [] nms rls) hFr
  rw [hrt, ← mapT_one] at hfit
  (apply ord_want rfl rfl rfl; intro K hK; go_simp)
  refine (same_any (S := fun _ => True) _ _ e g7 _ ((hT3.out.ext (ext_trans (ext_trans x5 hx6) hx7)).any) (hT7.any)).mono ?_
  rintro r w8 ⟨rfl, hx8⟩
  have hS4 : (fun (w' : World) => Six w' b3 e ∧ RCells w' wm.heap.size 0 (⟨0, x, none, 0, 0, none, 0, 0, ka, km, kc⟩ : Rv)) w8 := ⟨Six.ext hx8 hS3.1, RCells.ext hx8 hS3.2⟩
  refine hK _ _ (fun _ => hS4) ?_
  clear hK K
  rw [hfit]
  (try simp only [Act.put, List.setIfInBounds_toArray, List.set_cons_zero, List.set_cons_succ])
  (apply ord_held rfl rfl (by assumption) rfl; (focus ((intro w' hS'); go_simp; (try with_reducible rfl))); (try simp only [Act.put, List.setIfInBounds_toArray, List.set_cons_zero, List.set_cons_succ]))
  (apply ord_last rfl rfl rfl (by kernel_rfl); intro K hK; go_simp; refine hK _ _ ?_; clear hK K; (try simp only [Act.put, List.setIfInBounds_toArray, List.set_cons_zero, List.set_cons_succ]))
  refine ord_end ?_
  go_wp2_with fail
  go_ret
  exact ⟨rfl, ext_trans hxb (ext_trans (ext_trans (ext_trans x5 hx6) hx7) hx8)⟩
end Go.Proofs.YtdjojnlejkljdaaGreat

namespace Go.Proofs.YtdjojnlejkljdaaGreat
open Go.ChangeShapes Go.WideShapes Go.ChangeAt Go.RowKit

set_option maxRecDepth 100000 in
theorem ruleFilter_lifted (os : Os) (started : os.Started) (H : Type) (enc : TypeId × Value → H) (F : Stop.Interp) :
    ReturnsInHanded {} Tryz.checked os 3 .any ((Rows.OpenSpec.upto Rows.fnRuleFilterSpec).pre6 enc Tryz.prog Tryz.f3 Rows.fnRuleFilterUptoRow.domain false) (((Rows.OpenSpec.upto Rows.fnRuleFilterSpec).at F).post enc Tryz.prog Tryz.f3 false true false false) := by
  refine returnsInHanded_of_cond (C := Tryz.checked) (s := Rows.OpenSpec.upto Rows.fnRuleFilterSpec) (k := Rows.uptoSmall) rfl ownKnobs started (by kernel_rfl) Tryz.func3
    (OpenSpec.witness (enc := enc) (C := Tryz.checked) (s := Rows.OpenSpec.upto Rows.fnRuleFilterSpec) (k := Rows.uptoSmall) rfl false ⟨#[], #[.string ⟨#[]⟩, .string ⟨#[]⟩, .slice none 0 0, .slice none 0 0], []⟩ 8 (by kernel_rfl) (by kernel_rfl) (by kernel_rfl)
      (x := ([.lit (.string []), .lit (.string []), .nil, .nil], [], [])) (by kernel_rfl) rfl (by kernel_rfl)) ?_
  intro W base args ds gs before hval hW _ hk _
  have hbulk : Rows.uptoBulkAll (ds ++ gs) ≤ 1048576 := of_decide_eq_true hk
  have hW' := hW
  obtain ⟨p, q, hA, hV, rfl, hfz, hnd⟩ := hW'
  have hA : DataW.TrodAll enc Tryz.prog W 0 (fun _ => true) true Tryz.f3.params.toList args.toList ds p := hA
  rw [Tryz.params3] at hA hval
  obtain ⟨v0, vs0, d0, ds0, p0, q0, hargs, rfl, rfl, h0, r0⟩ := trodAll_cons hA
  obtain ⟨v1, vs1, d1, ds1, p1, q1, rfl, rfl, rfl, h1, r1⟩ := trodAll_cons r0
  obtain ⟨v2, vs2, d2, ds2, p2, q2, rfl, rfl, rfl, h2, r2⟩ := trodAll_cons r1
  obtain ⟨v3, vs3, d3, ds3, p3, q3, rfl, rfl, rfl, h3, r3⟩ := trodAll_cons r2
  obtain ⟨rfl, rfl, rfl⟩ := trodAll_nil r3
  obtain rfl : args = #[v0, v1, v2, v3] := by cases args; simp_all
  obtain ⟨rfl, rfl⟩ := trodVars_none hV
  obtain ⟨s0, rfl, rfl, rfl, w0⟩ := Go.ChangeMaps.open_string Tryz.underlying9 (hval 0 9 v0 rfl rfl) h0
  obtain ⟨s1, rfl, rfl, rfl, w1⟩ := Go.ChangeMaps.open_string Tryz.underlying9 (hval 1 9 v1 rfl rfl) h1
  obtain ⟨a2, n2, c2, rfl⟩ := okWide_slice Tryz.underlying22 (hval 2 22 v2 rfl rfl)
  obtain ⟨fuel2, hf2⟩ := h2
  obtain ⟨a2', n2', c2', ps2, e2, hP2, hSl2, -⟩ := strs_small hf2
  simp only [Value.cells, List.cons.injEq, and_true, Value.slice.injEq] at e2
  obtain ⟨rfl, rfl, rfl⟩ := e2
  obtain ⟨a3, n3, c3, rfl⟩ := okWide_slice Tryz.underlying22 (hval 3 22 v3 rfl rfl)
  obtain ⟨fuel3, hf3⟩ := h3
  obtain ⟨a3', n3', c3', ps3, e3, hP3, hSl3, -⟩ := strs_small hf3
  simp only [Value.cells, List.cons.injEq, and_true, Value.slice.injEq] at e3
  obtain ⟨rfl, rfl, rfl⟩ := e3
  simp only [List.append_nil, Rows.uptoBulkAll] at hbulk
  refine (ruleFilter_law s0 s1 a2 n2 c2 ps2 a3 n3 c3 ps3 W hP2 (show n2 ≤ 1048576 from Nat.le_trans (Nat.le_of_eq hP2.1.symm) (Nat.le_trans (show ps2.length ≤ Rows.uptoBulk d2 from hSl2) (by omega))) hP3 (show n3 ≤ 1048576 from Nat.le_trans (Nat.le_of_eq hP3.1.symm) (Nat.le_trans (show ps3.length ≤ Rows.uptoBulk d3 from hSl3) (by omega)))).mono fun e W' ⟨he, hx⟩ => ?_
  subst he
  exact ⟨_, rfl, post_law (s := Rows.fnRuleFilterSpec) laidOut (by kernel_rfl) (by kernel_rfl) Tryz.underlying4 rfl hW rfl hx⟩

/-- A rule of intervals of one match rule with a filter has the rules of the filter: where what comes in is of bulk at most 1048576. -/
theorem ruleFilter_proved : Rows.FnRuleFilterUptoSaid :=
  OpenClaim.holds_of_cond 3 Tryz.f3 rfl rfl rfl rfl rfl rfl rfl ⟨rfl, rfl, rfl, rfl, rfl⟩ rfl rfl rfl rfl rfl (by kernel_rfl) Tryz.func3 (by kernel_rfl)
    (of_decide_eq_true (by kernel_rfl)) (by unfold Func.isWrapper; first | (rw [if_pos (by decide +kernel)]; kernel_rfl) | (rw [if_neg (by decide +kernel)]; exact ⟨rfl, rfl⟩))
    (fun os started H enc _ F => ruleFilter_lifted os started H enc F)
#print axioms ruleFilter_proved
end Go.Proofs.YtdjojnlejkljdaaGreat

