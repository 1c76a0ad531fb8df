/-
  A rank_feature query has its field and what it scores by, and its settings: the statement FnRankFeature, for every input.
-/
import Derived.Test.YtdjojnlejkljdaaQs
import Derived.Test.YtdjojnlejkljdaaNm2
import Derived.Test.YtdjojnlejkljdaaTr
import Derived.Deep.CutBlock
import Derived.Test.YtdjojnlejkljdaaP4
import Derived.Test.YtdjojnlejkljdaaTx
import Derived.Test.YtdjojnlejkljdaaFi
import Derived.Test.YtdjojnlejkljdaaLx
import Derived.Test.YtdjojnlejkljdaaSm
import Derived.Test.YtdjojnlejkljdaaLq
import Derived.Test.YtdjojnlejkljdaaZz
import Derived.Test.YtdjojnlejkljdaaOpen2
import Derived.Test.YtdjojnlejkljdaaRows
import Derived.Test.YtdjojnlejkljdaaOpen
namespace Go.Proofs.Ytdjojnlejkljdaa
open Go.RowKit Go.Maps

theorem MapAt.swap {w : World} {b : Nat} {p q : ByteArray × Value} (h : MapAt w b [p, q]) (hne : p.1 ≠ q.1) : MapAt w b [q, p] := by
  obtain ⟨D, n, h1, h2, h3, h4, h5⟩ := h
  have e : ∀ k, lastOf [q, p] k = lastOf [p, q] k := fun k => by
    simp only [lastOf_cons, lastOf_nil, Option.none_or]
    cases hp : seq p.1 k <;> cases hq : seq q.1 k <;> simp
    exact absurd ((seq_iff.1 hp).trans (seq_iff.1 hq).symm) hne
  exact ⟨D, n, h1, h2, fun k u hu => h3 k u ((e k).symm.trans hu), fun k hk => h4 k ((e k).symm.trans hk), fun x hx => h5 x (by simp at hx ⊢; exact hx.symm)⟩
/-- A value whose method Name gives a name and whose method Source gives j, as long as the blocks of S stay. -/
def Scores (S : Nat → Prop) (w : World) (v : Value) (name : ByteArray) (j : J) : Prop := ∃ ty x f g, v = .iface ty x ∧ (∀ fuel w', (method (fuel + 1) ty x "Source").run Try.prog w' = .ok (f, x) w') ∧ (∀ w', (callFunc f #[x]).run Try.prog w' = .ok (.enter f #[x]) w') ∧
  (∀ fuel w', (method (fuel + 1) ty x "Name").run Try.prog w' = .ok (g, x) w') ∧ (∀ w', (callFunc g #[x]).run Try.prog w' = .ok (.enter g #[x]) w') ∧
  (∀ w', Keeps S w w' → w.heap.size ≤ w'.heap.size → Calls Try.prog f #[x] w' fun r w'' => ∃ ty' x', r = .returned (.tuple #[.iface ty' x', .nilIface]) ∧ JAt (fun b => w'.heap.size ≤ b) w'' (.iface ty' x') j ∧ Ext w' w'') ∧
  ∀ w', Calls Try.prog g #[x] w' fun r w'' => r = .returned (.string name) ∧ w'' = w'
theorem Scores.keep {S S' : Nat → Prop} {w w' : World} {v : Value} {name : ByteArray} {j : J} (h : Scores S w v name j) (hS : ∀ b, S b → b < w.heap.size → S' b) (k : Keeps S w w') (hsz : w.heap.size ≤ w'.heap.size) : Scores S' w' v name j := by
  obtain ⟨ty, x, f, g, rfl, h1, h2, h3, h4, hc, hd⟩ := h
  refine ⟨ty, x, f, g, rfl, h1, h2, h3, h4, fun w2 k2 hs2 => hc w2 (fun b hb hl => ?_) (by omega), hd⟩
  rw [k2 b (hS b hb hl) (by omega)]
  exact k b hb hl
/-- What is scored by, or nothing. -/
def ScoreAt (S : Nat → Prop) (w : World) (v : Value) : Option (ByteArray × J) → Prop
  | none => v = .nilIface
  | some p => p.1.size ≤ maxLen ∧ Scores S w v p.1 p.2
theorem ScoreAt.keep {S S' : Nat → Prop} {w w' : World} {v : Value} {o : Option (ByteArray × J)} (h : ScoreAt S w v o) (hS : ∀ b, S b → b < w.heap.size → S' b) (k : Keeps S w w') (hsz : w.heap.size ≤ w'.heap.size) : ScoreAt S' w' v o := by
  cases o with
  | none => exact h
  | some p => exact ⟨h.1, h.2.keep hS k hsz⟩
theorem ScoreAt.ext {S : Nat → Prop} {w w' : World} {v : Value} {o : Option (ByteArray × J)} (h : ScoreAt S w v o) (x : Ext w w') : ScoreAt S w' v o := h.keep (fun _ h _ => h) (x.keeps S) x.sz
def jS (_ : ByteArray) : Option (ByteArray × J) → List (ByteArray × J)
  | none => []
  | some p => [p]
def rankO (k : Int) (a b : Nat) : Option (ByteArray × J) := if k = 1 then some (s_linear, jMap []) else if k = 2 then some (s_log, jMap [(s_scaling_factor, .num a)]) else if k = 3 then some (s_saturation, jMap []) else if k = 4 then some (s_saturation, jMap [(s_pivot, .num a)]) else if k = 5 then some (s_sigmoid, jMap [(s_pivot, .num a), (s_exponent, .num b)]) else none

theorem jMap_none {S : Nat → Prop} {w : World} {b : Nat} (hM : MapAt w b []) (hS : S b) : JAt S w (.iface 149 (.map (some b))) (jMap []) := (PJ.nil S w).map hM hS (by simp)
section
@[go_sem] theorem rk_m1 (fuel : Nat) (v : Value) (w : World) : (method (fuel + 1) 66 v "Source").run Try.prog w = .ok (189, v) w := by kernel_rfl
@[go_sem] theorem rk_n1 (fuel : Nat) (v : Value) (w : World) : (method (fuel + 1) 66 v "Name").run Try.prog w = .ok (188, v) w := by kernel_rfl
@[go_sem] theorem rk_m2 (fuel : Nat) (v : Value) (w : World) : (method (fuel + 1) 68 v "Source").run Try.prog w = .ok (191, v) w := by kernel_rfl
@[go_sem] theorem rk_n2 (fuel : Nat) (v : Value) (w : World) : (method (fuel + 1) 68 v "Name").run Try.prog w = .ok (190, v) w := by kernel_rfl
@[go_sem] theorem rk_m3 (fuel : Nat) (v : Value) (w : World) : (method (fuel + 1) 70 v "Source").run Try.prog w = .ok (193, v) w := by kernel_rfl
@[go_sem] theorem rk_n3 (fuel : Nat) (v : Value) (w : World) : (method (fuel + 1) 70 v "Name").run Try.prog w = .ok (192, v) w := by kernel_rfl
@[go_sem] theorem rk_m4 (fuel : Nat) (v : Value) (w : World) : (method (fuel + 1) 73 v "Source").run Try.prog w = .ok (195, v) w := by kernel_rfl
@[go_sem] theorem rk_n4 (fuel : Nat) (v : Value) (w : World) : (method (fuel + 1) 73 v "Name").run Try.prog w = .ok (194, v) w := by kernel_rfl
end
theorem scores_linear {S : Nat → Prop} {w : World} (b : Nat) : Scores S w (.iface 66 (.pointer (some ⟨b, 0, none⟩))) s_linear (jMap []) := by
  refine ⟨_, _, _, _, rfl, fun fuel w' => rk_m1 fuel _ w', fun w' => by kernel_rfl, fun fuel w' => rk_n1 fuel _ w', fun w' => by kernel_rfl, fun w' _ _ => ?_, fun w' => ?_⟩
  · go_enter Try.func189, Try.ntmps189
    go_wp2_with fail
    go_ret2
    exact ⟨_, _, rfl, jMap_none (MapAt.at rfl) (Nat.le_refl _), by (repeat (first | exact ext_refl _ | assumption | refine ext_alloc ?_ _ | refine ext_drew ?_ | refine ext_set ?_ (by simp) _ | refine ext_trans ?_ (by assumption)))⟩
  · go_enter Try.func188, Try.ntmps188
    go_wp2_with fail
    go_ret
    exact ⟨rfl, rfl⟩
theorem scores_log {S : Nat → Prop} {w : World} (b : Nat) (x : Nat) (hb : Box w b #[.float .f64 x] 143) (hS : S b) : Scores S w (.iface 68 (.pointer (some ⟨b, 0, none⟩))) s_log (jMap [(s_scaling_factor, .num x)]) := by
  refine ⟨_, _, _, _, rfl, fun fuel w' => rk_m2 fuel _ w', fun w' => by kernel_rfl, fun fuel w' => rk_n2 fuel _ w', fun w' => by kernel_rfl, fun w' k _ => ?_, fun w' => ?_⟩
  · have hb' : Box w' b _ _ := (k b hS hb.lt).trans hb
    have c0 := hb'.cell 0 _ rfl
    have hbl := hb'.lt
    have hbm := hb'.alloc (.map #[] 0)
    have c1 := hbm.cell 0 _ rfl
    go_enter Try.func191, Try.ntmps191
    go_wp2_with (first
      | (refine wp_ins _ rfl _ _ _ 149 rfl 20 Try.underlying149 w'.heap.size [] rfl (MapAt.at rfl) (by simp [maxLen]) s_scaling_factor rfl (by decide) (.iface 22 (.float .f64 x)) rfl ?_; intro w1 hm hg)
      | fail)
    go_ret2
    exact ⟨_, _, rfl, PJ.map (rp := [(s_scaling_factor, _)]) (pj := [(s_scaling_factor, .num x)]) ⟨rfl, by simp [JsAt, JAt]⟩ hm (Nat.le_refl _) (by simp), ext_put (ext_alloc (ext_refl _) _) hg (Nat.le_refl _)⟩
  · go_enter Try.func190, Try.ntmps190
    go_wp2_with fail
    go_ret
    exact ⟨rfl, rfl⟩
theorem scores_sat {S : Nat → Prop} {w : World} (b : Nat) (hb : Box w b #[.pointer none] 145) (hS : S b) : Scores S w (.iface 70 (.pointer (some ⟨b, 0, none⟩))) s_saturation (jMap []) := by
  refine ⟨_, _, _, _, rfl, fun fuel w' => rk_m3 fuel _ w', fun w' => by kernel_rfl, fun fuel w' => rk_n3 fuel _ w', fun w' => by kernel_rfl, fun w' k _ => ?_, fun w' => ?_⟩
  · have hb' : Box w' b _ _ := (k b hS hb.lt).trans hb
    have hbl := hb'.lt
    have hbm := hb'.alloc (.map #[] 0)
    have c1 := hbm.cell 0 _ rfl
    go_enter Try.func193, Try.ntmps193
    go_wp2_with fail
    go_ret2
    exact ⟨_, _, rfl, jMap_none (MapAt.at rfl) (Nat.le_refl _), by (repeat (first | exact ext_refl _ | assumption | refine ext_alloc ?_ _ | refine ext_drew ?_ | refine ext_set ?_ (by simp) _ | refine ext_trans ?_ (by assumption)))⟩
  · go_enter Try.func192, Try.ntmps192
    go_wp2_with fail
    go_ret
    exact ⟨rfl, rfl⟩
theorem scores_pivot {S : Nat → Prop} {w : World} (b c : Nat) (x : Nat) (hb : Box w b #[.pointer (some ⟨c, 0, none⟩)] 145) (hc : Box w c #[.float .f64 x] 22) (hS : S b) (hSc : S c) : Scores S w (.iface 70 (.pointer (some ⟨b, 0, none⟩))) s_saturation (jMap [(s_pivot, .num x)]) := by
  refine ⟨_, _, _, _, rfl, fun fuel w' => rk_m3 fuel _ w', fun w' => by kernel_rfl, fun fuel w' => rk_n3 fuel _ w', fun w' => by kernel_rfl, fun w' k _ => ?_, fun w' => ?_⟩
  · have hb' : Box w' b _ _ := (k b hS hb.lt).trans hb
    have hc' : Box w' c _ _ := (k c hSc hc.lt).trans hc
    have hbl := hb'.lt
    have hcl := hc'.lt
    have hbm := hb'.alloc (.map #[] 0)
    have hcm := hc'.alloc (.map #[] 0)
    have c1 := hbm.cell 0 _ rfl
    have c2 := hcm.cell 0 _ rfl
    go_enter Try.func193, Try.ntmps193
    go_wp2_with (at_mapUpdate; refine wp_put _ rfl _ _ _ 149 rfl 20 Try.underlying149 w'.heap.size [] rfl (MapAt.at rfl) (by simp [maxLen]) s_pivot rfl (by decide) (.iface 22 (.float .f64 x)) rfl ?_; intro w1 hm hg)
    go_ret2
    exact ⟨_, _, rfl, PJ.map (rp := [(s_pivot, _)]) (pj := [(s_pivot, .num x)]) ⟨rfl, by simp [JsAt, JAt]⟩ hm (Nat.le_refl _) (by simp), ext_put (ext_alloc (ext_refl _) _) hg (Nat.le_refl _)⟩
  · go_enter Try.func192, Try.ntmps192
    go_wp2_with fail
    go_ret
    exact ⟨rfl, rfl⟩
set_option maxRecDepth 20000 in
theorem scores_sigmoid {S : Nat → Prop} {w : World} (b : Nat) (x y : Nat) (hb : Box w b #[.float .f64 x, .float .f64 y] 147) (hS : S b) : Scores S w (.iface 73 (.pointer (some ⟨b, 0, none⟩))) s_sigmoid (jMap [(s_pivot, .num x), (s_exponent, .num y)]) := by
  refine ⟨_, _, _, _, rfl, fun fuel w' => rk_m4 fuel _ w', fun w' => by kernel_rfl, fun fuel w' => rk_n4 fuel _ w', fun w' => by kernel_rfl, fun w' k _ => ?_, fun w' => ?_⟩
  · have hb' : Box w' b _ _ := (k b hS hb.lt).trans hb
    have hbl := hb'.lt
    have hbm := hb'.alloc (.map #[] 0)
    have c0 := hbm.cell 0 _ rfl
    have c1 := hbm.cell 1 _ rfl
    go_enter Try.func195, Try.ntmps195
    go_upto_region 1 with fail
    refine wp_region_tree (fun (w' : World) => w'.cell? ⟨b, 0, none⟩ = some (.float .f64 x) ∧ w'.cell? ⟨b, 1, none⟩ = some (.float .f64 y)) [1, 2, 3, 4, 5, 7, 8, 9, 10, 11, 13, 14, 15] (.held 1 (.held 2 (.held 3 (.held 4 (.held 5 (.held 7 (.held 8 (.held 9 (.held 10 (.held 11 (.one 0 (.two 6 (.one 12 (.held 13 (.held 14 (.held 15 (.one 16 (.done)))))) 12 (.one 6 (.held 13 (.held 14 (.held 15 (.one 16 (.done)))))))))))))))))) (by kernel_rfl) (by kernel_rfl) (fun d _ _ _ _ h => by cases d <;> exact h) (by kernel_rfl) ?_
    have hS : (fun (w' : World) => w'.cell? ⟨b, 0, none⟩ = some (.float .f64 x) ∧ w'.cell? ⟨b, 1, none⟩ = some (.float .f64 y)) _ := ⟨hb'.drew.cell 0 _ rfl, hb'.drew.cell 1 _ rfl⟩
    (apply tr_held rfl (by assumption) rfl; (focus ((intro w' hS'); go_simp; (try with_reducible rfl))); (try simp only [Act.put, List.setIfInBounds_toArray, List.set_cons_zero, List.set_cons_succ]))
    (apply tr_held rfl (by assumption) rfl; (focus ((intro w' hS'); go_simp; (try with_reducible rfl))); (try simp only [Act.put, List.setIfInBounds_toArray, List.set_cons_zero, List.set_cons_succ]))
    (apply tr_held rfl (by assumption) rfl; (focus ((intro w' hS'); go_simp; (try with_reducible rfl))); (try simp only [Act.put, List.setIfInBounds_toArray, List.set_cons_zero, List.set_cons_succ]))
    (apply tr_held rfl (by assumption) rfl; (focus ((intro w' hS'); go_simp; (try with_reducible rfl))); (try simp only [Act.put, List.setIfInBounds_toArray, List.set_cons_zero, List.set_cons_succ]))
    (apply tr_held rfl (by assumption) rfl; (focus ((intro w' hS'); go_simp; (try with_reducible rfl))); (try simp only [Act.put, List.setIfInBounds_toArray, List.set_cons_zero, List.set_cons_succ]))
    (apply tr_held rfl (by assumption) rfl; (focus ((intro w' hS'); go_simp; (try with_reducible rfl))); (try simp only [Act.put, List.setIfInBounds_toArray, List.set_cons_zero, List.set_cons_succ]))
    (apply tr_held rfl (by assumption) rfl; (focus ((intro w' hS'); go_simp; (try with_reducible rfl))); (try simp only [Act.put, List.setIfInBounds_toArray, List.set_cons_zero, List.set_cons_succ]))
    (apply tr_held rfl (by assumption) rfl; (focus ((intro w' hS'); go_simp; (try with_reducible rfl))); (try simp only [Act.put, List.setIfInBounds_toArray, List.set_cons_zero, List.set_cons_succ]))
    (apply tr_held rfl (by assumption) rfl; (focus ((intro w' hS'); go_simp; (try with_reducible rfl))); (try simp only [Act.put, List.setIfInBounds_toArray, List.set_cons_zero, List.set_cons_succ]))
    (apply tr_held rfl (by assumption) rfl; (focus ((intro w' hS'); go_simp; (try with_reducible rfl))); (try simp only [Act.put, List.setIfInBounds_toArray, List.set_cons_zero, List.set_cons_succ]))
    (apply tr_loud rfl rfl; intro K hK; go_simp)
    have hS1 : (fun (w' : World) => w'.cell? ⟨b, 0, none⟩ = some (.float .f64 x) ∧ w'.cell? ⟨b, 1, none⟩ = some (.float .f64 y)) (w'.drew.alloc (.map #[] 0)) := ⟨(hb'.drew.alloc _).cell 0 _ rfl, (hb'.drew.alloc _).cell 1 _ rfl⟩
    refine hK _ _ (fun _ => hS1) ?_
    clear hK K
    (try simp only [Act.put, List.setIfInBounds_toArray, List.set_cons_zero, List.set_cons_succ])
    refine tr_two ?_ ?_
    · skip
      apply tr_loud rfl rfl
      intro K hK
      refine op_ins _ _ _ _ 149 rfl 20 Try.underlying149 w'.drew.heap.size [] rfl (MapAt.at rfl) (by simp [maxLen]) s_pivot rfl (by decide) (.iface 22 (.float .f64 x)) rfl ?_
      intro w1 hm1 hg1
      have hx1 : Ext w' w1 := ext_put (ext_alloc (ext_drew (ext_refl _)) _) hg1 (Nat.le_refl _)
      have hS12 : (fun (w' : World) => w'.cell? ⟨b, 0, none⟩ = some (.float .f64 x) ∧ w'.cell? ⟨b, 1, none⟩ = some (.float .f64 y)) w1 := ⟨(hb'.ext hx1).cell 0 _ rfl, (hb'.ext hx1).cell 1 _ rfl⟩
      refine hK _ _ (fun _ => hS12) ?_
      clear hK K
      (try simp only [Act.put, List.setIfInBounds_toArray, List.set_cons_zero, List.set_cons_succ])
      apply tr_loud rfl rfl
      intro K hK
      refine op_ins _ _ _ _ 149 rfl 20 Try.underlying149 w'.drew.heap.size [(s_pivot, .iface 22 (.float .f64 x))] rfl hm1 (by simp [maxLen]) s_exponent rfl (by decide) (.iface 22 (.float .f64 y)) rfl ?_
      intro w2 hm2 hg2
      have hx2 : Ext w' w2 := ext_put hx1 hg2 (Nat.le_refl _)
      have hS22 : (fun (w' : World) => w'.cell? ⟨b, 0, none⟩ = some (.float .f64 x) ∧ w'.cell? ⟨b, 1, none⟩ = some (.float .f64 y)) w2 := ⟨(hb'.ext hx2).cell 0 _ rfl, (hb'.ext hx2).cell 1 _ rfl⟩
      refine hK _ _ (fun _ => hS22) ?_
      clear hK K
      (try simp only [Act.put, List.setIfInBounds_toArray, List.set_cons_zero, List.set_cons_succ])
      (apply tr_held rfl (by assumption) rfl; (focus ((intro w' hS'); go_simp; (try with_reducible rfl))); (try simp only [Act.put, List.setIfInBounds_toArray, List.set_cons_zero, List.set_cons_succ]))
      (apply tr_held rfl (by assumption) rfl; (focus ((intro w' hS'); go_simp; (try with_reducible rfl))); (try simp only [Act.put, List.setIfInBounds_toArray, List.set_cons_zero, List.set_cons_succ]))
      (apply tr_held rfl (by assumption) rfl; (focus ((intro w' hS'); go_simp; (try with_reducible rfl))); (try simp only [Act.put, List.setIfInBounds_toArray, List.set_cons_zero, List.set_cons_succ]))
      (apply tr_loud rfl rfl; intro K hK; go_simp)
      refine hK _ _ (fun _ => hS22) ?_
      clear hK K
      (try simp only [Act.put, List.setIfInBounds_toArray, List.set_cons_zero, List.set_cons_succ])
      refine tr_end ?_
      go_wp2_with fail
      go_ret2
      exact ⟨_, _, rfl, PJ.map (rp := [(s_pivot, .iface 22 (.float .f64 x)), (s_exponent, .iface 22 (.float .f64 y))]) (pj := [(s_pivot, .num x), (s_exponent, .num y)]) ⟨rfl, by simp [JsAt, JAt]⟩ hm2 (Nat.le_refl _) (by simp), hx2⟩
    · skip
      apply tr_loud rfl rfl
      intro K hK
      refine op_ins _ _ _ _ 149 rfl 20 Try.underlying149 w'.drew.heap.size [] rfl (MapAt.at rfl) (by simp [maxLen]) s_exponent rfl (by decide) (.iface 22 (.float .f64 y)) rfl ?_
      intro w1 hm1 hg1
      have hx1 : Ext w' w1 := ext_put (ext_alloc (ext_drew (ext_refl _)) _) hg1 (Nat.le_refl _)
      have hS12 : (fun (w' : World) => w'.cell? ⟨b, 0, none⟩ = some (.float .f64 x) ∧ w'.cell? ⟨b, 1, none⟩ = some (.float .f64 y)) w1 := ⟨(hb'.ext hx1).cell 0 _ rfl, (hb'.ext hx1).cell 1 _ rfl⟩
      refine hK _ _ (fun _ => hS12) ?_
      clear hK K
      (try simp only [Act.put, List.setIfInBounds_toArray, List.set_cons_zero, List.set_cons_succ])
      apply tr_loud rfl rfl
      intro K hK
      refine op_ins _ _ _ _ 149 rfl 20 Try.underlying149 w'.drew.heap.size [(s_exponent, .iface 22 (.float .f64 y))] rfl hm1 (by simp [maxLen]) s_pivot rfl (by decide) (.iface 22 (.float .f64 x)) rfl ?_
      intro w2 hm2 hg2
      have hx2 : Ext w' w2 := ext_put hx1 hg2 (Nat.le_refl _)
      have hS22 : (fun (w' : World) => w'.cell? ⟨b, 0, none⟩ = some (.float .f64 x) ∧ w'.cell? ⟨b, 1, none⟩ = some (.float .f64 y)) w2 := ⟨(hb'.ext hx2).cell 0 _ rfl, (hb'.ext hx2).cell 1 _ rfl⟩
      refine hK _ _ (fun _ => hS22) ?_
      clear hK K
      (try simp only [Act.put, List.setIfInBounds_toArray, List.set_cons_zero, List.set_cons_succ])
      (apply tr_held rfl (by assumption) rfl; (focus ((intro w' hS'); go_simp; (try with_reducible rfl))); (try simp only [Act.put, List.setIfInBounds_toArray, List.set_cons_zero, List.set_cons_succ]))
      (apply tr_held rfl (by assumption) rfl; (focus ((intro w' hS'); go_simp; (try with_reducible rfl))); (try simp only [Act.put, List.setIfInBounds_toArray, List.set_cons_zero, List.set_cons_succ]))
      (apply tr_held rfl (by assumption) rfl; (focus ((intro w' hS'); go_simp; (try with_reducible rfl))); (try simp only [Act.put, List.setIfInBounds_toArray, List.set_cons_zero, List.set_cons_succ]))
      (apply tr_loud rfl rfl; intro K hK; go_simp)
      refine hK _ _ (fun _ => hS22) ?_
      clear hK K
      (try simp only [Act.put, List.setIfInBounds_toArray, List.set_cons_zero, List.set_cons_succ])
      refine tr_end ?_
      go_wp2_with fail
      go_ret2
      exact ⟨_, _, rfl, PJ.map (rp := [(s_pivot, .iface 22 (.float .f64 x)), (s_exponent, .iface 22 (.float .f64 y))]) (pj := [(s_pivot, .num x), (s_exponent, .num y)]) ⟨rfl, by simp [JsAt, JAt]⟩ (hm2.swap (show s_exponent ≠ s_pivot by decide)) (Nat.le_refl _) (by simp), hx2⟩
  · go_enter Try.func194, Try.ntmps194
    go_wp2_with fail
    go_ret
    exact ⟨rfl, rfl⟩
theorem newSat_any (w : World) : Calls Try.prog 44 #[] w fun r w' => r = .returned (.pointer (some ⟨w.heap.size, 0, none⟩)) ∧ w' = w.alloc (.cells #[.pointer none] 145) := by
  go_enter Try.func44, Try.ntmps44
  go_wp2_with fail
  go_ret
  exact ⟨rfl, rfl⟩
theorem pivot_any (w : World) (b : Nat) (z : Value) (hb : Box w b #[z] 145) (x : Nat) : Calls Try.prog 45 #[.pointer (some ⟨b, 0, none⟩), .float .f64 x] w fun r w' => r = .returned (.pointer (some ⟨b, 0, none⟩)) ∧ w' = (w.setCell ⟨b, 0, none⟩ (.pointer (some ⟨w.heap.size, 0, none⟩))).alloc (.cells #[.float .f64 x] 22) := by
  have c0 := hb.cell 0 _ rfl
  have f0 := hb.free 0
  have hl := hb.lt
  go_enter Try.func45, Try.ntmps45
  go_wp2_with fail
  go_ret
  exact ⟨rfl, rfl⟩
theorem scoreFn_any (w : World) (b : Nat) (z0 z1 z2 z3 : Value) (hb : Box w b #[z0, z1, z2, z3] 139) (ty : TypeId) (x : Value) : Calls Try.prog 41 #[.pointer (some ⟨b, 0, none⟩), .iface ty x] w fun r w' => r = .returned (.pointer (some ⟨b, 0, none⟩)) ∧ w' = w.setCell ⟨b, 1, none⟩ (.iface ty x) := by
  have c1 := hb.cell 1 _ rfl
  have f1 := hb.free 1
  have hl := hb.lt
  go_enter Try.func41, Try.ntmps41
  go_wp2_with fail
  go_ret
  exact ⟨rfl, rfl⟩
end Go.Proofs.Ytdjojnlejkljdaa

namespace Go.Proofs.Ytdjojnlejkljdaa
open Go.RowKit

set_option maxRecDepth 20000 in
set_option maxHeartbeats 4000000 in
theorem rankFeature_src {S : Nat → Prop} (w : World) (bq : Nat) (f : ByteArray) (v1 : Value) (o1 : Option (ByteArray × J)) (h1 : ScoreAt S w v1 o1) (v2 : Option Addr) (o2 : Option T) (h2 : FN S w v2 o2) (v3 : ByteArray) (o3 : Option T) (h3 : v3 = fT o3) (hbq : Box w bq #[.string f, v1, .pointer v2, .string v3] 139) :
    Calls Try.prog 50 #[.pointer (some ⟨bq, 0, none⟩)] w fun r w' => ∃ v, r = .returned (.tuple #[v, .nilIface]) ∧ JAt (fun _ => True) w' v (jMap [(s_rank_feature, jMap ([(s_field, J.str f)] ++ jS s_score (o1) ++ jN s_boost (o2) ++ jT s_name (o3)))]) ∧ Ext w w' := by
  have tok0 := trivial
  have hblt := hbq.lt
  have H2 := Lib.hid h2
  have H3 := Lib.hid h3
  clear h2 h3
  have H1 := Lib.hid h1
  clear h1
  cases o1 with
  | none =>
    have hv : v1 = .nilIface := H1.out
    subst hv
    have hc0 := hbq.cell 0 _ rfl
    have hc1 := hbq.cell 1 _ rfl
    have hc2 := hbq.cell 2 _ rfl
    have hc3 := hbq.cell 3 _ rfl
    go_enter Try.func50, Try.ntmps50
    go_upto_if 23 with (first
      | (at_mapUpdate; have _t := tok0; refine wp_put _ rfl _ _ _ 149 rfl 20 Try.underlying149 w.heap.size [] rfl ((MapAt.at (by simp)).alloc _) (by simp [maxLen]) s_rank_feature rfl (by decide) _ rfl ?_; intro w1 hm hg; clear tok0
         have hx1 : Ext w w1 := ext_put (ext_alloc (ext_alloc (ext_refl _) _) _) hg (by omega)
         have hl0_1 := hm
         have hs0_1 := hl0_1.lt
         have hl1_1 : MapAt w1 (w.heap.size + 1) [] := (MapAt.at (by simp)).grown hg (someNe (by omega))
         have hs1_1 := hl1_1.lt
         have hb1 := hbq.ext hx1
         have hc0 := hb1.cell 0 _ rfl
         have hc1 := hb1.cell 1 _ rfl
         have hc2 := hb1.cell 2 _ rfl
         have hc3 := hb1.cell 3 _ rfl
         clear hg hm)
      | (at_mapUpdate; refine wp_put _ rfl _ _ _ 149 rfl 20 Try.underlying149 (w.heap.size + 1) [] rfl (hl1_1) (by simp [maxLen]) s_field rfl (by decide) _ rfl ?_; intro w2 hm hg
         have hx2 : Ext w w2 := ext_put (hx1) hg (by omega)
         have hl0_2 : MapAt w2 w.heap.size [(s_rank_feature, .iface 149 (.map (some (w.heap.size + 1))))] := (hl0_1).grown hg (someNe (by omega))
         have hs0_2 := hl0_2.lt
         have hl1_2 := hm
         have hs1_2 := hl1_2.lt
         have hb2 := hbq.ext hx2
         have hc0 := hb2.cell 0 _ rfl
         have hc1 := hb2.cell 1 _ rfl
         have hc2 := hb2.cell 2 _ rfl
         have hc3 := hb2.cell 3 _ rfl
         clear hg hm hl0_1 hl1_1)
      | fail)
    have hx0 : Ext w w2 := hx2
    have hm0 : MapAt w2 w.heap.size [(s_rank_feature, .iface 149 (.map (some (w.heap.size + 1))))] := hl0_2
    have hm1 : MapAt w2 (w.heap.size + 1) [(s_field, .iface 9 (.string f))] := hl1_2
    have hz0 := hm0.lt
    have hz1 := hm1.lt
    have hne0 : w.heap.size ≠ (w.heap.size + 1) := by omega
    have hw1 : w.heap.size ≤ (w.heap.size + 1) := by have := hx0.sz; omega
    have hp0 : PJ (fun b => b ≠ w.heap.size ∧ b ≠ w.heap.size + 1) w2 [(s_field, .iface 9 (.string f))] ([(s_field, J.str f)]) := ⟨rfl, by simp only [List.map_cons, List.map_nil, JsAt]; exact ⟨(by simp [JAt]), trivial⟩⟩
    go_cut [] (fun wc => Ext w wc ∧ MapAt wc w.heap.size [(s_rank_feature, .iface 149 (.map (some (w.heap.size + 1))))] ∧ ∃ rp, rp.length ≤ 2 ∧ MapAt wc (w.heap.size + 1) rp ∧ PJ (fun b => b ≠ w.heap.size ∧ b ≠ w.heap.size + 1) wc rp ([(s_field, J.str f)] ++ jS s_score (none)))
    case first =>
        go_wp2_with fail
        go_meet
        case rel =>
          refine ⟨hx0, hm0, [(s_field, .iface 9 (.string f))], by simp, hm1, ?_⟩
          rw [show jS s_score none = [] from rfl, List.append_nil]
          exact hp0
    case rest =>
      obtain ⟨hxc, hm0_0, rp, hr, hnc, hpc⟩ := hcut
      have hbc := hbq.ext hxc
      have hc0 := hbc.cell 0 _ rfl
      have hc1 := hbc.cell 1 _ rfl
      have hc2 := hbc.cell 2 _ rfl
      have hc3 := hbc.cell 3 _ rfl
      go_upto_if 46 with fail
      go_cut [] (fun wc => Ext w wc ∧ MapAt wc w.heap.size [(s_rank_feature, .iface 149 (.map (some (w.heap.size + 1))))] ∧ ∃ rp, rp.length ≤ 3 ∧ MapAt wc (w.heap.size + 1) rp ∧ PJ (fun b => b ≠ w.heap.size ∧ b ≠ w.heap.size + 1) wc rp ([(s_field, J.str f)] ++ jS s_score (none) ++ jN s_boost (o2)))
      case first =>
        cases o2 with
        | none =>
          have hv : v2 = none := H2.out
          subst hv
          go_wp2_with fail
          go_meet
          case rel =>
            refine ⟨hxc, hm0_0, rp, Nat.le_succ_of_le hr, hnc, ?_⟩
            rw [show jN s_boost none = [] from rfl, List.append_nil]
            exact hpc
        | some t2 =>
          obtain ⟨cc, hv, hSc, hcc⟩ := H2.out
          subst hv
          have hcc := hxc.cell hcc
          go_wp2_with (at_mapUpdate; refine wp_put _ rfl _ _ _ 149 rfl 20 Try.underlying149 (w.heap.size + 1) rp rfl hnc (Nat.lt_of_le_of_lt hr (by decide)) s_boost rfl (by decide) _ rfl ?_; intro wn hnn hgn)
          go_meet
          case rel =>
            have hxn := ext_put hxc hgn (by omega)
            refine ⟨hxn, hm0_0.grown hgn (someNe hne0), _, ?_, hnn, ?_⟩
            · rw [List.length_append]; exact Nat.succ_le_succ (by exact hr)
            · rw [show jN s_boost (some t2) = [(s_boost, .num t2.num)] from rfl]
              exact PJ.snoc (hpc.keep (fun _ h _ => h) (keeps_grown hgn (fun b hb e => by simp only [Option.some.injEq] at e; omega))) (by simp only [JAt]; rfl)
      case rest =>
        obtain ⟨hxc, hm0_1, rp, hr, hnc, hpc⟩ := hcut
        have hbc := hbq.ext hxc
        have hc0 := hbc.cell 0 _ rfl
        have hc1 := hbc.cell 1 _ rfl
        have hc2 := hbc.cell 2 _ rfl
        have hc3 := hbc.cell 3 _ rfl
        go_upto_if 59 with fail
        go_cut [] (fun wc => Ext w wc ∧ MapAt wc w.heap.size [(s_rank_feature, .iface 149 (.map (some (w.heap.size + 1))))] ∧ ∃ rp, rp.length ≤ 4 ∧ MapAt wc (w.heap.size + 1) rp ∧ PJ (fun b => b ≠ w.heap.size ∧ b ≠ w.heap.size + 1) wc rp ([(s_field, J.str f)] ++ jS s_score (none) ++ jN s_boost (o2) ++ jT s_name (o3)))
        case first =>
          cases hE : v3.toList.isEmpty
          · have hE1 := jT_some (k := s_name) H3.out hE
            go_wp2_with (at_mapUpdate; refine wp_put _ rfl _ _ _ 149 rfl 20 Try.underlying149 (w.heap.size + 1) rp rfl hnc (Nat.lt_of_le_of_lt hr (by decide)) s_name rfl (by decide) _ rfl ?_; intro wn hnn hgn)
            go_meet
            case rel =>
              have hxn := ext_put hxc hgn (by omega)
              refine ⟨hxn, hm0_1.grown hgn (someNe hne0), _, ?_, hnn, ?_⟩
              · rw [List.length_append]; exact Nat.succ_le_succ (by exact hr)
              · rw [hE1]
                exact PJ.snoc (hpc.keep (fun _ h _ => h) (keeps_grown hgn (fun b hb e => by simp only [Option.some.injEq] at e; omega))) (by simp only [JAt]; rfl)
          · have hE1 := jT_none (k := s_name) H3.out hE
            go_wp2_with fail
            go_meet
            case rel =>
              refine ⟨hxc, hm0_1, rp, Nat.le_succ_of_le hr, hnc, ?_⟩
              rw [hE1, List.append_nil]
              exact hpc
        case rest =>
          obtain ⟨hxc, hm0_2, rp, hr, hnc, hpc⟩ := hcut
          have hbc := hbq.ext hxc
          have hc0 := hbc.cell 0 _ rfl
          have hc1 := hbc.cell 1 _ rfl
          have hc2 := hbc.cell 2 _ rfl
          have hc3 := hbc.cell 3 _ rfl
          go_wp2_with fail
          go_ret2
          refine ⟨_, rfl, ?_, hxc⟩
          exact jMap_one hm0_2 trivial (hpc.wide.map hnc trivial (by have := hpc.len; omega))
  | some p1 =>
    obtain ⟨hpl, sty, sx, sf, sg, hv, hm1, hm2, hm3, hm4, hC1, hC2⟩ := H1.out
    subst hv
    have HC1 := Lib.hid hC1
    have HC2 := Lib.hid hC2
    clear hC1 hC2
    have hc0 := hbq.cell 0 _ rfl
    have hc1 := hbq.cell 1 _ rfl
    have hc2 := hbq.cell 2 _ rfl
    have hc3 := hbq.cell 3 _ rfl
    go_enter Try.func50, Try.ntmps50
    go_upto_if 23 with (first
      | (at_mapUpdate; have _t := tok0; refine wp_put _ rfl _ _ _ 149 rfl 20 Try.underlying149 w.heap.size [] rfl ((MapAt.at (by simp)).alloc _) (by simp [maxLen]) s_rank_feature rfl (by decide) _ rfl ?_; intro w1 hm hg; clear tok0
         have hx1 : Ext w w1 := ext_put (ext_alloc (ext_alloc (ext_refl _) _) _) hg (by omega)
         have hl0_1 := hm
         have hs0_1 := hl0_1.lt
         have hl1_1 : MapAt w1 (w.heap.size + 1) [] := (MapAt.at (by simp)).grown hg (someNe (by omega))
         have hs1_1 := hl1_1.lt
         have hb1 := hbq.ext hx1
         have hc0 := hb1.cell 0 _ rfl
         have hc1 := hb1.cell 1 _ rfl
         have hc2 := hb1.cell 2 _ rfl
         have hc3 := hb1.cell 3 _ rfl
         clear hg hm)
      | (at_mapUpdate; refine wp_put _ rfl _ _ _ 149 rfl 20 Try.underlying149 (w.heap.size + 1) [] rfl (hl1_1) (by simp [maxLen]) s_field rfl (by decide) _ rfl ?_; intro w2 hm hg
         have hx2 : Ext w w2 := ext_put (hx1) hg (by omega)
         have hl0_2 : MapAt w2 w.heap.size [(s_rank_feature, .iface 149 (.map (some (w.heap.size + 1))))] := (hl0_1).grown hg (someNe (by omega))
         have hs0_2 := hl0_2.lt
         have hl1_2 := hm
         have hs1_2 := hl1_2.lt
         have hb2 := hbq.ext hx2
         have hc0 := hb2.cell 0 _ rfl
         have hc1 := hb2.cell 1 _ rfl
         have hc2 := hb2.cell 2 _ rfl
         have hc3 := hb2.cell 3 _ rfl
         clear hg hm hl0_1 hl1_1)
      | fail)
    have hx0 : Ext w w2 := hx2
    have hm0 : MapAt w2 w.heap.size [(s_rank_feature, .iface 149 (.map (some (w.heap.size + 1))))] := hl0_2
    have hm1 : MapAt w2 (w.heap.size + 1) [(s_field, .iface 9 (.string f))] := hl1_2
    have hz0 := hm0.lt
    have hz1 := hm1.lt
    have hne0 : w.heap.size ≠ (w.heap.size + 1) := by omega
    have hw1 : w.heap.size ≤ (w.heap.size + 1) := by have := hx0.sz; omega
    have hp0 : PJ (fun b => b ≠ w.heap.size ∧ b ≠ w.heap.size + 1) w2 [(s_field, .iface 9 (.string f))] ([(s_field, J.str f)]) := ⟨rfl, by simp only [List.map_cons, List.map_nil, JsAt]; exact ⟨(by simp [JAt]), trivial⟩⟩
    go_cut [] (fun wc => Ext w wc ∧ MapAt wc w.heap.size [(s_rank_feature, .iface 149 (.map (some (w.heap.size + 1))))] ∧ ∃ rp, rp.length ≤ 2 ∧ MapAt wc (w.heap.size + 1) rp ∧ PJ (fun b => b ≠ w.heap.size ∧ b ≠ w.heap.size + 1) wc rp ([(s_field, J.str f)] ++ jS s_score (some p1)))
    case first =>
        have hsn := hm1.lt
        go_wp2_with (first
          | ((with_reducible show Calls _ sf _ _ _); refine (HC1.out _ (Ext.keeps (ext_trans hx0 (by (repeat (first | exact ext_refl _ | assumption | refine ext_alloc ?_ _ | refine ext_drew ?_ | refine ext_set ?_ (by simp) _ | refine ext_trans ?_ (by assumption))))) _) (Ext.sz (ext_trans hx0 (by (repeat (first | exact ext_refl _ | assumption | refine ext_alloc ?_ _ | refine ext_drew ?_ | refine ext_set ?_ (by simp) _ | refine ext_trans ?_ (by assumption))))))).mono ?_; rintro r ws ⟨jty, jx, rfl, hJs, hxs⟩
             have hxt : Ext w ws := ext_trans hx0 (ext_trans (by (repeat (first | exact ext_refl _ | assumption | refine ext_alloc ?_ _ | refine ext_drew ?_ | refine ext_set ?_ (by simp) _ | refine ext_trans ?_ (by assumption)))) hxs)
             have hmt := MapAt.ext hm0 (ext_trans (by (repeat (first | exact ext_refl _ | assumption | refine ext_alloc ?_ _ | refine ext_drew ?_ | refine ext_set ?_ (by simp) _ | refine ext_trans ?_ (by assumption)))) hxs)
             have hnt := MapAt.ext hm1 (ext_trans (by (repeat (first | exact ext_refl _ | assumption | refine ext_alloc ?_ _ | refine ext_drew ?_ | refine ext_set ?_ (by simp) _ | refine ext_trans ?_ (by assumption)))) hxs)
             have hpt := hp0.keep (S' := (fun b => b ≠ w.heap.size ∧ b ≠ w.heap.size + 1)) (fun _ h _ => h) (Ext.keeps (ext_trans (by (repeat (first | exact ext_refl _ | assumption | refine ext_alloc ?_ _ | refine ext_drew ?_ | refine ext_set ?_ (by simp) _ | refine ext_trans ?_ (by assumption)))) hxs) _)
             have hJs := hJs.to (S' := (fun b => b ≠ w.heap.size ∧ b ≠ w.heap.size + 1)) (fun b hb _ => by (try simp at hb); omega)
             have hbs := hbq.ext hxt
             have hc0 := hbs.cell 0 _ rfl
             have hc1 := hbs.cell 1 _ rfl
             have hc2 := hbs.cell 2 _ rfl
             have hc3 := hbs.cell 3 _ rfl)
          | ((with_reducible show Calls _ sg _ _ _); refine (HC2.out _).mono ?_; rintro r wn2 ⟨rfl, hwe⟩; rw [hwe]; clear hwe)
          | (at_mapUpdate; refine wp_put _ rfl _ _ _ 149 rfl 20 Try.underlying149 (w.heap.size + 1) [(s_field, .iface 9 (.string f))] rfl hnt (by simp [maxLen]) p1.1 rfl hpl _ rfl ?_; intro wn hnn hgn)
          | fail)
        go_meet
        case rel =>
          have hxn := ext_put hxt hgn (by omega)
          refine ⟨hxn, hmt.grown hgn (someNe hne0), _, ?_, hnn, ?_⟩
          · rw [List.length_append]; exact Nat.succ_le_succ (by simp)
          · rw [show jS s_score (some p1) = [p1] from rfl]
            have hk9 : Keeps (fun b => b ≠ w.heap.size ∧ b ≠ w.heap.size + 1) ws wn := keeps_grown hgn (fun b hb e => by simp only [Option.some.injEq] at e; omega)
            exact PJ.snoc (hpt.keep (fun _ h _ => h) hk9) (JAt.keep (fun _ h _ => h) hk9 _ hJs)
    case rest =>
      obtain ⟨hxc, hm0_0, rp, hr, hnc, hpc⟩ := hcut
      have hbc := hbq.ext hxc
      have hc0 := hbc.cell 0 _ rfl
      have hc1 := hbc.cell 1 _ rfl
      have hc2 := hbc.cell 2 _ rfl
      have hc3 := hbc.cell 3 _ rfl
      go_upto_if 46 with fail
      go_cut [] (fun wc => Ext w wc ∧ MapAt wc w.heap.size [(s_rank_feature, .iface 149 (.map (some (w.heap.size + 1))))] ∧ ∃ rp, rp.length ≤ 3 ∧ MapAt wc (w.heap.size + 1) rp ∧ PJ (fun b => b ≠ w.heap.size ∧ b ≠ w.heap.size + 1) wc rp ([(s_field, J.str f)] ++ jS s_score (some p1) ++ jN s_boost (o2)))
      case first =>
        cases o2 with
        | none =>
          have hv : v2 = none := H2.out
          subst hv
          go_wp2_with fail
          go_meet
          case rel =>
            refine ⟨hxc, hm0_0, rp, Nat.le_succ_of_le hr, hnc, ?_⟩
            rw [show jN s_boost none = [] from rfl, List.append_nil]
            exact hpc
        | some t2 =>
          obtain ⟨cc, hv, hSc, hcc⟩ := H2.out
          subst hv
          have hcc := hxc.cell hcc
          go_wp2_with (at_mapUpdate; refine wp_put _ rfl _ _ _ 149 rfl 20 Try.underlying149 (w.heap.size + 1) rp rfl hnc (Nat.lt_of_le_of_lt hr (by decide)) s_boost rfl (by decide) _ rfl ?_; intro wn hnn hgn)
          go_meet
          case rel =>
            have hxn := ext_put hxc hgn (by omega)
            refine ⟨hxn, hm0_0.grown hgn (someNe hne0), _, ?_, hnn, ?_⟩
            · rw [List.length_append]; exact Nat.succ_le_succ (by exact hr)
            · rw [show jN s_boost (some t2) = [(s_boost, .num t2.num)] from rfl]
              exact PJ.snoc (hpc.keep (fun _ h _ => h) (keeps_grown hgn (fun b hb e => by simp only [Option.some.injEq] at e; omega))) (by simp only [JAt]; rfl)
      case rest =>
        obtain ⟨hxc, hm0_1, rp, hr, hnc, hpc⟩ := hcut
        have hbc := hbq.ext hxc
        have hc0 := hbc.cell 0 _ rfl
        have hc1 := hbc.cell 1 _ rfl
        have hc2 := hbc.cell 2 _ rfl
        have hc3 := hbc.cell 3 _ rfl
        go_upto_if 59 with fail
        go_cut [] (fun wc => Ext w wc ∧ MapAt wc w.heap.size [(s_rank_feature, .iface 149 (.map (some (w.heap.size + 1))))] ∧ ∃ rp, rp.length ≤ 4 ∧ MapAt wc (w.heap.size + 1) rp ∧ PJ (fun b => b ≠ w.heap.size ∧ b ≠ w.heap.size + 1) wc rp ([(s_field, J.str f)] ++ jS s_score (some p1) ++ jN s_boost (o2) ++ jT s_name (o3)))
        case first =>
          cases hE : v3.toList.isEmpty
          · have hE1 := jT_some (k := s_name) H3.out hE
            go_wp2_with (at_mapUpdate; refine wp_put _ rfl _ _ _ 149 rfl 20 Try.underlying149 (w.heap.size + 1) rp rfl hnc (Nat.lt_of_le_of_lt hr (by decide)) s_name rfl (by decide) _ rfl ?_; intro wn hnn hgn)
            go_meet
            case rel =>
              have hxn := ext_put hxc hgn (by omega)
              refine ⟨hxn, hm0_1.grown hgn (someNe hne0), _, ?_, hnn, ?_⟩
              · rw [List.length_append]; exact Nat.succ_le_succ (by exact hr)
              · rw [hE1]
                exact PJ.snoc (hpc.keep (fun _ h _ => h) (keeps_grown hgn (fun b hb e => by simp only [Option.some.injEq] at e; omega))) (by simp only [JAt]; rfl)
          · have hE1 := jT_none (k := s_name) H3.out hE
            go_wp2_with fail
            go_meet
            case rel =>
              refine ⟨hxc, hm0_1, rp, Nat.le_succ_of_le hr, hnc, ?_⟩
              rw [hE1, List.append_nil]
              exact hpc
        case rest =>
          obtain ⟨hxc, hm0_2, rp, hr, hnc, hpc⟩ := hcut
          have hbc := hbq.ext hxc
          have hc0 := hbc.cell 0 _ rfl
          have hc1 := hbc.cell 1 _ rfl
          have hc2 := hbc.cell 2 _ rfl
          have hc3 := hbc.cell 3 _ rfl
          go_wp2_with fail
          go_ret2
          refine ⟨_, rfl, ?_, hxc⟩
          exact jMap_one hm0_2 trivial (hpc.wide.map hnc trivial (by have := hpc.len; omega))
end Go.Proofs.Ytdjojnlejkljdaa

namespace Go.Proofs.Ytdjojnlejkljdaa
open Go.RowKit

set_option maxRecDepth 20000 in
set_option maxHeartbeats 4000000 in
theorem rankFeature_any {S : Nat → Prop} (a : Option Addr) (n c : Nat) (ps : List (ByteArray × T)) (w : World) (f : ByteArray) (rk : Int) (ra rb : Nat) (h : PairsAt S w a n c ps) :
    Calls Try.prog 12 #[.string f, .agg #[.int .i64 rk, .float .f64 ra, .float .f64 rb], .slice a n c] w fun r w' => ∃ g : El, r = .returned (.tuple #[g.val, .bool true]) ∧ TreeAt (fun b => w.heap.size + 1 ≤ b) w' g (treeJ (jMap [(s_rank_feature, jMap ([(s_field, J.str f)] ++ jS s_score (rankO rk ra rb) ++ jN s_boost (lastOf ps s_boost) ++ jT s_name (lastOf ps s_name)))])) ∧ Ext w w' := by
  obtain ⟨hl, hn, hm, hc⟩ := h
  unfold maxLen at hm
  have HL := Lib.hid hl
  clear hl
  go_enter Try.func12, Try.ntmps12
  have hx3 : Ext w (((w.alloc (.cells #[.int .i64 rk, .float .f64 ra, .float .f64 rb] 24)).alloc (.cells (El.arr El0) 30)).alloc (.cells #[.string f, .nilIface, .pointer none, .string ⟨#[]⟩] 139)) := ext_alloc (ext_alloc (ext_alloc (ext_refl _) _) _) _
  have hk3 : Box (((w.alloc (.cells #[.int .i64 rk, .float .f64 ra, .float .f64 rb] 24)).alloc (.cells (El.arr El0) 30)).alloc (.cells #[.string f, .nilIface, .pointer none, .string ⟨#[]⟩] 139)) w.heap.size #[.int .i64 rk, .float .f64 ra, .float .f64 rb] 24 := ((Box.at rfl _ _).alloc _).alloc _
  have hr3 : Box (((w.alloc (.cells #[.int .i64 rk, .float .f64 ra, .float .f64 rb] 24)).alloc (.cells (El.arr El0) 30)).alloc (.cells #[.string f, .nilIface, .pointer none, .string ⟨#[]⟩] 139)) (w.heap.size + 1) (El.arr El0) 30 := (Box.at (by simp) _ _).alloc _
  have hb3 : Box (((w.alloc (.cells #[.int .i64 rk, .float .f64 ra, .float .f64 rb] 24)).alloc (.cells (El.arr El0) 30)).alloc (.cells #[.string f, .nilIface, .pointer none, .string ⟨#[]⟩] 139)) (w.heap.size + 1 + 1) #[.string f, .nilIface, .pointer none, .string ⟨#[]⟩] 139 := Box.at (by simp) _ _
  have hs3 : (((w.alloc (.cells #[.int .i64 rk, .float .f64 ra, .float .f64 rb] 24)).alloc (.cells (El.arr El0) 30)).alloc (.cells #[.string f, .nilIface, .pointer none, .string ⟨#[]⟩] 139)).heap.size = w.heap.size + 1 + 1 + 1 := by simp
  go_upto_block 0 with go_in
  generalize hWW : (((w.alloc (.cells #[.int .i64 rk, .float .f64 ra, .float .f64 rb] 24)).alloc (.cells #[.int .i64 0, .string ⟨#[]⟩, .float .f64 0, .bool false, .slice none 0 0, .slice none 0 0] 30)).alloc (.cells #[.string f, .nilIface, .pointer none, .string ⟨#[]⟩] 139)) = w0
  have hWW2 : (((w.alloc (.cells #[.int .i64 rk, .float .f64 ra, .float .f64 rb] 24)).alloc (.cells (El.arr El0) 30)).alloc (.cells #[.string f, .nilIface, .pointer none, .string ⟨#[]⟩] 139)) = w0 := hWW
  rw [hWW2] at hx3 hk3 hr3 hb3 hs3
  clear hWW hWW2
  have k0 := hk3.cell 0 _ rfl
  have k1 := hk3.cell 1 _ rfl
  have k2 := hk3.cell 2 _ rfl
  have hbl := hb3.lt
  have c0 := hb3.cell 0 _ rfl
  have c1 := hb3.cell 1 _ rfl
  have f1 := hb3.free 1
  go_cut [] (fun wc => Ext w wc ∧ w.heap.size + 1 + 1 + 1 ≤ wc.heap.size ∧ Box wc (w.heap.size + 1) (El.arr El0) 30 ∧ ∃ v1, Box wc (w.heap.size + 1 + 1) #[.string f, v1, .pointer none, .string ⟨#[]⟩] 139 ∧ ScoreAt (fun q => q ≠ (w.heap.size + 1 + 1)) wc v1 (rankO rk ra rb))
  case first =>
    by_cases e1 : rk = 1
    case pos =>
      subst e1
      go_wp2_with go_in
      go_meet
      case rel =>
        have hbn : Box ((w0.setCell ⟨w.heap.size + 1 + 1, 1, none⟩ (.iface 66 (.pointer (some ⟨w.heap.size + 1 + 1 + 1, 0, none⟩)))).alloc (.cells #[] 141)) (w.heap.size + 1 + 1 + 1) #[] 141 := Box.at (by simp; omega) _ _
        refine ⟨ext_alloc (ext_set hx3 (by simp; omega) _) _, by simp; omega, (hr3.other (by simp) _).alloc _, _, (hb3.set 1 _).alloc _, ?_⟩
        rw [show rankO 1 ra rb = some (s_linear, jMap []) from rfl]
        exact ⟨(by decide : (s_linear).size ≤ maxLen), scores_linear _⟩
    by_cases e2 : rk = 2
    case pos =>
      subst e2
      go_wp2_with go_in
      go_meet
      case rel =>
        have hbn : Box ((w0.setCell ⟨w.heap.size + 1 + 1, 1, none⟩ (.iface 68 (.pointer (some ⟨w.heap.size + 1 + 1 + 1, 0, none⟩)))).alloc (.cells #[.float .f64 ra] 143)) (w.heap.size + 1 + 1 + 1) #[.float .f64 ra] 143 := Box.at (by simp; omega) _ _
        refine ⟨ext_alloc (ext_set hx3 (by simp; omega) _) _, by simp; omega, (hr3.other (by simp) _).alloc _, _, (hb3.set 1 _).alloc _, ?_⟩
        rw [show rankO 2 ra rb = some (s_log, jMap [(s_scaling_factor, .num ra)]) from rfl]
        exact ⟨(by decide : (s_log).size ≤ maxLen), scores_log _ ra hbn (by omega)⟩
    by_cases e3 : rk = 3
    case pos =>
      subst e3
      go_wp2_with go_in
      go_meet
      case rel =>
        have hbn : Box ((w0.setCell ⟨w.heap.size + 1 + 1, 1, none⟩ (.iface 70 (.pointer (some ⟨w.heap.size + 1 + 1 + 1, 0, none⟩)))).alloc (.cells #[.pointer none] 145)) (w.heap.size + 1 + 1 + 1) #[.pointer none] 145 := Box.at (by simp; omega) _ _
        refine ⟨ext_alloc (ext_set hx3 (by simp; omega) _) _, by simp; omega, (hr3.other (by simp) _).alloc _, _, (hb3.set 1 _).alloc _, ?_⟩
        rw [show rankO 3 ra rb = some (s_saturation, jMap []) from rfl]
        exact ⟨(by decide : (s_saturation).size ≤ maxLen), scores_sat _ hbn (by omega)⟩
    by_cases e4 : rk = 4
    case pos =>
      subst e4
      go_upto_region 10 with fail
      refine wp_region_order (fun w' => w'.cell? ⟨w.heap.size, 1, none⟩ = some (.float .f64 ra)) [0, 2, 3, 5] [0, 2, 3, 1, 4, 5, 6] (by kernel_rfl) (by kernel_rfl) (fun d _ _ _ _ h => by cases d <;> exact h) (by kernel_rfl) ?_
      have hS : (fun (w' : World) => w'.cell? ⟨w.heap.size, 1, none⟩ = some (.float .f64 ra)) _ := hk3.drew.cell 1 _ rfl
      (apply ord_held rfl rfl (by assumption) rfl; (focus ((intro w' hS'); go_simp; (try with_reducible rfl))); (try simp only [Act.put, List.setIfInBounds_toArray, List.set_cons_zero, List.set_cons_succ]))
      (apply ord_held rfl rfl (by assumption) rfl; (focus ((intro w' hS'); go_simp; (try with_reducible rfl))); (try simp only [Act.put, List.setIfInBounds_toArray, List.set_cons_zero, List.set_cons_succ]))
      (apply ord_held rfl rfl (by assumption) rfl; (focus ((intro w' hS'); go_simp; (try with_reducible rfl))); (try simp only [Act.put, List.setIfInBounds_toArray, List.set_cons_zero, List.set_cons_succ]))
      (apply ord_loud rfl rfl rfl; intro K hK; go_simp)
      refine (newSat_any _).mono ?_
      rintro r w1 ⟨hr1, hw1⟩
      rw [show w0.drew.heap.size = w.heap.size + 1 + 1 + 1 from hs3] at hr1
      subst hr1
      have hx1 : Ext w0 w1 := by rw [hw1]; exact ext_alloc (ext_drew (ext_refl _)) _
      have hn1 : Box w1 (w.heap.size + 1 + 1 + 1) #[.pointer none] 145 := by rw [hw1]; exact Box.at (by rw [← hs3]; rfl) _ _
      have hz1 : w.heap.size + 1 + 1 + 1 < w1.heap.size := hn1.lt
      clear hw1
      have hS1 : (fun (w' : World) => w'.cell? ⟨w.heap.size, 1, none⟩ = some (.float .f64 ra)) w1 := (hk3.ext hx1).cell 1 _ rfl
      refine hK _ _ (fun _ => hS1) ?_
      clear hK K
      (try simp only [Act.put, List.setIfInBounds_toArray, List.set_cons_zero, List.set_cons_succ])
      (apply ord_loud rfl rfl rfl; intro K hK; go_simp)
      refine (pivot_any _ _ _ hn1 _).mono ?_
      rintro r w2 ⟨rfl, hw2⟩
      have hx2 : Ext w0 w2 := by rw [hw2]; exact ext_alloc (ext_set hx1 (Nat.le_of_eq hs3) _) _
      have hn2 : Box w2 (w.heap.size + 1 + 1 + 1) #[.pointer (some ⟨w1.heap.size, 0, none⟩)] 145 := by rw [hw2]; exact (hn1.set 0 _).alloc _
      have hp2 : Box w2 w1.heap.size #[.float .f64 ra] 22 := by rw [hw2]; exact Box.at (by simp) _ _
      clear hw2
      have hS2 : (fun (w' : World) => w'.cell? ⟨w.heap.size, 1, none⟩ = some (.float .f64 ra)) w2 := (hk3.ext hx2).cell 1 _ rfl
      refine hK _ _ (fun _ => hS2) ?_
      clear hK K
      (try simp only [Act.put, List.setIfInBounds_toArray, List.set_cons_zero, List.set_cons_succ])
      (apply ord_held rfl rfl (by assumption) rfl; (focus ((intro w' hS'); go_simp; (try with_reducible rfl))); (try simp only [Act.put, List.setIfInBounds_toArray, List.set_cons_zero, List.set_cons_succ]))
      (apply ord_loud rfl rfl rfl; intro K hK; go_simp)
      refine (scoreFn_any _ _ _ _ _ _ (hb3.ext hx2) _ _).mono ?_
      rintro r w3 ⟨rfl, hw3⟩
      have hb4 : Box w3 (w.heap.size + 1 + 1) #[.string f, .iface 70 (.pointer (some ⟨(w.heap.size + 1 + 1 + 1), 0, none⟩)), .pointer none, .string ⟨#[]⟩] 139 := by rw [hw3]; exact (hb3.ext hx2).set 1 _
      have hr4 : Box w3 (w.heap.size + 1) (El.arr El0) 30 := by rw [hw3]; exact (hr3.ext hx2).other (by simp) _
      have hx4 : Ext w w3 := by rw [hw3]; exact ext_set (ext_trans hx3 hx2) (by simp; omega) _
      have hsc4 : ScoreAt (fun q => q ≠ (w.heap.size + 1 + 1)) w3 (.iface 70 (.pointer (some ⟨(w.heap.size + 1 + 1 + 1), 0, none⟩))) (rankO 4 ra rb) := by
        rw [show rankO 4 ra rb = some (s_saturation, jMap [(s_pivot, .num ra)]) from rfl, hw3]
        exact ⟨(by decide : (s_saturation).size ≤ maxLen), Scores.keep (S := fun q => q ≠ (w.heap.size + 1 + 1)) (scores_pivot _ w1.heap.size ra hn2 hp2 (by omega) (by omega)) (fun _ h _ => h) (fun q hq _ => Below.heap_setCell _ _ _ _ hq) (by simp)⟩
      have hk4 : Box w3 w.heap.size #[.int .i64 4, .float .f64 ra, .float .f64 rb] 24 := by rw [hw3]; exact (hk3.ext hx2).other (by simp <;> omega) _
      clear hw3
      have hS3 : (fun (w' : World) => w'.cell? ⟨w.heap.size, 1, none⟩ = some (.float .f64 ra)) w3 := hk4.cell 1 _ rfl
      refine hK _ _ (fun _ => hS3) ?_
      clear hK K
      (try simp only [Act.put, List.setIfInBounds_toArray, List.set_cons_zero, List.set_cons_succ])
      refine ord_end ?_
      have hbl4 := hb4.lt
      go_wp2_with fail
      go_meet
      case rel => exact ⟨hx4, by omega, hr4, _, hb4, hsc4⟩
    by_cases e5 : rk = 5
    case pos =>
      subst e5
      go_wp2_with go_in
      go_meet
      case rel =>
        have hbn : Box ((w0.setCell ⟨w.heap.size + 1 + 1, 1, none⟩ (.iface 73 (.pointer (some ⟨w.heap.size + 1 + 1 + 1, 0, none⟩)))).alloc (.cells #[.float .f64 ra, .float .f64 rb] 147)) (w.heap.size + 1 + 1 + 1) #[.float .f64 ra, .float .f64 rb] 147 := Box.at (by simp; omega) _ _
        refine ⟨ext_alloc (ext_set hx3 (by simp; omega) _) _, by simp; omega, (hr3.other (by simp) _).alloc _, _, (hb3.set 1 _).alloc _, ?_⟩
        rw [show rankO 5 ra rb = some (s_sigmoid, jMap [(s_pivot, .num ra), (s_exponent, .num rb)]) from rfl]
        exact ⟨(by decide : (s_sigmoid).size ≤ maxLen), scores_sigmoid _ ra rb hbn (by omega)⟩
    go_wp2_with go_in
    go_meet
    case rel =>
      refine ⟨hx3, by omega, hr3, _, hb3, ?_⟩
      rw [show rankO rk ra rb = none by unfold rankO; simp [e1, e2, e3, e4, e5]]
      exact rfl
  case rest =>
    obtain ⟨hxs, hss, hb0s, v1, hbs, hsc⟩ := hcut
    have c0 := hbs.cell 0 _ rfl
    go_wp2_with fail
    go_loopw [56] (fun i wr => Ext w wr ∧ (w.heap.size + 1 + 1 + 1) ≤ wr.heap.size ∧ Box wr (w.heap.size + 1) (El.arr El0) 30 ∧ ∃ (j : Nat) (v2 : Option Addr) (v3 : ByteArray), j ≤ n ∧ i = .int .i64 j ∧ Box wr (w.heap.size + 1 + 1) #[.string f, v1, .pointer v2, .string v3] 139 ∧ FN (fun q => q ≠ (w.heap.size + 1 + 1)) wr v2 (lastOf (ps.take j) s_boost) ∧ v3 = fT (lastOf (ps.take j) s_name) ∧ ScoreAt (fun q => q ≠ (w.heap.size + 1 + 1)) wr v1 (rankO rk ra rb)) (fun i _ => n - (intOf i).toNat)
    case atStart => exact ⟨hxs, by omega, hb0s, 0, _, _, Nat.zero_le _, rfl, hbs, rfl, rfl, hsc⟩
    case round =>
      obtain ⟨hx, hsz, hb0, j, v2, v3, hj, rfl, hbq, h2, h3, hsc⟩ := hrel
      have H2 := Lib.hid h2
      have H3 := Lib.hid h3
      have Hsc := Lib.hid hsc
      clear hsc
      clear h2 h3
      have hbql := hbq.lt
      by_cases hlt : j < n
      · obtain ⟨p, hp⟩ := some_of_lt HL.out hlt
        obtain ⟨b, off, ⟨k, x, d, y, ka, kn, kc, ca, m, cc⟩, rfl, hSb, hc7, hT⟩ := hc j p hp
        obtain ⟨z0, z1, z2, z3, z4, z5, z6⟩ := Cells7.ext hx hc7
        have HP := Lib.hid hp
        have hl0 : (w.heap.size + 1) < wr.heap.size := by omega
        have hl1 : ¬ (w.heap.size + 1) = wr.heap.size := by omega
        have hl2 : (w.heap.size + 1 + 1) < wr.heap.size + 1 := by omega
        have hTx := Lib.hid hT.parts.2.1
        have hTd := Lib.hid hT.parts.2.2.1
        have hTy := Lib.hid hT.parts.2.2.2.1
        clear hp
        have hc0 := hbq.cell 0 _ rfl
        have hf0 := hbq.free 0
        have hc1 := hbq.cell 1 _ rfl
        have hf1 := hbq.free 1
        have hc2 := hbq.cell 2 _ rfl
        have hf2 := hbq.free 2
        have hc3 := hbq.cell 3 _ rfl
        have hf3 := hbq.free 3
        cases he0 : p.1.toList == [98, 111, 111, 115, 116]
        · have e0 : seq p.1 s_boost = false := by rw [seq, show s_boost.toList = [98, 111, 111, 115, 116] by rw [Lib.toList_data]]; exact he0
          cases he1 : p.1.toList == [95, 110, 97, 109, 101]
          · have e1 : seq p.1 s_name = false := by rw [seq, show s_name.toList = [95, 110, 97, 109, 101] by rw [Lib.toList_data]]; exact he1
            go_wp2_with go_in
            go_roundw
            case rel =>
              have hy := ext_alloc (ext_refl wr) (.cells #[.string p.1, .int .i64 k, .string x, .float .f64 d, .bool y, .slice ka kn kc, .slice ca m cc] 62)
              exact ⟨ext_trans hx hy, Nat.le_trans hsz hy.sz, hb0.ext hy, j + 1, v2, v3, by omega, by go_num, hbq.ext hy, by rw [last_miss HP.out e0]; exact FN.ext hy H2.out, by rw [last_miss HP.out e1]; exact H3.out, ScoreAt.ext Hsc.out hy⟩
            case measure => simp [intOf]; omega
          · have e1 : seq p.1 s_name = true := by rw [seq, show s_name.toList = [95, 110, 97, 109, 101] by rw [Lib.toList_data]]; exact he1
            go_wp2_with go_in
            go_roundw
            case rel =>
              have hk : Keeps (fun q => q ≠ (w.heap.size + 1 + 1)) wr ((wr.setCell ⟨(w.heap.size + 1 + 1), 3, none⟩ (.string x)).alloc (.cells #[.string p.1, .int .i64 k, .string x, .float .f64 d, .bool y, .slice ka kn kc, .slice ca m cc] 62)) := fun q hq hlt => (Below.heap_alloc _ _ _ (by simpa using hlt)).trans (Below.heap_setCell _ _ _ _ (by simp; omega))
              exact ⟨ext_alloc (ext_set hx (by simp <;> omega) _) _, by simp; omega, (hb0.other (by simp <;> omega) _).alloc _, j + 1, v2, x, by omega, by go_num, (hbq.set 3 _).alloc _, by rw [last_other HP.out e1 (seq_false.2 (by decide))]; exact FN.keep (fun _ h _ => h) hk H2.out, by rw [last_hit HP.out e1]; exact hTx.out, ScoreAt.keep Hsc.out (fun _ h _ => h) hk (by simp <;> omega)⟩
            case measure => simp [intOf]; omega
        · have e0 : seq p.1 s_boost = true := by rw [seq, show s_boost.toList = [98, 111, 111, 115, 116] by rw [Lib.toList_data]]; exact he0
          go_wp2_with go_in
          go_roundw
          case rel =>
            have hk : Keeps (fun q => q ≠ (w.heap.size + 1 + 1)) wr (((wr.setCell ⟨(w.heap.size + 1 + 1), 2, none⟩ (.pointer (some ⟨wr.heap.size + 1, 0, none⟩))).alloc (.cells #[.string p.1, .int .i64 k, .string x, .float .f64 d, .bool y, .slice ka kn kc, .slice ca m cc] 62)).alloc (.cells #[.float .f64 d] 22)) := fun q hq hlt => (Below.heap_alloc _ _ _ (by simp; omega)).trans ((Below.heap_alloc _ _ _ (by simpa using hlt)).trans (Below.heap_setCell _ _ _ _ (by simp; omega)))
            have hnew : (((wr.setCell ⟨(w.heap.size + 1 + 1), 2, none⟩ (.pointer (some ⟨wr.heap.size + 1, 0, none⟩))).alloc (.cells #[.string p.1, .int .i64 k, .string x, .float .f64 d, .bool y, .slice ka kn kc, .slice ca m cc] 62)).alloc (.cells #[.float .f64 d] 22)).cell? ⟨wr.heap.size + 1, 0, none⟩ = some (.float .f64 d) := (Box.at (by simp) _ _).cell 0 _ rfl
            exact ⟨ext_alloc (ext_alloc (ext_set hx (by simp <;> omega) _) _) _, by simp; omega, ((hb0.other (by simp <;> omega) _).alloc _).alloc _, j + 1, some ⟨wr.heap.size + 1, 0, none⟩, v3, by omega, by go_num, ((hbq.set 2 _).alloc _).alloc _, by rw [last_hit HP.out e0]; exact ⟨wr.heap.size + 1, rfl, by omega, by rw [← hTd.out]; exact hnew⟩, by rw [last_other HP.out e0 (seq_false.2 (by decide))]; exact H3.out, ScoreAt.keep Hsc.out (fun _ h _ => h) hk (by simp <;> omega)⟩
          case measure => simp [intOf]; omega
      · have hjn : j = n := by omega
        have hfull : ps.take j = ps := List.take_of_length_le (by have := HL.out; omega)
        rw [hfull] at H2 H3
        have hS := rankFeature_src (S := fun q => q ≠ (w.heap.size + 1 + 1)) wr (w.heap.size + 1 + 1) f v1 _ Hsc.out v2 _ H2.out v3 _ H3.out hbq
        go_wp2_with (first
          | (go_at_call 50; refine hS.mono ?_; rintro r w2 ⟨v, rfl, hJ, hx2⟩)
          | (go_at_call 49; refine (told_any v _ _ hJ).mono ?_; rintro r w3 ⟨e2, rfl, hT3, hx3⟩; simp only [El.val]
             have hb := (hb0.ext hx2).ext hx3; obtain ⟨o0, o1, o2, o3, o4, o5⟩ := hb.six; have f0 := hb.free 0; have f1 := hb.free 1; have f2 := hb.free 2; have f3 := hb.free 3; have f4 := hb.free 4; have f5 := hb.free 5))
        have hx4 := ext_trans hx (ext_trans hx2 hx3)
        have hs2 := hx2.sz
        refine post_tree2 rfl rfl (hb.sto e2) rfl ⟨e2, rfl, ?_, ext_sto6 hx4 (by omega) _ _ _ _ _ _⟩
        have hfin := TreeAt.keep (S := fun b => w2.heap.size ≤ b) (S' := fun b => w.heap.size + 1 ≤ b) (fun b hb _ => by omega) (keeps_sto (b := (w.heap.size + 1)) w3 (by omega) e2) _ hT3
        simp only [List.append_assoc, List.cons_append, List.nil_append] at hfin ⊢
        exact hfin
end Go.Proofs.Ytdjojnlejkljdaa

namespace Go.Proofs.Ytdjojnlejkljdaa
open Go.RowKit

abbrev sRankFeature : ByteArray := ⟨#[82, 97, 110, 107, 70, 101, 97, 116, 117, 114, 101]⟩
abbrev tRankFeature : ByteArray := ⟨#[98, 111, 111, 115, 116, 32, 110, 44, 95, 110, 97, 109, 101, 32, 116]⟩
abbrev rRankFeature : List (ByteArray × ByteArray) := [(s_boost, ⟨#[110]⟩), (s_name, ⟨#[116]⟩)]
set_option maxHeartbeats 2000000 in
theorem table_rankFeature (w : World) : Calls Try.prog 138 #[.string sRankFeature] w fun r w' => r = .returned (.string tRankFeature) ∧ w' = w := by
  go_enter Try.func138, Try.ntmps138
  go_wp2
  go_ret
  exact ⟨rfl, rfl⟩
set_option maxRecDepth 20000 in
theorem rows_rankFeature (w : World) : Calls Try.prog 131 #[.string sRankFeature] w fun r w' => ∃ v, r = .returned v ∧ Own2 w' w.heap.size v rRankFeature ∧ Ext w w' :=
  rows_any sRankFeature tRankFeature w table_rankFeature 5 (by decide) (by decide)
def rankL (k : Int) (a b : Nat) : List (ByteArray × T) := if k = 1 then [(s_linear, mapT [])] else if k = 2 then [(s_log, mapT [(s_scaling_factor, numT a)])] else if k = 3 then [(s_saturation, mapT [])] else if k = 4 then [(s_saturation, mapT [(s_pivot, numT a)])] else if k = 5 then [(s_sigmoid, mapT [(s_pivot, numT a), (s_exponent, numT b)])] else []
theorem tree_loose {S S' : Nat → Prop} {w : World} {e : El} {t : T} (h : TreeAt S w e t) (hs : scalarT t = true) : TreeAt S' w e t := by
  obtain ⟨k, x, d, y, ks, xs⟩ := t
  have h2 : ks = [] ∧ xs = [] := by
    unfold scalarT scalarF at hs
    simp only [T.keys, T.kids] at hs
    cases ks with
    | cons _ _ => simp at hs
    | nil =>
      cases xs with
      | cons _ _ => simp at hs
      | nil => exact ⟨rfl, rfl⟩
  obtain ⟨rfl, rfl⟩ := h2
  obtain ⟨h1, h2, h3, h4, h5, h6⟩ := h.parts
  exact TreeAt.of h1 h2 h3 h4 ⟨h5.1, h5.2.1, h5.2.2.1, fun _ _ hh => by simp [T.keys] at hh⟩ (KidsAt.of h6.1 h6.2.1 h6.2.2.1 fun _ _ hh => by simp [T.kids] at hh)
theorem pk_loose {S S' : Nat → Prop} {w : World} {es : List (ByteArray × El)} {ps : List (ByteArray × T)} (h : Pk S w es ps) (hs : ∀ p ∈ ps, scalarT p.2 = true) : Pk S' w es ps :=
  ⟨h.1, fun i e p he hp => ⟨(h.2 i e p he hp).1, tree_loose (h.2 i e p he hp).2 (hs p (List.mem_of_getElem? hp))⟩⟩
theorem params_plain {rs : List (ByteArray × ByteArray)} {ps : List (ByteArray × T)} (hF : FitsP rs ps) (rs2 : List (ByteArray × ByteArray)) : ∀ p ∈ paramsL rs2 ps, scalarT p.2 = true := fun p hp => by
  unfold paramsL at hp
  obtain ⟨r, -, hr⟩ := List.mem_filterMap.1 hp
  unfold param at hr
  split at hr
  · cases hl : lastOf ps r.1 with
    | none => rw [hl] at hr; cases hr
    | some t =>
      rw [hl] at hr
      cases hr
      exact (fits_last hF hl).1
  · cases hr
/-- Names with trees to which one more is appended. -/
theorem pk_add {w w' : World} {base g cap n : Nat} {v : Value} {es : List (ByteArray × El)} {ps : List (ByteArray × T)} {k : ByteArray} {e : El} {t : T} (hP : Pk (fun b => base ≤ b ∧ v.ownBlock ≠ some b) w es ps) (ht : TreeAt (fun b => base ≤ b ∧ v.ownBlock ≠ some b) w e t)
    (hg : w.grownBy w' v.ownBlock) (hl : Lies w v g) : Pk (fun b => base ≤ b ∧ (Value.slice (some ⟨g, 0, none⟩) n cap).ownBlock ≠ some b) w' (es ++ [(k, e)]) (ps ++ [(k, t)]) := by
  have hk : Keeps (fun b => base ≤ b ∧ v.ownBlock ≠ some b) w w' := keeps_grown hg (fun b hb e => hb.2 e.symm)
  have hS : ∀ b, (base ≤ b ∧ v.ownBlock ≠ some b) → b < w.heap.size → base ≤ b ∧ (Value.slice (some ⟨g, 0, none⟩) n cap).ownBlock ≠ some b := fun b hb hlt => by
    refine ⟨hb.1, fun e => ?_⟩
    simp only [Value.ownBlock, Option.some.injEq] at e
    rcases hl with hl | hl
    · exact hb.2 (by rw [hl, e])
    · omega
  exact Pk.append (hP.keep hS hk) (Pk.one (TreeAt.keep hS hk _ ht))
set_option maxRecDepth 20000 in
set_option maxHeartbeats 8000000 in
theorem rankS_any {S : Nat → Prop} (f : ByteArray) (rk : Int) (ra rb : Nat) (a : Option Addr) (n c : Nat) (ps : List (ByteArray × T)) (w : World) (h : PairsAt S w a n c ps) (hF : FitsP rRankFeature ps) :
    Calls Try.prog 15 #[.string f, .agg #[.int .i64 rk, .float .f64 ra, .float .f64 rb], .slice a n c] w fun r w' => ∃ g : El, r = .returned g.val ∧ TreeAt (fun b => w.heap.size ≤ b) w' g (mapT [(s_rank_feature, mapT (paramsL rRankFeature ps ++ [(s_field, textT f)] ++ rankL rk ra rb))]) ∧ Ext w w' := by
  have HSC := Lib.hid (params_plain hF rRankFeature)
  have HP := Lib.hid (fun (w' : World) (x : Ext w w') => params_any sRankFeature tRankFeature a n c ps w' table_rankFeature 5 (by decide) (by decide) rRankFeature (by decide) (by decide) (h.ext x))
  have HPL := Lib.hid (params_len rRankFeature ps)
  clear h hF
  go_enter Try.func15, Try.ntmps15
  go_upto_region 1 with fail
  have hbR : Box ((w.alloc (.cells #[.int .i64 rk, .float .f64 ra, .float .f64 rb] 24)).alloc (.cells (El.arr El0) 30)) w.heap.size #[.int .i64 rk, .float .f64 ra, .float .f64 rb] 24 := (Box.at rfl _ _).alloc _
  have hb0 : Box ((w.alloc (.cells #[.int .i64 rk, .float .f64 ra, .float .f64 rb] 24)).alloc (.cells (El.arr El0) 30)) (w.heap.size + 1) (El.arr El0) 30 := Box.at (by simp) _ _
  have hx0 : Ext w ((w.alloc (.cells #[.int .i64 rk, .float .f64 ra, .float .f64 rb] 24)).alloc (.cells (El.arr El0) 30)) := ext_alloc (ext_alloc (ext_refl _) _) _
  have hs0 : ((w.alloc (.cells #[.int .i64 rk, .float .f64 ra, .float .f64 rb] 24)).alloc (.cells (El.arr El0) 30)).heap.size = w.heap.size + 1 + 1 := by simp
  generalize hWW : ((w.alloc (.cells #[.int .i64 rk, .float .f64 ra, .float .f64 rb] 24)).alloc (.cells #[.int .i64 0, .string ⟨#[]⟩, .float .f64 0, .bool false, .slice none 0 0, .slice none 0 0] 30)) = w0
  have hWW2 : ((w.alloc (.cells #[.int .i64 rk, .float .f64 ra, .float .f64 rb] 24)).alloc (.cells (El.arr El0) 30)) = w0 := hWW
  rw [hWW2] at hbR hb0 hx0 hs0
  clear hWW hWW2
  have tokA := trivial
  go_upto_block 0 with (first
    | (go_at_call 55; refine (HP.out w0 hx0).mono ?_; rintro r w1 ⟨pv, es0, rfl, hO0, hPk0, hx1⟩
       rw [hs0] at hO0
       have hpvb : ∀ q, pv.ownBlock = some q → w.heap.size + 1 + 1 ≤ q ∧ q < w1.heap.size := fun q hq => World.ownsRow.lt hO0 q hq
       have hPf : Pk (fun b => w.heap.size + 1 + 1 ≤ b ∧ pv.ownBlock ≠ some b) w1 es0 (paramsL rRankFeature ps) := pk_loose hPk0 HSC.out
       have hl0 : es0.length ≤ 2 := by have h1 := hPk0.1; have h2 := HPL.out; simp only [List.length_cons, List.length_nil] at h2; omega
       have HPF := Lib.hid hPf
       have HO0 := Lib.hid hO0
       clear hPf hPk0 hO0)
    | (go_at_call 56; refine (text_any f _).mono ?_; rintro r w2 ⟨gt, rfl, hgt, hx2⟩; simp only [El.val]
       have x3 : Ext w1 (w2.alloc (.cells #[.string s_field, .int .i64 gt.k, .string gt.x, .float .f64 gt.d, .bool gt.y, .slice gt.ka gt.n gt.kc, .slice gt.ca gt.m gt.cc] 86)) := ext_alloc hx2 _
       have hbp : Box (w2.alloc (.cells #[.string s_field, .int .i64 gt.k, .string gt.x, .float .f64 gt.d, .bool gt.y, .slice gt.ka gt.n gt.kc, .slice gt.ca gt.m gt.cc] 86)) w2.heap.size #[.string s_field, .int .i64 gt.k, .string gt.x, .float .f64 gt.d, .bool gt.y, .slice gt.ka gt.n gt.kc, .slice gt.ca gt.m gt.cc] 86 := Box.at rfl _ _
       have hgt3 := (hgt (fun b => w.heap.size + 1 + 1 ≤ b ∧ pv.ownBlock ≠ some b)).ext (ext_alloc (ext_refl w2) (.cells #[.string s_field, .int .i64 gt.k, .string gt.x, .float .f64 gt.d, .bool gt.y, .slice gt.ka gt.n gt.kc, .slice gt.ca gt.m gt.cc] 86))
       have hs2 := hx2.sz
       have hs1 := hx1.sz)
    | (at_builtin; have _t := tokA; clear _t tokA; refine list_append_pairs _ rfl _ _ rfl (w.heap.size + 1 + 1) _ es0 rfl (HO0.out.ext x3) w2.heap.size 0 1 [(s_field, gt)] (by simp) rfl (fun i p hp => by
         cases i with
         | zero => simp at hp; subst hp; exact ⟨hbp.cell 0 _ rfl, hbp.cell 1 _ rfl, hbp.cell 2 _ rfl, hbp.cell 3 _ rfl, hbp.cell 4 _ rfl, hbp.cell 5 _ rfl, hbp.cell 6 _ rfl⟩
         | succ i => simp at hp) (by simp; omega) (Nat.le_trans (by omega) x3.sz) ?_; intro g1 cap1 w3 hown hgrow hlies hglt
       have hPk3 := Lib.hid (pk_add (g := g1) (cap := cap1) (n := es0.length + 1) (k := s_field) (HPF.out.ext x3) hgt3 hgrow hlies)
       have HO3 := Lib.hid hown
       have hx3w : Ext w w3 := ext_grown (ext_trans (ext_trans hx0 hx1) x3) hgrow (fun k hk => by have := hpvb k hk; omega)
       have hbR3 := ((hbR.ext hx1).ext x3).grown hgrow (fun e => by have := hpvb _ e.symm; omega)
       have hb03 := ((hb0.ext hx1).ext x3).grown hgrow (fun e => by have := hpvb _ e.symm; omega)
       have hsz3 : w.heap.size + 1 + 1 ≤ w3.heap.size := Nat.le_trans (Nat.le_trans (by omega) x3.sz) hgrow.size
       clear hown hgrow hlies hgt3 hgt hbp
       have k0 := hbR3.cell 0 _ rfl
       have k1 := hbR3.cell 1 _ rfl
       have k2 := hbR3.cell 2 _ rfl)
    | fail)
  have hgv : (Value.slice (some ⟨g1, 0, none⟩) (es0.length + 1) cap1).ownBlock = some g1 := rfl
  have hg1 : w.heap.size + 1 + 1 ≤ g1 ∧ g1 < w3.heap.size := World.ownsRow.lt HO3.out g1 hgv
  have hqb : ∀ q, (Value.slice (some ⟨g1, 0, none⟩) (es0.length + 1) cap1).ownBlock = some q → w.heap.size + 1 + 1 ≤ q ∧ q < w3.heap.size := fun q hq => World.ownsRow.lt HO3.out q hq
  go_cut [7] (fun v wc => Ext w wc ∧ w.heap.size + 1 + 1 ≤ wc.heap.size ∧ Box wc (w.heap.size + 1) (El.arr El0) 30 ∧ ∃ (es : List (ByteArray × El)) (qv : Value), qv = v ∧ es.length ≤ 4 ∧ OwnPairs wc (w.heap.size + 1 + 1) qv es ∧ Pk (fun b => w.heap.size + 1 + 1 ≤ b ∧ qv.ownBlock ≠ some b) wc es (paramsL rRankFeature ps ++ [(s_field, textT f)] ++ rankL rk ra rb))
  case first =>
    by_cases e1 : rk = 1
    case pos =>
      subst e1
      have tokB := trivial
      go_wp2_with (first
        | (go_at_call 52; refine (map_any (S := fun _ => False) none 0 0 [] _ ⟨rfl, Nat.le_refl _, Nat.zero_le _, fun i p hp => by simp at hp⟩ (by decide)).mono ?_; rintro r w6 ⟨g6, rfl, hT6, hx6⟩; simp only [El.val]
           have hT6 := hT6.to (S' := fun b => w3.heap.size ≤ b) (fun q hq _ => by rcases hq with hq | hq <;> first | exact hq.1.elim | exact hq.1 | omega)
           have hq6 : ∀ q, w3.heap.size ≤ q → w3.heap.size ≤ q := fun q hq => hq
           have x7 : Ext w3 (w6.alloc (.cells #[.string s_linear, .int .i64 g6.k, .string g6.x, .float .f64 g6.d, .bool g6.y, .slice g6.ka g6.n g6.kc, .slice g6.ca g6.m g6.cc] 86)) := ext_alloc (hx6) _
           have hbq : Box (w6.alloc (.cells #[.string s_linear, .int .i64 g6.k, .string g6.x, .float .f64 g6.d, .bool g6.y, .slice g6.ka g6.n g6.kc, .slice g6.ca g6.m g6.cc] 86)) w6.heap.size #[.string s_linear, .int .i64 g6.k, .string g6.x, .float .f64 g6.d, .bool g6.y, .slice g6.ka g6.n g6.kc, .slice g6.ca g6.m g6.cc] 86 := Box.at rfl _ _
           have hT7 := (hT6.to (S' := fun b => w.heap.size + 1 + 1 ≤ b ∧ (Value.slice (some ⟨g1, 0, none⟩) (es0.length + 1) cap1).ownBlock ≠ some b) (fun q hq _ => ⟨by have := hq6 q hq; omega, fun e => by have := hq6 q hq; have := hqb q e; omega⟩)).ext (ext_alloc (ext_refl w6) (.cells #[.string s_linear, .int .i64 g6.k, .string g6.x, .float .f64 g6.d, .bool g6.y, .slice g6.ka g6.n g6.kc, .slice g6.ca g6.m g6.cc] 86)))
        | (at_builtin; have _t := tokB; clear _t tokB; refine list_append_pairs _ rfl _ _ rfl (w.heap.size + 1 + 1) _ (es0 ++ [(s_field, gt)]) rfl (HO3.out.ext x7) w6.heap.size 0 1 [(s_linear, g6)] (by simp) rfl (fun i p hp => by
             cases i with
             | zero => simp at hp; subst hp; exact ⟨hbq.cell 0 _ rfl, hbq.cell 1 _ rfl, hbq.cell 2 _ rfl, hbq.cell 3 _ rfl, hbq.cell 4 _ rfl, hbq.cell 5 _ rfl, hbq.cell 6 _ rfl⟩
             | succ i => simp at hp) (by simp; omega) (Nat.le_trans (by omega) x7.sz) ?_; intro g8 cap8 w8 hown hgrow hlies hglt)
        | fail)
      have hPk8 := pk_add (g := g8) (cap := cap8) (n := (es0 ++ [(s_field, gt)]).length + 1) (k := s_linear) (hPk3.out.ext x7) hT7 hgrow hlies
      have hx8 : Ext w w8 := ext_grown (ext_trans hx3w x7) hgrow (fun k hk => by have := (World.ownsRow.lt HO3.out k hk).1; omega)
      have hb8 := (hb03.ext x7).grown hgrow (fun e => by have := hqb _ e.symm; omega)
      have hsz8 : w.heap.size + 1 + 1 ≤ w8.heap.size := Nat.le_trans (Nat.le_trans (by omega) x7.sz) hgrow.size
      go_meet
      case rel =>
        refine ⟨hx8, hsz8, hb8, (es0 ++ [(s_field, gt)]) ++ [(s_linear, g6)], _, rfl, by simp; omega, by simpa using hown, ?_⟩
        rw [show rankL 1 ra rb = [(s_linear, mapT [])] from rfl]
        simpa using hPk8
    by_cases e2 : rk = 2
    case pos =>
      subst e2
      have tokB := trivial
      go_wp2_with (first
        | (go_at_call 9; refine (number_any ra _).mono ?_; rintro r w5 ⟨g5, rfl, hg5, hx5⟩; simp only [El.val]
           have hM5 := map_any (S := fun b => w3.heap.size ≤ b) (some ⟨w5.heap.size, 0, none⟩) 1 1 [(s_scaling_factor, numT ra)] (w5.alloc (.cells #[.string s_scaling_factor, .int .i64 g5.k, .string g5.x, .float .f64 g5.d, .bool g5.y, .slice g5.ka g5.n g5.kc, .slice g5.ca g5.m g5.cc] 86)) (pairs_one (Box.at rfl _ _) hx5.sz ((hg5 _).ext (ext_alloc (ext_refl w5) _))) (by decide)
           have hx5a : Ext w3 (w5.alloc (.cells #[.string s_scaling_factor, .int .i64 g5.k, .string g5.x, .float .f64 g5.d, .bool g5.y, .slice g5.ka g5.n g5.kc, .slice g5.ca g5.m g5.cc] 86)) := ext_alloc hx5 _
           have hs5 := hx5a.sz)
        | (go_at_call 52; refine (hM5).mono ?_; rintro r w6 ⟨g6, rfl, hT6, hx6⟩; simp only [El.val]
           have hT6 := hT6.to (S' := fun b => w3.heap.size ≤ b) (fun q hq _ => by rcases hq with hq | hq <;> first | exact hq.1.elim | exact hq.1 | omega)
           have hq6 : ∀ q, w3.heap.size ≤ q → w3.heap.size ≤ q := fun q hq => hq
           have x7 : Ext w3 (w6.alloc (.cells #[.string s_log, .int .i64 g6.k, .string g6.x, .float .f64 g6.d, .bool g6.y, .slice g6.ka g6.n g6.kc, .slice g6.ca g6.m g6.cc] 86)) := ext_alloc (ext_trans hx5a hx6) _
           have hbq : Box (w6.alloc (.cells #[.string s_log, .int .i64 g6.k, .string g6.x, .float .f64 g6.d, .bool g6.y, .slice g6.ka g6.n g6.kc, .slice g6.ca g6.m g6.cc] 86)) w6.heap.size #[.string s_log, .int .i64 g6.k, .string g6.x, .float .f64 g6.d, .bool g6.y, .slice g6.ka g6.n g6.kc, .slice g6.ca g6.m g6.cc] 86 := Box.at rfl _ _
           have hT7 := (hT6.to (S' := fun b => w.heap.size + 1 + 1 ≤ b ∧ (Value.slice (some ⟨g1, 0, none⟩) (es0.length + 1) cap1).ownBlock ≠ some b) (fun q hq _ => ⟨by have := hq6 q hq; omega, fun e => by have := hq6 q hq; have := hqb q e; omega⟩)).ext (ext_alloc (ext_refl w6) (.cells #[.string s_log, .int .i64 g6.k, .string g6.x, .float .f64 g6.d, .bool g6.y, .slice g6.ka g6.n g6.kc, .slice g6.ca g6.m g6.cc] 86)))
        | (at_builtin; have _t := tokB; clear _t tokB; refine list_append_pairs _ rfl _ _ rfl (w.heap.size + 1 + 1) _ (es0 ++ [(s_field, gt)]) rfl (HO3.out.ext x7) w6.heap.size 0 1 [(s_log, g6)] (by simp) rfl (fun i p hp => by
             cases i with
             | zero => simp at hp; subst hp; exact ⟨hbq.cell 0 _ rfl, hbq.cell 1 _ rfl, hbq.cell 2 _ rfl, hbq.cell 3 _ rfl, hbq.cell 4 _ rfl, hbq.cell 5 _ rfl, hbq.cell 6 _ rfl⟩
             | succ i => simp at hp) (by simp; omega) (Nat.le_trans (by omega) x7.sz) ?_; intro g8 cap8 w8 hown hgrow hlies hglt)
        | fail)
      have hPk8 := pk_add (g := g8) (cap := cap8) (n := (es0 ++ [(s_field, gt)]).length + 1) (k := s_log) (hPk3.out.ext x7) hT7 hgrow hlies
      have hx8 : Ext w w8 := ext_grown (ext_trans hx3w x7) hgrow (fun k hk => by have := (World.ownsRow.lt HO3.out k hk).1; omega)
      have hb8 := (hb03.ext x7).grown hgrow (fun e => by have := hqb _ e.symm; omega)
      have hsz8 : w.heap.size + 1 + 1 ≤ w8.heap.size := Nat.le_trans (Nat.le_trans (by omega) x7.sz) hgrow.size
      go_meet
      case rel =>
        refine ⟨hx8, hsz8, hb8, (es0 ++ [(s_field, gt)]) ++ [(s_log, g6)], _, rfl, by simp; omega, by simpa using hown, ?_⟩
        rw [show rankL 2 ra rb = [(s_log, mapT [(s_scaling_factor, numT ra)])] from rfl]
        simpa using hPk8
    by_cases e3 : rk = 3
    case pos =>
      subst e3
      have tokB := trivial
      go_wp2_with (first
        | (go_at_call 52; refine (map_any (S := fun _ => False) none 0 0 [] _ ⟨rfl, Nat.le_refl _, Nat.zero_le _, fun i p hp => by simp at hp⟩ (by decide)).mono ?_; rintro r w6 ⟨g6, rfl, hT6, hx6⟩; simp only [El.val]
           have hT6 := hT6.to (S' := fun b => w3.heap.size ≤ b) (fun q hq _ => by rcases hq with hq | hq <;> first | exact hq.1.elim | exact hq.1 | omega)
           have hq6 : ∀ q, w3.heap.size ≤ q → w3.heap.size ≤ q := fun q hq => hq
           have x7 : Ext w3 (w6.alloc (.cells #[.string s_saturation, .int .i64 g6.k, .string g6.x, .float .f64 g6.d, .bool g6.y, .slice g6.ka g6.n g6.kc, .slice g6.ca g6.m g6.cc] 86)) := ext_alloc (hx6) _
           have hbq : Box (w6.alloc (.cells #[.string s_saturation, .int .i64 g6.k, .string g6.x, .float .f64 g6.d, .bool g6.y, .slice g6.ka g6.n g6.kc, .slice g6.ca g6.m g6.cc] 86)) w6.heap.size #[.string s_saturation, .int .i64 g6.k, .string g6.x, .float .f64 g6.d, .bool g6.y, .slice g6.ka g6.n g6.kc, .slice g6.ca g6.m g6.cc] 86 := Box.at rfl _ _
           have hT7 := (hT6.to (S' := fun b => w.heap.size + 1 + 1 ≤ b ∧ (Value.slice (some ⟨g1, 0, none⟩) (es0.length + 1) cap1).ownBlock ≠ some b) (fun q hq _ => ⟨by have := hq6 q hq; omega, fun e => by have := hq6 q hq; have := hqb q e; omega⟩)).ext (ext_alloc (ext_refl w6) (.cells #[.string s_saturation, .int .i64 g6.k, .string g6.x, .float .f64 g6.d, .bool g6.y, .slice g6.ka g6.n g6.kc, .slice g6.ca g6.m g6.cc] 86)))
        | (at_builtin; have _t := tokB; clear _t tokB; refine list_append_pairs _ rfl _ _ rfl (w.heap.size + 1 + 1) _ (es0 ++ [(s_field, gt)]) rfl (HO3.out.ext x7) w6.heap.size 0 1 [(s_saturation, g6)] (by simp) rfl (fun i p hp => by
             cases i with
             | zero => simp at hp; subst hp; exact ⟨hbq.cell 0 _ rfl, hbq.cell 1 _ rfl, hbq.cell 2 _ rfl, hbq.cell 3 _ rfl, hbq.cell 4 _ rfl, hbq.cell 5 _ rfl, hbq.cell 6 _ rfl⟩
             | succ i => simp at hp) (by simp; omega) (Nat.le_trans (by omega) x7.sz) ?_; intro g8 cap8 w8 hown hgrow hlies hglt)
        | fail)
      have hPk8 := pk_add (g := g8) (cap := cap8) (n := (es0 ++ [(s_field, gt)]).length + 1) (k := s_saturation) (hPk3.out.ext x7) hT7 hgrow hlies
      have hx8 : Ext w w8 := ext_grown (ext_trans hx3w x7) hgrow (fun k hk => by have := (World.ownsRow.lt HO3.out k hk).1; omega)
      have hb8 := (hb03.ext x7).grown hgrow (fun e => by have := hqb _ e.symm; omega)
      have hsz8 : w.heap.size + 1 + 1 ≤ w8.heap.size := Nat.le_trans (Nat.le_trans (by omega) x7.sz) hgrow.size
      go_meet
      case rel =>
        refine ⟨hx8, hsz8, hb8, (es0 ++ [(s_field, gt)]) ++ [(s_saturation, g6)], _, rfl, by simp; omega, by simpa using hown, ?_⟩
        rw [show rankL 3 ra rb = [(s_saturation, mapT [])] from rfl]
        simpa using hPk8
    by_cases e4 : rk = 4
    case pos =>
      subst e4
      have tokB := trivial
      go_wp2_with (first
        | (go_at_call 9; refine (number_any ra _).mono ?_; rintro r w5 ⟨g5, rfl, hg5, hx5⟩; simp only [El.val]
           have hM5 := map_any (S := fun b => w3.heap.size ≤ b) (some ⟨w5.heap.size, 0, none⟩) 1 1 [(s_pivot, numT ra)] (w5.alloc (.cells #[.string s_pivot, .int .i64 g5.k, .string g5.x, .float .f64 g5.d, .bool g5.y, .slice g5.ka g5.n g5.kc, .slice g5.ca g5.m g5.cc] 86)) (pairs_one (Box.at rfl _ _) hx5.sz ((hg5 _).ext (ext_alloc (ext_refl w5) _))) (by decide)
           have hx5a : Ext w3 (w5.alloc (.cells #[.string s_pivot, .int .i64 g5.k, .string g5.x, .float .f64 g5.d, .bool g5.y, .slice g5.ka g5.n g5.kc, .slice g5.ca g5.m g5.cc] 86)) := ext_alloc hx5 _
           have hs5 := hx5a.sz)
        | (go_at_call 52; refine (hM5).mono ?_; rintro r w6 ⟨g6, rfl, hT6, hx6⟩; simp only [El.val]
           have hT6 := hT6.to (S' := fun b => w3.heap.size ≤ b) (fun q hq _ => by rcases hq with hq | hq <;> first | exact hq.1.elim | exact hq.1 | omega)
           have hq6 : ∀ q, w3.heap.size ≤ q → w3.heap.size ≤ q := fun q hq => hq
           have x7 : Ext w3 (w6.alloc (.cells #[.string s_saturation, .int .i64 g6.k, .string g6.x, .float .f64 g6.d, .bool g6.y, .slice g6.ka g6.n g6.kc, .slice g6.ca g6.m g6.cc] 86)) := ext_alloc (ext_trans hx5a hx6) _
           have hbq : Box (w6.alloc (.cells #[.string s_saturation, .int .i64 g6.k, .string g6.x, .float .f64 g6.d, .bool g6.y, .slice g6.ka g6.n g6.kc, .slice g6.ca g6.m g6.cc] 86)) w6.heap.size #[.string s_saturation, .int .i64 g6.k, .string g6.x, .float .f64 g6.d, .bool g6.y, .slice g6.ka g6.n g6.kc, .slice g6.ca g6.m g6.cc] 86 := Box.at rfl _ _
           have hT7 := (hT6.to (S' := fun b => w.heap.size + 1 + 1 ≤ b ∧ (Value.slice (some ⟨g1, 0, none⟩) (es0.length + 1) cap1).ownBlock ≠ some b) (fun q hq _ => ⟨by have := hq6 q hq; omega, fun e => by have := hq6 q hq; have := hqb q e; omega⟩)).ext (ext_alloc (ext_refl w6) (.cells #[.string s_saturation, .int .i64 g6.k, .string g6.x, .float .f64 g6.d, .bool g6.y, .slice g6.ka g6.n g6.kc, .slice g6.ca g6.m g6.cc] 86)))
        | (at_builtin; have _t := tokB; clear _t tokB; refine list_append_pairs _ rfl _ _ rfl (w.heap.size + 1 + 1) _ (es0 ++ [(s_field, gt)]) rfl (HO3.out.ext x7) w6.heap.size 0 1 [(s_saturation, g6)] (by simp) rfl (fun i p hp => by
             cases i with
             | zero => simp at hp; subst hp; exact ⟨hbq.cell 0 _ rfl, hbq.cell 1 _ rfl, hbq.cell 2 _ rfl, hbq.cell 3 _ rfl, hbq.cell 4 _ rfl, hbq.cell 5 _ rfl, hbq.cell 6 _ rfl⟩
             | succ i => simp at hp) (by simp; omega) (Nat.le_trans (by omega) x7.sz) ?_; intro g8 cap8 w8 hown hgrow hlies hglt)
        | fail)
      have hPk8 := pk_add (g := g8) (cap := cap8) (n := (es0 ++ [(s_field, gt)]).length + 1) (k := s_saturation) (hPk3.out.ext x7) hT7 hgrow hlies
      have hx8 : Ext w w8 := ext_grown (ext_trans hx3w x7) hgrow (fun k hk => by have := (World.ownsRow.lt HO3.out k hk).1; omega)
      have hb8 := (hb03.ext x7).grown hgrow (fun e => by have := hqb _ e.symm; omega)
      have hsz8 : w.heap.size + 1 + 1 ≤ w8.heap.size := Nat.le_trans (Nat.le_trans (by omega) x7.sz) hgrow.size
      go_meet
      case rel =>
        refine ⟨hx8, hsz8, hb8, (es0 ++ [(s_field, gt)]) ++ [(s_saturation, g6)], _, rfl, by simp; omega, by simpa using hown, ?_⟩
        rw [show rankL 4 ra rb = [(s_saturation, mapT [(s_pivot, numT ra)])] from rfl]
        simpa using hPk8
    by_cases e5 : rk = 5
    case pos =>
      subst e5
      go_upto_region 12 with fail
      refine wp_region_order (fun (w' : World) => w'.cell? ⟨w.heap.size, 1, none⟩ = some (.float .f64 ra) ∧ w'.cell? ⟨w.heap.size, 2, none⟩ = some (.float .f64 rb)) [0, 1, 2, 4, 5, 6, 8, 11] [0, 1, 2, 5, 6, 3, 4, 7, 8, 9, 10, 11, 12, 13, 14] (by kernel_rfl) (by kernel_rfl) (fun d _ _ _ _ h => by cases d <;> exact h) (by kernel_rfl) ?_
      have hS : (fun (w' : World) => w'.cell? ⟨w.heap.size, 1, none⟩ = some (.float .f64 ra) ∧ w'.cell? ⟨w.heap.size, 2, none⟩ = some (.float .f64 rb)) _ := ⟨k1, k2⟩
      (apply ord_held rfl rfl (by assumption) rfl; (focus ((intro w' hS'); go_simp; (try with_reducible rfl))); (try simp only [Act.put, List.setIfInBounds_toArray, List.set_cons_zero, List.set_cons_succ]))
      (apply ord_held rfl rfl (by assumption) rfl; (focus ((intro w' hS'); go_simp; (try with_reducible rfl))); (try simp only [Act.put, List.setIfInBounds_toArray, List.set_cons_zero, List.set_cons_succ]))
      (apply ord_held rfl rfl (by assumption) rfl; (focus ((intro w' hS'); go_simp; (try with_reducible rfl))); (try simp only [Act.put, List.setIfInBounds_toArray, List.set_cons_zero, List.set_cons_succ]))
      (apply ord_held rfl rfl (by assumption) rfl; (focus ((intro w' hS'); go_simp; (try with_reducible rfl))); (try simp only [Act.put, List.setIfInBounds_toArray, List.set_cons_zero, List.set_cons_succ]))
      (apply ord_held rfl rfl (by assumption) rfl; (focus ((intro w' hS'); go_simp; (try with_reducible rfl))); (try simp only [Act.put, List.setIfInBounds_toArray, List.set_cons_zero, List.set_cons_succ]))
      (apply ord_loud rfl rfl rfl; intro K hK; go_simp)
      refine (number_any ra _).mono ?_
      rintro r w4 ⟨g4, rfl, hg4, hx4⟩
      have x4 : Ext w3 w4 := ext_trans (ext_drew (ext_refl _)) hx4
      have hS3 : (fun (w' : World) => w'.cell? ⟨w.heap.size, 1, none⟩ = some (.float .f64 ra) ∧ w'.cell? ⟨w.heap.size, 2, none⟩ = some (.float .f64 rb)) _ := ⟨(hbR3.ext (x4)).cell 1 _ rfl, (hbR3.ext (x4)).cell 2 _ rfl⟩
      refine hK _ _ (fun _ => hS3) ?_
      clear hK K
      simp only [El.val]
      (try simp only [Act.put, List.setIfInBounds_toArray, List.set_cons_zero, List.set_cons_succ])
      (apply ord_held rfl rfl (by assumption) rfl; (focus ((intro w' hS'); go_simp; (try with_reducible rfl))); (try simp only [Act.put, List.setIfInBounds_toArray, List.set_cons_zero, List.set_cons_succ]))
      (apply ord_loud rfl rfl rfl; intro K hK; go_simp)
      refine (number_any rb _).mono ?_
      rintro r w5 ⟨g5, rfl, hg5, hx5⟩
      have x5 : Ext w3 w5 := ext_trans x4 hx5
      have hS7 : (fun (w' : World) => w'.cell? ⟨w.heap.size, 1, none⟩ = some (.float .f64 ra) ∧ w'.cell? ⟨w.heap.size, 2, none⟩ = some (.float .f64 rb)) _ := ⟨(hbR3.ext (x5)).cell 1 _ rfl, (hbR3.ext (x5)).cell 2 _ rfl⟩
      refine hK _ _ (fun _ => hS7) ?_
      clear hK K
      simp only [El.val]
      (try simp only [Act.put, List.setIfInBounds_toArray, List.set_cons_zero, List.set_cons_succ])
      (apply ord_held rfl rfl (by assumption) rfl; (focus ((intro w' hS'); go_simp; (try with_reducible rfl))); (try simp only [Act.put, List.setIfInBounds_toArray, List.set_cons_zero, List.set_cons_succ]))
      (apply ord_loud rfl rfl rfl; intro K hK; go_simp)
      have x5a : Ext w3 (w5.alloc (.cells #[.string s_pivot, .int .i64 g4.k, .string g4.x, .float .f64 g4.d, .bool g4.y, .slice g4.ka g4.n g4.kc, .slice g4.ca g4.m g4.cc, .string s_exponent, .int .i64 g5.k, .string g5.x, .float .f64 g5.d, .bool g5.y, .slice g5.ka g5.n g5.kc, .slice g5.ca g5.m g5.cc] 86)) := ext_alloc x5 _
      have hPr := pairs_box (S := fun b => w3.heap.size ≤ b) (es := [(s_pivot, g4), (s_exponent, g5)]) (Box.at (w := w5) rfl #[.string s_pivot, .int .i64 g4.k, .string g4.x, .float .f64 g4.d, .bool g4.y, .slice g4.ka g4.n g4.kc, .slice g4.ca g4.m g4.cc, .string s_exponent, .int .i64 g5.k, .string g5.x, .float .f64 g5.d, .bool g5.y, .slice g5.ka g5.n g5.kc, .slice g5.ca g5.m g5.cc] 86) x5.sz (by simp [maxLen]) (Pk.append (Pk.one (k := s_pivot) ((hg4 _).ext (ext_trans hx5 (ext_alloc (ext_refl w5) _)))) (Pk.one (k := s_exponent) ((hg5 _).ext (ext_alloc (ext_refl w5) _))))
      have hS9 : (fun (w' : World) => w'.cell? ⟨w.heap.size, 1, none⟩ = some (.float .f64 ra) ∧ w'.cell? ⟨w.heap.size, 2, none⟩ = some (.float .f64 rb)) _ := ⟨(hbR3.ext (x5a)).cell 1 _ rfl, (hbR3.ext (x5a)).cell 2 _ rfl⟩
      refine hK _ _ (fun _ => hS9) ?_
      clear hK K
      (try simp only [Act.put, List.setIfInBounds_toArray, List.set_cons_zero, List.set_cons_succ])
      (apply ord_loud rfl rfl rfl; intro K hK; go_simp)
      refine (map_any (S := fun b => w3.heap.size ≤ b) (some ⟨w5.heap.size, 0, none⟩) 2 2 [(s_pivot, numT ra), (s_exponent, numT rb)] _ hPr (by decide)).mono ?_
      rintro r w6 ⟨g6, rfl, hT6, hx6⟩
      have x6 : Ext w3 w6 := ext_trans x5a hx6
      have hs5 := x5a.sz
      have hT6 := hT6.to (S' := fun b => w3.heap.size ≤ b) (fun q hq _ => by rcases hq with hq | hq <;> first | exact hq.1 | omega)
      have hq6 : ∀ q, w3.heap.size ≤ q → w3.heap.size ≤ q := fun q hq => hq
      have hS10 : (fun (w' : World) => w'.cell? ⟨w.heap.size, 1, none⟩ = some (.float .f64 ra) ∧ w'.cell? ⟨w.heap.size, 2, none⟩ = some (.float .f64 rb)) _ := ⟨(hbR3.ext (x6)).cell 1 _ rfl, (hbR3.ext (x6)).cell 2 _ rfl⟩
      refine hK _ _ (fun _ => hS10) ?_
      clear hK K
      simp only [El.val]
      (try simp only [Act.put, List.setIfInBounds_toArray, List.set_cons_zero, List.set_cons_succ])
      (apply ord_held rfl rfl (by assumption) rfl; (focus ((intro w' hS'); go_simp; (try with_reducible rfl))); (try simp only [Act.put, List.setIfInBounds_toArray, List.set_cons_zero, List.set_cons_succ]))
      (apply ord_loud rfl rfl rfl; intro K hK; go_simp)
      have x7 : Ext w3 (w6.alloc (.cells #[.string s_sigmoid, .int .i64 g6.k, .string g6.x, .float .f64 g6.d, .bool g6.y, .slice g6.ka g6.n g6.kc, .slice g6.ca g6.m g6.cc] 86)) := ext_alloc (x6) _
      have hbq : Box (w6.alloc (.cells #[.string s_sigmoid, .int .i64 g6.k, .string g6.x, .float .f64 g6.d, .bool g6.y, .slice g6.ka g6.n g6.kc, .slice g6.ca g6.m g6.cc] 86)) w6.heap.size #[.string s_sigmoid, .int .i64 g6.k, .string g6.x, .float .f64 g6.d, .bool g6.y, .slice g6.ka g6.n g6.kc, .slice g6.ca g6.m g6.cc] 86 := Box.at rfl _ _
      have hT7 := (hT6.to (S' := fun b => w.heap.size + 1 + 1 ≤ b ∧ (Value.slice (some ⟨g1, 0, none⟩) (es0.length + 1) cap1).ownBlock ≠ some b) (fun q hq _ => ⟨by have := hq6 q hq; omega, fun e => by have := hq6 q hq; have := hqb q e; omega⟩)).ext (ext_alloc (ext_refl w6) (.cells #[.string s_sigmoid, .int .i64 g6.k, .string g6.x, .float .f64 g6.d, .bool g6.y, .slice g6.ka g6.n g6.kc, .slice g6.ca g6.m g6.cc] 86))
      have hS12 : (fun (w' : World) => w'.cell? ⟨w.heap.size, 1, none⟩ = some (.float .f64 ra) ∧ w'.cell? ⟨w.heap.size, 2, none⟩ = some (.float .f64 rb)) _ := ⟨(hbR3.ext (x7)).cell 1 _ rfl, (hbR3.ext (x7)).cell 2 _ rfl⟩
      refine hK _ _ (fun _ => hS12) ?_
      clear hK K
      (try simp only [Act.put, List.setIfInBounds_toArray, List.set_cons_zero, List.set_cons_succ])
      apply ord_loud rfl rfl rfl
      intro K hK
      refine wp_append_pairs _ _ _ rfl (w.heap.size + 1 + 1) _ (es0 ++ [(s_field, gt)]) rfl (HO3.out.ext x7) w6.heap.size 0 1 [(s_sigmoid, g6)] (by simp) rfl (fun i p hp => by
        cases i with
        | zero => simp at hp; subst hp; exact ⟨hbq.cell 0 _ rfl, hbq.cell 1 _ rfl, hbq.cell 2 _ rfl, hbq.cell 3 _ rfl, hbq.cell 4 _ rfl, hbq.cell 5 _ rfl, hbq.cell 6 _ rfl⟩
        | succ i => simp at hp) (by simp; omega) (Nat.le_trans (by omega) x7.sz) ?_
      intro g8 cap8 w8 hown hgrow hlies hglt
      have hS8 : (fun (w' : World) => w'.cell? ⟨w.heap.size, 1, none⟩ = some (.float .f64 ra) ∧ w'.cell? ⟨w.heap.size, 2, none⟩ = some (.float .f64 rb)) w8 := ⟨((hbR3.ext x7).grown hgrow (fun e => by have := hqb _ e.symm; omega)).cell 1 _ rfl, ((hbR3.ext x7).grown hgrow (fun e => by have := hqb _ e.symm; omega)).cell 2 _ rfl⟩
      refine hK _ _ (fun _ => hS8) ?_
      clear hK K
      (try simp only [Act.put, List.setIfInBounds_toArray, List.set_cons_zero, List.set_cons_succ])
      (apply ord_last rfl rfl rfl (by kernel_rfl); intro K hK; go_simp; refine hK _ _ ?_; clear hK K; (try simp only [Act.put, List.setIfInBounds_toArray, List.set_cons_zero, List.set_cons_succ]))
      refine ord_end ?_
      have hPk8 := pk_add (g := g8) (cap := cap8) (n := (es0 ++ [(s_field, gt)]).length + 1) (k := s_sigmoid) (hPk3.out.ext x7) hT7 hgrow hlies
      have hx8 : Ext w w8 := ext_grown (ext_trans hx3w x7) hgrow (fun k hk => by have := (World.ownsRow.lt HO3.out k hk).1; omega)
      have hb8 := (hb03.ext x7).grown hgrow (fun e => by have := hqb _ e.symm; omega)
      have hsz8 : w.heap.size + 1 + 1 ≤ w8.heap.size := Nat.le_trans (Nat.le_trans (by omega) x7.sz) hgrow.size
      go_wp2_with fail
      go_meet
      case rel =>
        refine ⟨hx8, hsz8, hb8, (es0 ++ [(s_field, gt)]) ++ [(s_sigmoid, g6)], _, rfl, by simp; omega, by simpa using hown, ?_⟩
        rw [show rankL 5 ra rb = [(s_sigmoid, mapT [(s_pivot, numT ra), (s_exponent, numT rb)])] from rfl]
        simpa using hPk8
    go_wp2_with fail
    go_meet
    case rel =>
      refine ⟨hx3w, hsz3, hb03, (es0 ++ [(s_field, gt)]), _, rfl, by simp; omega, by simpa using HO3.out, ?_⟩
      rw [show rankL rk ra rb = [] by unfold rankL; simp [e1, e2, e3, e4, e5], List.append_nil]
      exact hPk3.out
  case rest =>
    obtain ⟨hxc, hszc, hb0c, es, qv, hqv, hesl, hOc, hPc⟩ := hcut
    subst hqv
    obtain ⟨pa, pc, hpe, hPA⟩ := hOc.pairs (S := fun b => w.heap.size + 1 + 1 ≤ b) hPc.1 (fun b hb => (World.ownsRow.lt hOc b hb).1) (fun i e p he hp => ⟨(hPc.2 i e p he hp).1, (hPc.2 i e p he hp).2.to (fun b hb _ => hb.1)⟩)
    have hpl0 : (paramsL rRankFeature ps ++ [(s_field, textT f)] ++ rankL rk ra rb).length = es.length := hPc.1
    rw [hpl0] at hpe hPA
    subst hpe
    have hB := Lib.hid (beside_any s_rank_feature _ _ _ _ wc hPA (by omega))
    clear hOc hPc hPA
    have hl0c := hb0c.lt
    go_wp2_with (first
      | (go_at_call 57; refine hB.out.mono ?_; rintro r w9 ⟨g2, rfl, hT9, hx9⟩; simp only [El.val]
         have hb9 := hb0c.ext hx9; obtain ⟨o0, o1, o2, o3, o4, o5⟩ := hb9.six; have f0 := hb9.free 0; have f1 := hb9.free 1; have f2 := hb9.free 2; have f3 := hb9.free 3; have f4 := hb9.free 4; have f5 := hb9.free 5)
      | fail)
    have hx9w := ext_trans hxc hx9
    refine post_tree rfl rfl (hb9.sto g2) rfl ⟨g2, rfl, ?_, ext_sto6 hx9w (by omega) _ _ _ _ _ _⟩
    refine TreeAt.keep (S := fun b => w.heap.size + 1 + 1 ≤ b) (fun b hb _ => by omega) (keeps_sto w9 (by omega) g2) _ ?_
    have hfin := hT9.to (S' := fun b => w.heap.size + 1 + 1 ≤ b) (fun q hq _ => by rcases hq with hq | hq; exact hq.1; omega)
    simp only [List.append_assoc, List.cons_append, List.nil_append] at hfin ⊢
    exact hfin
end Go.Proofs.Ytdjojnlejkljdaa

namespace Go.Proofs.Ytdjojnlejkljdaa
open Go.RowKit

theorem rank_some (f key : ByteArray) (j : J) (t : T) (hn : [s_field, key, s_boost, s_name].Nodup) (hs : sameT (treeJ j) t = true) {ps : List (ByteArray × T)} (hF : FitsP rRankFeature ps) : SameL (jTree ([(s_field, J.str f)] ++ [(key, j)] ++ jN s_boost (lastOf ps s_boost) ++ jT s_name (lastOf ps s_name))) (paramsL rRankFeature ps ++ [(s_field, textT f)] ++ [(key, t)]) := by
  let chs : Nat → Ch := fun i => match i with
    | 0 => (s_field, [(s_field, textT f)])
    | 1 => (key, [(key, t)])
    | 2 => (s_boost, (param ps (s_boost, ⟨#[110]⟩)).toList)
    | 3 => (s_name, (param ps (s_name, ⟨#[116]⟩)).toList)
    | _ => (emptyS, [])
  have h0 : SameL (jTree ([(s_field, J.str f)] ++ [(key, j)] ++ jN s_boost (lastOf ps s_boost) ++ jT s_name (lastOf ps s_name))) ([(s_field, textT f)] ++ [(key, t)] ++ (param ps (s_boost, ⟨#[110]⟩)).toList ++ (param ps (s_name, ⟨#[116]⟩)).toList) := by
    unfold jTree
    rw [List.map_append, List.map_append, List.map_append]
    exact SameL.append (SameL.append (SameL.append (SameL.one s_field (sameT_self _ (okT_text f))) (SameL.one key hs)) (jN_same hF (by rw [kindL_dec]; decide))) (jT_same hF (by rw [kindL_dec]; decide))
  have h1 := SameL.reorder (f := chs) [0, 1, 2, 3] [2, 3, 0, 1] (by decide) hn (by intro c hc; simp only [List.map_cons, List.map_nil, List.mem_cons, List.not_mem_nil, or_false] at hc; rcases hc with rfl | rfl | rfl | rfl <;> first | exact keys_param _ _ | exact keys_one _ _) (by simpa only [chs, flatC, List.map_cons, List.map_nil, List.flatMap_cons, List.flatMap_nil, List.append_nil, List.append_assoc] using h0)
  rw [params_cons, params_cons, params_nil]
  refine (show SameL _ _ from ?_)
  simpa only [chs, flatC, List.map_cons, List.map_nil, List.flatMap_cons, List.flatMap_nil, List.append_nil, List.append_assoc, List.cons_append, List.nil_append] using h1
theorem rank_none (f : ByteArray) {ps : List (ByteArray × T)} (hF : FitsP rRankFeature ps) : SameL (jTree ([(s_field, J.str f)] ++ jN s_boost (lastOf ps s_boost) ++ jT s_name (lastOf ps s_name))) (paramsL rRankFeature ps ++ [(s_field, textT f)]) := by
  let chs : Nat → Ch := fun i => match i with
    | 0 => (s_field, [(s_field, textT f)])
    | 1 => (s_boost, (param ps (s_boost, ⟨#[110]⟩)).toList)
    | 2 => (s_name, (param ps (s_name, ⟨#[116]⟩)).toList)
    | _ => (emptyS, [])
  have h0 : SameL (jTree ([(s_field, J.str f)] ++ jN s_boost (lastOf ps s_boost) ++ jT s_name (lastOf ps s_name))) ([(s_field, textT f)] ++ (param ps (s_boost, ⟨#[110]⟩)).toList ++ (param ps (s_name, ⟨#[116]⟩)).toList) := by
    unfold jTree
    rw [List.map_append, List.map_append]
    exact SameL.append (SameL.append (SameL.one s_field (sameT_self _ (okT_text f))) (jN_same hF (by rw [kindL_dec]; decide))) (jT_same hF (by rw [kindL_dec]; decide))
  have h1 := SameL.reorder (f := chs) [0, 1, 2] [1, 2, 0] (by decide) (show [s_field, s_boost, s_name].Nodup by decide) (by intro c hc; simp only [List.map_cons, List.map_nil, List.mem_cons, List.not_mem_nil, or_false] at hc; rcases hc with rfl | rfl | rfl <;> first | exact keys_param _ _ | exact keys_one _ _) (by simpa only [chs, flatC, List.map_cons, List.map_nil, List.flatMap_cons, List.flatMap_nil, List.append_nil, List.append_assoc] using h0)
  rw [params_cons, params_cons, params_nil]
  refine (show SameL _ _ from ?_)
  simpa only [chs, flatC, List.map_cons, List.map_nil, List.flatMap_cons, List.flatMap_nil, List.append_nil, List.append_assoc, List.cons_append, List.nil_append] using h1
theorem score_same {js : List (ByteArray × J)} {ts : List (ByteArray × T)} (h : jTree js = ts) (ho : ∀ p ∈ ts, okT p.2 = true) : sameT (treeJ (jMap js)) (mapT ts) = true := by
  have : treeJ (jMap js) = mapT (jTree js) := treeJ_jMap js
  rw [this, h]
  exact sameT_self _ (okT_map ho)
theorem rank_same (f : ByteArray) (rk : Int) (ra rb : Nat) (ha : finiteB ra = true) (hb : finiteB rb = true) {ps : List (ByteArray × T)} (hF : FitsP rRankFeature ps) : sameT (mapT [(s_rank_feature, mapT (jTree ([(s_field, J.str f)] ++ jS s_score (rankO rk ra rb) ++ jN s_boost (lastOf ps s_boost) ++ jT s_name (lastOf ps s_name))))]) (mapT [(s_rank_feature, mapT (paramsL rRankFeature ps ++ [(s_field, textT f)] ++ rankL rk ra rb))]) = true := by
  refine same_one _ (sameT_map ?_)
  have h1 : ∀ p ∈ [(s_scaling_factor, numT ra)], okT p.2 = true := fun p hp => by simp at hp; subst hp; exact okT_num ha
  have h2 : ∀ p ∈ [(s_pivot, numT ra)], okT p.2 = true := fun p hp => by simp at hp; subst hp; exact okT_num ha
  have h3 : ∀ p ∈ [(s_pivot, numT ra), (s_exponent, numT rb)], okT p.2 = true := fun p hp => by
    simp at hp
    rcases hp with rfl | rfl
    · exact okT_num ha
    · exact okT_num hb
  by_cases e1 : rk = 1
  · subst e1; exact rank_some f s_linear (jMap []) (mapT []) (by decide) (score_same rfl (fun p hp => by cases hp)) hF
  by_cases e2 : rk = 2
  · subst e2; exact rank_some f s_log (jMap [(s_scaling_factor, .num ra)]) (mapT [(s_scaling_factor, numT ra)]) (by decide) (score_same (by simp [jTree, treeJ]) h1) hF
  by_cases e3 : rk = 3
  · subst e3; exact rank_some f s_saturation (jMap []) (mapT []) (by decide) (score_same rfl (fun p hp => by cases hp)) hF
  by_cases e4 : rk = 4
  · subst e4; exact rank_some f s_saturation (jMap [(s_pivot, .num ra)]) (mapT [(s_pivot, numT ra)]) (by decide) (score_same (by simp [jTree, treeJ]) h2) hF
  by_cases e5 : rk = 5
  · subst e5; exact rank_some f s_sigmoid (jMap [(s_pivot, .num ra), (s_exponent, .num rb)]) (mapT [(s_pivot, numT ra), (s_exponent, numT rb)]) (by decide) (score_same (by simp [jTree, treeJ]) h3) hF
  rw [show rankO rk ra rb = none by unfold rankO; simp [e1, e2, e3, e4, e5], show rankL rk ra rb = [] by unfold rankL; simp [e1, e2, e3, e4, e5], show jS s_score none = [] from rfl, List.append_nil, List.append_nil]
  exact rank_none f hF
theorem rank_nonull (rk : Int) (ra rb : Nat) : NoNull (jS s_score (rankO rk ra rb)) ∧ (jS s_score (rankO rk ra rb)).length ≤ 1 := by
  have key : ∀ (k : ByteArray) (l : List (ByteArray × J)), NoNull (jS s_score (some (k, jMap l))) := fun k l => noNull_J _ _ (by
    rw [treeJ_jMap]
    obtain ⟨m, h1, -⟩ := mapT_told (l.map fun p => (p.1, treeJ p.2))
    rw [h1]
    simp [mapOf, T.kind])
  by_cases e1 : rk = 1
  · subst e1; exact ⟨key _ _, Nat.le_refl _⟩
  by_cases e2 : rk = 2
  · subst e2; exact ⟨key _ _, Nat.le_refl _⟩
  by_cases e3 : rk = 3
  · subst e3; exact ⟨key _ _, Nat.le_refl _⟩
  by_cases e4 : rk = 4
  · subst e4; exact ⟨key _ _, Nat.le_refl _⟩
  by_cases e5 : rk = 5
  · subst e5; exact ⟨key _ _, Nat.le_refl _⟩
  rw [show rankO rk ra rb = none by unfold rankO; simp [e1, e2, e3, e4, e5]]
  exact ⟨fun p hp => (by cases hp), Nat.zero_le _⟩
theorem num_finite {x : Nat} (h : scalarT (numT x) = true) : finiteB x = true := by
  simp only [scalarT, scalarF, numT, T.kind, T.text, T.num, T.keys, T.kids] at h
  simpa using h
set_option maxHeartbeats 4000000 in
theorem rankFeature_law {S : Nat → Prop} (f : ByteArray) (rk : Int) (ra rb : Nat) (a : Option Addr) (n c : Nat) (ps : List (ByteArray × T)) (w : World) (h : PairsAt S w a n c ps) : Calls Try.prog 3 #[.string f, .agg #[.int .i64 rk, .float .f64 ra, .float .f64 rb], .slice a n c] w fun r w' => r = .returned (.bool true) ∧ Ext w w' := by
  have hnl := Nat.le_trans h.2.1 h.2.2.1
  unfold maxLen at hnl
  have hPs := Lib.hid fun w' (x : Ext w w') => (h.keep (S' := fun _ => True) (fun _ _ _ => trivial) (fun _ _ _ => rfl)).ext x
  have hF := Lib.hid fun w' (x : Ext w w') => fits_any sRankFeature rRankFeature a n c ps w' rows_rankFeature (by simp [plainK]) (h.ext x)
  have hQ := Lib.hid fun w' (x : Ext w w') => rankFeature_any a n c ps w' f rk ra rb (h.ext x)
  clear h
  have hbt : Box (w.alloc (.cells #[.int .i64 rk, .float .f64 ra, .float .f64 rb] 24)) w.heap.size #[.int .i64 rk, .float .f64 ra, .float .f64 rb] 24 := Box.at rfl _ _
  have k0 := hbt.cell 0 _ rfl
  have k1 := hbt.cell 1 _ rfl
  have k2 := hbt.cell 2 _ rfl
  go_enter Try.func3, Try.ntmps3
  by_cases hsz0 : 2147483647 < f.size
  · go_wp2_with fail
    all_goals (go_ret; exact ⟨rfl, by (repeat (first | exact ext_refl _ | assumption | refine ext_alloc ?_ _ | refine ext_drew ?_ | refine ext_set ?_ (by simp) _ | refine ext_trans ?_ (by assumption)))⟩)
  by_cases hsz1 : 2147483647 < n
  · go_wp2_with fail
    all_goals (go_ret; exact ⟨rfl, by (repeat (first | exact ext_refl _ | assumption | refine ext_alloc ?_ _ | refine ext_drew ?_ | refine ext_set ?_ (by simp) _ | refine ext_trans ?_ (by assumption)))⟩)
  by_cases hk0 : 0 ≤ rk
  case neg =>
    go_wp2_with fail
    all_goals (go_ret; exact ⟨rfl, by (repeat (first | exact ext_refl _ | assumption | refine ext_alloc ?_ _ | refine ext_drew ?_ | refine ext_set ?_ (by simp) _ | refine ext_trans ?_ (by assumption)))⟩)
  by_cases hk1 : rk ≤ 5
  case neg =>
    go_wp2_with fail
    all_goals (go_ret; exact ⟨rfl, by (repeat (first | exact ext_refl _ | assumption | refine ext_alloc ?_ _ | refine ext_drew ?_ | refine ext_set ?_ (by simp) _ | refine ext_trans ?_ (by assumption)))⟩)
  have tkn := trivial
  have tks := trivial
  go_wp2_with (first
    | (go_at_call 9; have _t := tkn; clear _t tkn; refine (number_any ra _).mono ?_; rintro r wna ⟨gna, rfl, hgna, hxna⟩; simp only [El.val]; have hbna := hbt.ext (show Ext (w.alloc (.cells #[.int .i64 rk, .float .f64 ra, .float .f64 rb] 24)) wna by (repeat (first | exact ext_refl _ | assumption | refine ext_alloc ?_ _ | refine ext_drew ?_ | refine ext_set ?_ (by simp) _ | refine ext_trans ?_ (by assumption)))); have c0 := hbna.cell 0 _ rfl; have c1 := hbna.cell 1 _ rfl; have c2 := hbna.cell 2 _ rfl; have Hgna := Lib.hid (hgna (fun _ => True)); clear hgna)
    | (go_at_call 8; have _t := tks; clear _t tks; refine (scalar_any gna (numT ra) _ Hgna.out).mono ?_; rintro r wsa ⟨rfl, hxsa⟩; have hbsa := hbt.ext (show Ext (w.alloc (.cells #[.int .i64 rk, .float .f64 ra, .float .f64 rb] 24)) wsa by (repeat (first | exact ext_refl _ | assumption | refine ext_alloc ?_ _ | refine ext_drew ?_ | refine ext_set ?_ (by simp) _ | refine ext_trans ?_ (by assumption)))); have c0 := hbsa.cell 0 _ rfl; have c1 := hbsa.cell 1 _ rfl; have c2 := hbsa.cell 2 _ rfl; generalize hsa : scalarT (numT ra) = bsa; have Hsa := Lib.hid hsa; clear hsa; cases bsa)
    | (go_at_call 9; refine (number_any rb _).mono ?_; rintro r wnb ⟨gnb, rfl, hgnb, hxnb⟩; simp only [El.val]; have hbnb := hbt.ext (show Ext (w.alloc (.cells #[.int .i64 rk, .float .f64 ra, .float .f64 rb] 24)) wnb by (repeat (first | exact ext_refl _ | assumption | refine ext_alloc ?_ _ | refine ext_drew ?_ | refine ext_set ?_ (by simp) _ | refine ext_trans ?_ (by assumption)))); have c0 := hbnb.cell 0 _ rfl; have c1 := hbnb.cell 1 _ rfl; have c2 := hbnb.cell 2 _ rfl; have Hgnb := Lib.hid (hgnb (fun _ => True)); clear hgnb)
    | (go_at_call 8; refine (scalar_any gnb (numT rb) _ Hgnb.out).mono ?_; rintro r wsb ⟨rfl, hxsb⟩; have hbsb := hbt.ext (show Ext (w.alloc (.cells #[.int .i64 rk, .float .f64 ra, .float .f64 rb] 24)) wsb by (repeat (first | exact ext_refl _ | assumption | refine ext_alloc ?_ _ | refine ext_drew ?_ | refine ext_set ?_ (by simp) _ | refine ext_trans ?_ (by assumption)))); have c0 := hbsb.cell 0 _ rfl; have c1 := hbsb.cell 1 _ rfl; have c2 := hbsb.cell 2 _ rfl; generalize hsb : scalarT (numT rb) = bsb; have Hsb := Lib.hid hsb; clear hsb; cases bsb)
    | (go_at_call 10; refine (field_any f (by omega) _).mono ?_; rintro r wfd ⟨bfd, rfl, hfd, hxfd⟩; clear hfd; have hbfd := hbt.ext (show Ext (w.alloc (.cells #[.int .i64 rk, .float .f64 ra, .float .f64 rb] 24)) wfd by (repeat (first | exact ext_refl _ | assumption | refine ext_alloc ?_ _ | refine ext_drew ?_ | refine ext_set ?_ (by simp) _ | refine ext_trans ?_ (by assumption)))); have c0 := hbfd.cell 0 _ rfl; have c1 := hbfd.cell 1 _ rfl; have c2 := hbfd.cell 2 _ rfl; cases bfd)
    | (go_at_call 11; refine (hF.out _ (by (repeat (first | exact ext_refl _ | assumption | refine ext_alloc ?_ _ | refine ext_drew ?_ | refine ext_set ?_ (by simp) _ | refine ext_trans ?_ (by assumption))))).mono ?_; rintro r wff ⟨bff, rfl, hff, hxff⟩; have Hff := Lib.hid hff; clear hff; have hbff := hbt.ext (show Ext (w.alloc (.cells #[.int .i64 rk, .float .f64 ra, .float .f64 rb] 24)) wff by (repeat (first | exact ext_refl _ | assumption | refine ext_alloc ?_ _ | refine ext_drew ?_ | refine ext_set ?_ (by simp) _ | refine ext_trans ?_ (by assumption)))); have c0 := hbff.cell 0 _ rfl; have c1 := hbff.cell 1 _ rfl; have c2 := hbff.cell 2 _ rfl; cases bff)
    | fail)
  all_goals (try (go_ret; exact ⟨rfl, by (repeat (first | exact ext_refl _ | assumption | refine ext_alloc ?_ _ | refine ext_drew ?_ | refine ext_set ?_ (by simp) _ | refine ext_trans ?_ (by assumption)))⟩))
  have hff := Hff.out (by trivial)
  have hfa := num_finite Hsa.out
  have hfb := num_finite Hsb.out
  have hfit := Lib.hid (rank_same f rk ra rb hfa hfb hff)
  have HFF := Lib.hid hff
  have hx0 : Ext (w.alloc (.cells #[.int .i64 rk, .float .f64 ra, .float .f64 rb] 24)) wff := by (repeat (first | exact ext_refl _ | assumption | refine ext_alloc ?_ _ | refine ext_drew ?_ | refine ext_set ?_ (by simp) _ | refine ext_trans ?_ (by assumption)))
  have hx1 : Ext w wff := by (repeat (first | exact ext_refl _ | assumption | refine ext_alloc ?_ _ | refine ext_drew ?_ | refine ext_set ?_ (by simp) _ | refine ext_trans ?_ (by assumption)))
  refine (hQ.out wff hx1).mono ?_
  rintro r w3 ⟨e, rfl, hT, hx3⟩
  simp only [El.val]
  go_upto_region 6 with fail
  have hb3 : Box (w3.alloc (.cells e.arr 30)) w3.heap.size e.arr 30 := Box.at rfl _ _
  have hxa := ext_alloc (ext_trans hx0 hx3) (.cells e.arr 30)
  have hxb : Ext w (w3.alloc (.cells e.arr 30)) := ext_alloc (ext_trans hx1 hx3) _
  rw [jMap_tree] at hT
  have hT3 := Lib.hid (hT.ext (ext_alloc (ext_refl w3) (.cells e.arr 30)))
  clear hT
  have hb4 := hbt.ext hxa
  generalize w3.alloc (.cells e.arr 30) = w4 at hb3 hxa hxb hT3 hb4 ⊢
  generalize w3.heap.size = b3 at hb3 ⊢
  refine wp_region_order (fun (w' : World) => Six w' b3 e ∧ w'.cell? ⟨w.heap.size, 0, none⟩ = some (.int .i64 rk) ∧ w'.cell? ⟨w.heap.size, 1, none⟩ = some (.float .f64 ra) ∧ w'.cell? ⟨w.heap.size, 2, none⟩ = some (.float .f64 rb)) [0, 1, 2, 4, 5, 6, 9] [0, 1, 2, 4, 5, 6, 3, 7, 8, 9, 10] (by kernel_rfl) (by kernel_rfl) (fun d _ _ _ _ h => by cases d <;> exact h) (by kernel_rfl) ?_
  have hS : (fun (w' : World) => Six w' b3 e ∧ w'.cell? ⟨w.heap.size, 0, none⟩ = some (.int .i64 rk) ∧ w'.cell? ⟨w.heap.size, 1, none⟩ = some (.float .f64 ra) ∧ w'.cell? ⟨w.heap.size, 2, none⟩ = some (.float .f64 rb)) _ := ⟨hb3.Six, hb4.cell 0 _ rfl, hb4.cell 1 _ rfl, hb4.cell 2 _ rfl⟩
  (apply ord_held rfl rfl (by assumption) rfl; (focus ((intro w' hS'); go_simp; (try with_reducible rfl))); (try simp only [Act.put, List.setIfInBounds_toArray, List.set_cons_zero, List.set_cons_succ]))
  (apply ord_held rfl rfl (by assumption) rfl; (focus ((intro w' hS'); go_simp; (try with_reducible rfl))); (try simp only [Act.put, List.setIfInBounds_toArray, List.set_cons_zero, List.set_cons_succ]))
  (apply ord_guard rfl rfl (by assumption) rfl; (focus ((intro w' hS'); go_simp; (try with_reducible rfl))); (try simp only [Act.put, List.setIfInBounds_toArray, List.set_cons_zero, List.set_cons_succ]))
  (apply ord_guard rfl rfl (by assumption) rfl; (focus ((intro w' hS'); go_simp; (try with_reducible rfl))); (try simp only [Act.put, List.setIfInBounds_toArray, List.set_cons_zero, List.set_cons_succ]))
  (apply ord_guard rfl rfl (by assumption) rfl; (focus ((intro w' hS'); go_simp; (try with_reducible rfl))); (try simp only [Act.put, List.setIfInBounds_toArray, List.set_cons_zero, List.set_cons_succ]))
  (apply ord_guard rfl rfl (by assumption) rfl; (focus ((intro w' hS'); go_simp; (try with_reducible rfl))); (try simp only [Act.put, List.setIfInBounds_toArray, List.set_cons_zero, List.set_cons_succ]))
  (apply ord_want rfl rfl rfl; intro K hK; go_simp)
  refine (rb_any s_rank_feature _ e none 0 0 [] _ (hT3.out.ext ((ext_drew (ext_refl w4)))) (strs_none _) (fun k t hl => ⟨(NoNull.append (NoNull.append (NoNull.append (noNull_str _ _) (rank_nonull rk ra rb).1) (noNull_N _ _)) (noNull_T _ _)) _ (lastOf_mem hl), fun hh => by simp [hasS] at hh⟩) (by have h1 := jN_len s_boost (lastOf ps s_boost); have h2 := jT_len s_name (lastOf ps s_name); have h3 := (rank_nonull rk ra rb).2; simp only [jTree, List.length_map, List.length_append, List.length_cons, List.length_nil]; omega)).mono ?_
  rintro r wr ⟨gr, rfl, hTr, hxr⟩
  have hS1 : (fun (w' : World) => Six w' b3 e ∧ w'.cell? ⟨w.heap.size, 0, none⟩ = some (.int .i64 rk) ∧ w'.cell? ⟨w.heap.size, 1, none⟩ = some (.float .f64 ra) ∧ w'.cell? ⟨w.heap.size, 2, none⟩ = some (.float .f64 rb)) _ := ⟨Six.ext hxr hS.1, Ext.cell hxr hS.2.1, Ext.cell hxr hS.2.2.1, Ext.cell hxr hS.2.2.2⟩
  refine hK _ _ (fun _ => hS1) ?_
  clear hK K
  try simp only [El.val]
  (try simp only [Act.put, List.setIfInBounds_toArray, List.set_cons_zero, List.set_cons_succ])
  (apply ord_want rfl rfl rfl; intro K hK; go_simp)
  refine (rankS_any (S := fun _ => True) f rk ra rb a n c ps _ (hPs.out _ (ext_trans hxb (ext_trans ((ext_drew (ext_refl w4))) hxr))) HFF.out).mono ?_
  rintro r wb ⟨gb, rfl, hTb, hxbb⟩
  have hS2 : (fun (w' : World) => Six w' b3 e ∧ w'.cell? ⟨w.heap.size, 0, none⟩ = some (.int .i64 rk) ∧ w'.cell? ⟨w.heap.size, 1, none⟩ = some (.float .f64 ra) ∧ w'.cell? ⟨w.heap.size, 2, none⟩ = some (.float .f64 rb)) _ := ⟨Six.ext hxbb hS1.1, Ext.cell hxbb hS1.2.1, Ext.cell hxbb hS1.2.2.1, Ext.cell hxbb hS1.2.2.2⟩
  refine hK _ _ (fun _ => hS2) ?_
  clear hK K
  try simp only [El.val]
  (try simp only [Act.put, List.setIfInBounds_toArray, List.set_cons_zero, List.set_cons_succ])
  (apply ord_want rfl rfl rfl; intro K hK; go_simp)
  refine (same_any (S := fun _ => True) _ _ gr gb _ ((hTr.ext (hxbb)).any) (hTb.any)).mono ?_
  rintro r ws ⟨rfl, hxs2⟩
  have hS3 : (fun (w' : World) => Six w' b3 e ∧ w'.cell? ⟨w.heap.size, 0, none⟩ = some (.int .i64 rk) ∧ w'.cell? ⟨w.heap.size, 1, none⟩ = some (.float .f64 ra) ∧ w'.cell? ⟨w.heap.size, 2, none⟩ = some (.float .f64 rb)) _ := ⟨Six.ext hxs2 hS2.1, Ext.cell hxs2 hS2.2.1, Ext.cell hxs2 hS2.2.2.1, Ext.cell hxs2 hS2.2.2.2⟩
  refine hK _ _ (fun _ => hS3) ?_
  clear hK K
  try simp only [El.val]
  rw [hfit.out]
  (try simp only [Act.put, List.setIfInBounds_toArray, List.set_cons_zero, List.set_cons_succ])
  (apply ord_held rfl rfl (by assumption) rfl; (focus ((intro w' hS'); go_simp; (try with_reducible rfl))); (try simp only [Act.put, List.setIfInBounds_toArray, List.set_cons_zero, List.set_cons_succ]))
  (apply ord_last rfl rfl rfl (by kernel_rfl); intro K hK; go_simp; refine hK _ _ ?_; clear hK K; (try simp only [Act.put, List.setIfInBounds_toArray, List.set_cons_zero, List.set_cons_succ]))
  refine ord_end ?_
  go_wp2_with fail
  go_ret
  exact ⟨rfl, ext_trans hxb (ext_trans (ext_trans (ext_trans ((ext_drew (ext_refl w4))) hxr) hxbb) hxs2)⟩
end Go.Proofs.Ytdjojnlejkljdaa

namespace Go.Proofs.Ytdjojnlejkljdaa
open Go.ChangeShapes Go.WideShapes Go.ChangeAt Go.RowKit

section
variable {H : Type} {enc : TypeId × Value → H} {w : World} {base : Nat} {spare : Nat → Bool} {held : Bool}
theorem cells_rank : Try.prog.cellsOf 24 = 3 := by kernel_rfl
set_option maxRecDepth 20000 in
theorem rank_val {fuel : Nat} {r : Reach} {b0 : Nat} {v : Value} {x : DataW H × List MemPlace} {W : World} (hv : Value.okWide Try.prog W r b0 24 v) (h : DataW.trod enc Try.prog w base spare held fuel 24 v.cells.toList = some x) :
    ∃ (k : Int) (a b : Nat), v = .agg #[.int .i64 k, .float .f64 a, .float .f64 b] := by
  obtain ⟨cs', rfl, -⟩ := okWide_struct Try.underlying24 hv
  obtain ⟨xs, n, rfl, -, hcl, hxl, hf⟩ := DataW.trod_struct Try.underlying24 h
  rw [cells_rank] at hcl
  have key : ∀ cs : List Value, cs'.toList = cs → cs.length = 3 → ∃ (k : Int) (a b : Nat), Value.agg cs' = .agg #[.int .i64 k, .float .f64 a, .float .f64 b] := fun cs hcs hlen => by
    match cs, hlen with
    | [c0, c1, c2], _ =>
      have hcs2 : (Value.agg cs').cells.toList = [c0, c1, c2] := hcs
      rw [hcs2] at hf
      match xs, hxl with
      | [x0, x1, x2], _ =>
        have f0 : DataW.trod enc Try.prog w base spare held n 3 (List.take (Try.prog.cellsOf 3) (List.drop 0 [c0, c1, c2])) = some x0 := hf 0 _ rfl
        rw [cells_int] at f0
        have f0 : DataW.trod enc Try.prog w base spare held n 3 [c0] = some x0 := f0
        have f1 : DataW.trod enc Try.prog w base spare held n 22 (List.take (Try.prog.cellsOf 22) (List.drop 1 [c0, c1, c2])) = some x1 := hf 1 _ rfl
        rw [cells_float] at f1
        have f1 : DataW.trod enc Try.prog w base spare held n 22 [c1] = some x1 := f1
        have f2 : DataW.trod enc Try.prog w base spare held n 22 (List.take (Try.prog.cellsOf 22) (List.drop 2 [c0, c1, c2])) = some x2 := hf 2 _ rfl
        rw [cells_float] at f2
        have f2 : DataW.trod enc Try.prog w base spare held n 22 [c2] = some x2 := f2
        obtain ⟨k, e0, -, -⟩ := DataW.trod_int Try.underlying3 f0
        obtain ⟨a, e1⟩ := trod_float Try.underlying22 f1
        obtain ⟨b, e2⟩ := trod_float Try.underlying22 f2
        simp only [List.cons.injEq, and_true] at e0 e1 e2
        subst e0 e1 e2
        refine ⟨k, a, b, ?_⟩
        have : cs' = #[.int .i64 k, .float .f64 a, .float .f64 b] := by
          cases cs'
          simpa using hcs
        rw [this]
  exact key _ rfl hcl
end
end Go.Proofs.Ytdjojnlejkljdaa

namespace Go.Proofs.Ytdjojnlejkljdaa
open Go.ChangeShapes Go.WideShapes Go.ChangeAt Go.RowKit

set_option maxRecDepth 100000 in
theorem rankFeature_lifted (os : Os) (started : os.Started) (H : Type) (enc : TypeId × Value → H) :
    ReturnsInHanded {} Try.checked os 3 .any (Rows.fnRankFeatureSpec.pre6 enc Try.prog Try.f3 Rows.fnRankFeatureRow.domain false) (Rows.fnRankFeatureSpec.post enc Try.prog Try.f3 false true false false) := by
  refine returnsInHanded_of_change (C := Try.checked) ownKnobs started (by kernel_rfl) Try.func3
    (ChangeSpec.witness6 (enc := enc) (C := Try.checked) false ⟨#[], #[.string ⟨#[]⟩, .agg #[.int .i64 0, .float .f64 0, .float .f64 0], .slice none 0 0], []⟩ 8 (by kernel_rfl) (by kernel_rfl) (by kernel_rfl) (by kernel_rfl)) ?_
  intro W base args ds gs before hval hW hcnd _
  have hW' := hW
  obtain ⟨p, q, hA, hV, rfl, hfz, hnd⟩ := hW'
  have hA : DataW.TrodAll enc Try.prog W 0 (fun _ => true) true Try.f3.params.toList args.toList ds p := hA
  rw [Try.params3] at hA hval
  obtain ⟨v0, vs0, d0, ds0, p0, q0, hargs, rfl, rfl, h0, r0⟩ := trodAll_cons hA
  obtain ⟨v1, vs1, d1, ds1, p1, q1, rfl, rfl, rfl, h1, r1⟩ := trodAll_cons r0
  obtain ⟨v2, vs2, d2, ds2, p2, q2, rfl, rfl, rfl, h2, r2⟩ := trodAll_cons r1
  obtain ⟨rfl, rfl, rfl⟩ := trodAll_nil r2
  obtain rfl : args = #[v0, v1, v2] := by cases args; simp_all
  obtain ⟨rfl, rfl⟩ := trodVars_none hV
  obtain ⟨s0, rfl, rfl, rfl, w0⟩ := Go.ChangeMaps.open_string Try.underlying9 (hval 0 9 v0 rfl rfl) h0
  obtain ⟨fuel1, hf1⟩ := h1
  obtain ⟨rk1, ra1, rb1, he1⟩ := rank_val (hval 1 24 v1 rfl rfl) hf1
  subst he1
  obtain ⟨a2, n2, c2, rfl⟩ := okWide_slice Try.underlying25 (hval 2 25 v2 rfl rfl)
  obtain ⟨fuel2, hf2⟩ := h2
  obtain ⟨a2', n2', c2', ps2, e2, hP2⟩ := sets_of hf2
  simp only [Value.cells, List.cons.injEq, and_true, Value.slice.injEq] at e2
  obtain ⟨rfl, rfl, rfl⟩ := e2
  refine (rankFeature_law s0 rk1 ra1 rb1 a2 n2 c2 ps2 W hP2).mono fun e W' ⟨he, hx⟩ => ?_
  subst he
  exact ⟨_, rfl, post_law laidOut (by kernel_rfl) (by kernel_rfl) Try.underlying4 rfl hW rfl hx⟩

/-- A rank_feature query has its field and what it scores by, and its settings. -/
theorem rankFeature_proved : Rows.FnRankFeatureSaid :=
  OpenClaim.holds_of_wide 3 Try.f3 rfl rfl rfl rfl rfl rfl rfl ⟨rfl, rfl, rfl, rfl, rfl⟩ rfl rfl rfl rfl rfl (by kernel_rfl) Try.func3 (by kernel_rfl)
    (of_decide_eq_true (by kernel_rfl)) (by unfold Func.isWrapper; first | (rw [if_pos (by decide +kernel)]; kernel_rfl) | (rw [if_neg (by decide +kernel)]; exact ⟨rfl, rfl⟩))
    (fun os started H enc _ => rankFeature_lifted os started H enc)
#print axioms rankFeature_proved
end Go.Proofs.Ytdjojnlejkljdaa

