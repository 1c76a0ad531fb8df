/-
  A pinned query has its ids in order, and the other query: the statement FnPinned where what comes in is of bulk at most 1048576.
-/
import Derived.Test.YtpkkdmopcfcnkaaNm2
import Derived.Test.YtpkkdmopcfcnkaaGv
import Derived.Test.YtpkkdmopcfcnkaaNb
import Derived.Test.YtpkkdmopcfcnkaaLq
import Derived.Test.YtpkkdmopcfcnkaaZz
import Derived.Test.YtpkkdmopcfcnkaaTx
import Derived.Test.YtpkkdmopcfcnkaaRows
import Derived.Test.YtpkkdmopcfcnkaaOb
namespace Go.Proofs.Ytpkkdmopcfcnkaa
open Go.RowKit

set_option maxRecDepth 20000 in
set_option maxHeartbeats 4000000 in
theorem pinned_src {S : Nat → Prop} (w : World) (bq : Nat) (ua : Option Addr) (un uc : Nat) (u : J) (hu : JAt (fun b => b < w.heap.size) w (.iface 23 (.slice ua un uc)) u) (hup : 0 < un) (ge : El) (gt : T) (hg : TreeAt (fun _ => True) w ge gt) (hgF : FullT gt) (hbq : Box w bq #[.slice ua un uc, .iface 73 ge.val] 181) :
    Calls Try.prog 102 #[.pointer (some ⟨bq, 0, none⟩)] w fun r w' => ∃ v, r = .returned (.tuple #[v, .nilIface]) ∧ JAt (fun _ => True) w' v (jMap [(s_pinned, jMap ([(s_ids, u)] ++ [(s_organic, jFull gt)]))]) ∧ Ext w w' := by
  have tok0 := trivial
  have hblt := hbq.lt
  have hun : 0 < un := hup
  have Hu := Lib.hid hu
  clear hu
  have Hg := Lib.hid hg
  clear hg
  go_enter Try.func102, Try.ntmps102
  go_wp2_with (first
    | (at_mapUpdate; have _t := tok0; refine wp_put _ rfl _ _ _ 162 rfl 20 Try.underlying162 w.heap.size [] rfl ((MapAt.at (by simp)).alloc _) (by simp [maxLen]) s_pinned rfl (by decide) _ rfl ?_; intro w1 hm hg; clear tok0
       have hx1 : Ext w w1 := ext_put (ext_alloc (ext_alloc (ext_refl _) _) _) hg (by omega)
       have hl0_1 := hm
       have hs0_1 := hl0_1.lt
       have hl1_1 : MapAt w1 (w.heap.size + 1) [] := (MapAt.at (by simp)).grown hg (someNe (by omega))
       have hs1_1 := hl1_1.lt
       have hb1 := hbq.ext hx1
       have hc0 := hb1.cell 0 _ rfl
       have hc1 := hb1.cell 1 _ rfl
       clear hg hm)
    | (at_mapUpdate; refine wp_put _ rfl _ _ _ 162 rfl 20 Try.underlying162 (w.heap.size + 1) [] rfl (hl1_1) (by simp [maxLen]) s_ids rfl (by decide) _ rfl ?_; intro w2 hm hg
       have hx2 : Ext w w2 := ext_put (hx1) hg (by omega)
       have hl0_2 : MapAt w2 w.heap.size [(s_pinned, .iface 162 (.map (some (w.heap.size + 1))))] := (hl0_1).grown hg (someNe (by omega))
       have hs0_2 := hl0_2.lt
       have hl1_2 := hm
       have hs1_2 := hl1_2.lt
       have hb2 := hbq.ext hx2
       have hc0 := hb2.cell 0 _ rfl
       have hc1 := hb2.cell 1 _ rfl
       clear hg hm hl0_1 hl1_1)
    | (go_at_call 184; refine (given_src ge gt _ (Hg.out.ext (hx2)) hgF).mono ?_; rintro r wqg ⟨gty, gx, rfl, hgJ, hgx⟩
       have hxg : Ext w wqg := ext_trans (hx2) hgx
       have hl0_g : MapAt wqg w.heap.size [(s_pinned, .iface 162 (.map (some (w.heap.size + 1))))] := MapAt.ext (hl0_2) hgx
       have hs0_g := hl0_g.lt
       have hl1_g : MapAt wqg (w.heap.size + 1) [(s_ids, .iface 23 (.slice ua un uc))] := MapAt.ext (hl1_2) hgx
       have hs1_g := hl1_g.lt
       have HJg := Lib.hid (hgJ.to (S' := (fun b => b ≠ w.heap.size ∧ b ≠ w.heap.size + 1)) (fun b hb _ => by (try simp at hb); omega))
       have hbg := hbq.ext hxg
       have hc0 := hbg.cell 0 _ rfl
       have hc1 := hbg.cell 1 _ rfl
       clear hgJ)
    | (at_mapUpdate; refine wp_put _ rfl _ _ _ 162 rfl 20 Try.underlying162 (w.heap.size + 1) [(s_ids, .iface 23 (.slice ua un uc))] rfl (hl1_g) (by simp [maxLen]) s_organic rfl (by decide) _ rfl ?_; intro w3 hm hg
       have hx3 : Ext w w3 := ext_put (hxg) hg (by omega)
       have hl0_3 : MapAt w3 w.heap.size [(s_pinned, .iface 162 (.map (some (w.heap.size + 1))))] := (hl0_g).grown hg (someNe (by omega))
       have hs0_3 := hl0_3.lt
       have hl1_3 := hm
       have hs1_3 := hl1_3.lt
       have HJg := Lib.hid (JAt.keep (S' := (fun b => b ≠ w.heap.size ∧ b ≠ w.heap.size + 1)) (fun _ h _ => h) (keeps_grown hg (fun b hb e => by simp only [Option.some.injEq] at e; omega)) _ HJg.out)
       have hb3 := hbq.ext hx3
       have hc0 := hb3.cell 0 _ rfl
       have hc1 := hb3.cell 1 _ rfl
       clear hg hm hl0_2 hl1_2)
    | fail)
  go_ret2
  have hx0 : Ext w w3 := hx3
  have hm0 : MapAt w3 w.heap.size [(s_pinned, .iface 162 (.map (some (w.heap.size + 1))))] := hl0_3
  have hm1 : MapAt w3 (w.heap.size + 1) [(s_ids, .iface 23 (.slice ua un uc)), (s_organic, .iface gty gx)] := hl1_3
  have hz0 := hm0.lt
  have hz1 := hm1.lt
  have hne0 : w.heap.size ≠ (w.heap.size + 1) := by omega
  have hw1 : w.heap.size ≤ (w.heap.size + 1) := by have := hx0.sz; omega
  have hp0 : PJ (fun b => b ≠ w.heap.size ∧ b ≠ w.heap.size + 1) w3 [(s_ids, .iface 23 (.slice ua un uc)), (s_organic, .iface gty gx)] ([(s_ids, u)] ++ [(s_organic, jFull gt)]) := ⟨rfl, by simp only [List.cons_append, List.nil_append, List.map_cons, List.map_nil, JsAt]; exact ⟨((Hu.out.ext hx0).to (fun b hb _ => by omega)), HJg.out, trivial⟩⟩
  refine ⟨_, rfl, ?_, hx0⟩
  exact jMap_one hm0 trivial (hp0.wide.map hm1 trivial (by simp))
end Go.Proofs.Ytpkkdmopcfcnkaa

namespace Go.Proofs.Ytpkkdmopcfcnkaa
open Go.RowKit

set_option maxRecDepth 20000 in
set_option maxHeartbeats 4000000 in
theorem pinned_any {S : Nat → Prop} (ua : Option Addr) (un uc : Nat) (u : List ByteArray) (w : World) (ge : El) (gt : T) (hgT : TreeAt S w ge gt) (hgF : FullT gt) (hu : StrsAt S w ua un uc u) (hup : 0 < un) (hub : un ≤ 2147483647) :
    Calls Try.prog 34 #[.slice ua un uc, ge.val] w fun r w' => ∃ g : El, r = .returned (.tuple #[g.val, .bool true]) ∧ TreeAt (fun b => w.heap.size + 1 ≤ b) w' g (treeJ (jMap [(s_pinned, jMap ([(s_ids, J.texts u)] ++ [(s_organic, jFull gt)]))])) ∧ Ext w w' := by
  have HTg := Lib.hid (fun (w1 : World) (x : Ext w w1) => (TreeAt.ext x hgT).any)
  have HU := Lib.hid (fun (w1 : World) (x : Ext w w1) => (hu.ext x).keep (S' := fun b => b < w1.heap.size) (fun b _ hb => hb) (fun _ _ _ => rfl))
  have hul := hu.1
  clear hgT hu
  simp only [El.val]
  go_enter Try.func34, Try.ntmps34
  go_upto_region 1 with fail
  have hW0a : Box ((w.alloc (.cells ge.arr 26)).alloc (.cells (El.arr El0) 26)) w.heap.size ge.arr 26 := (Box.at rfl _ _).alloc _
  have hW0r : Box ((w.alloc (.cells ge.arr 26)).alloc (.cells (El.arr El0) 26)) (w.heap.size + 1) (El.arr El0) 26 := Box.at (by simp) _ _
  have hxW0 : Ext w ((w.alloc (.cells ge.arr 26)).alloc (.cells (El.arr El0) 26)) := ext_alloc (ext_alloc (ext_refl _) _) _
  have hsW0 : ((w.alloc (.cells ge.arr 26)).alloc (.cells (El.arr El0) 26)).heap.size = w.heap.size + 1 + 1 := by simp
  generalize hWW : ((w.alloc (.cells #[.int .i64 ge.k, .string ge.x, .float .f64 ge.d, .bool ge.y, .slice ge.ka ge.n ge.kc, .slice ge.ca ge.m ge.cc] 26)).alloc (.cells #[.int .i64 0, .string ⟨#[]⟩, .float .f64 0, .bool false, .slice none 0 0, .slice none 0 0] 26)) = w0
  have hWW2 : ((w.alloc (.cells ge.arr 26)).alloc (.cells (El.arr El0) 26)) = w0 := hWW
  rw [hWW2] at hW0a hW0r hxW0 hsW0
  clear hWW hWW2
  refine wp_region_order (fun w' => Six w' w.heap.size ge) [1, 3, 4, 5, 8, 9, 11, 12] [1, 3, 4, 5, 0, 2, 6, 7, 8, 9, 10, 11, 12, 13, 14] (by kernel_rfl) (by kernel_rfl) (fun d _ _ _ _ h => by cases d <;> exact h) (by kernel_rfl) ?_
  have hS : (fun w' => Six w' w.heap.size ge) _ := hW0a.Six
  (apply ord_held rfl rfl (by assumption) rfl; (focus ((intro w' hS'); go_simp; (try with_reducible rfl))); (try simp only [Act.put, List.setIfInBounds_toArray, List.set_cons_zero, List.set_cons_succ]))
  (apply ord_held rfl rfl (by assumption) rfl; (focus ((intro w' hS'); go_simp; (try with_reducible rfl))); (try simp only [Act.put, List.setIfInBounds_toArray, List.set_cons_zero, List.set_cons_succ]))
  (apply ord_held rfl rfl (by assumption) rfl; (focus ((intro w' hS'); go_simp; (try with_reducible rfl))); (try simp only [Act.put, List.setIfInBounds_toArray, List.set_cons_zero, List.set_cons_succ]))
  (apply ord_held rfl rfl (by assumption) rfl; (focus ((intro w' hS'); go_simp; (try with_reducible rfl))); (try simp only [Act.put, List.setIfInBounds_toArray, List.set_cons_zero, List.set_cons_succ]))
  (apply ord_loud rfl rfl rfl; intro K hK; go_simp)
  refine (newPinned_any _).mono ?_
  rintro r w1 ⟨rfl, hw1⟩
  have hs1 : w0.drew.heap.size = w.heap.size + 1 + 1 := hsW0
  rw [hs1]
  have hx1 : Ext w0 w1 := by rw [hw1]; exact ext_alloc (ext_drew (ext_refl _)) _
  have hb1 : Box w1 (w.heap.size + 1 + 1) #[.slice none 0 0, .nilIface] 181 := by rw [hw1]; exact Box.at hs1 _ _
  clear hw1
  have hr1 := hW0r.ext hx1
  have hxa1 := ext_trans hxW0 hx1
  have hS1 : (fun w' => Six w' w.heap.size ge) _ := Six.ext hx1 hW0a.Six
  refine hK _ _ (fun _ => hS1) ?_
  clear hK K
  try simp only [El.val]
  (try simp only [Act.put, List.setIfInBounds_toArray, List.set_cons_zero, List.set_cons_succ])
  (apply ord_loud rfl rfl rfl; intro K hK; go_simp)
  refine (pinIds_any _ _ _ _ hb1 _ _ _).mono ?_
  rintro r w2 ⟨rfl, hw2⟩
  have hb2 := hb1.set 0 (.slice ua un uc)
  have hr2 := hr1.other (p := ⟨w.heap.size + 1 + 1, 0, none⟩) (by simp) (.slice ua un uc)
  have hxa2 : Ext w (w1.setCell ⟨w.heap.size + 1 + 1, 0, none⟩ (.slice ua un uc)) := ext_set hxa1 (by simp; omega) _
  have hT2 : (fun w' => Six w' w.heap.size ge) (w1.setCell ⟨w.heap.size + 1 + 1, 0, none⟩ (.slice ua un uc)) := Six.set hS1 (by omega) _
  have hw2e : w2 = w1.setCell ⟨w.heap.size + 1 + 1, 0, none⟩ (.slice ua un uc) := hw2
  rw [← hw2e] at hb2 hr2 hxa2 hT2
  clear hw2 hw2e
  have hS2 : (fun w' => Six w' w.heap.size ge) _ := hT2
  refine hK _ _ (fun _ => hS2) ?_
  clear hK K
  try simp only [El.val]
  (try simp only [Act.put, List.setIfInBounds_toArray, List.set_cons_zero, List.set_cons_succ])
  (apply ord_loud rfl rfl rfl; intro K hK; go_simp)
  refine (pinOrganic_any _ _ _ _ hb2 _ _).mono ?_
  rintro r w3 ⟨rfl, hw3⟩
  have hb3 := hb2.set 1 (.iface 73 ge.val)
  have hr3 := hr2.other (p := ⟨w.heap.size + 1 + 1, 1, none⟩) (by simp) (.iface 73 ge.val)
  have hxa3 : Ext w (w2.setCell ⟨w.heap.size + 1 + 1, 1, none⟩ (.iface 73 ge.val)) := ext_set hxa2 (by simp; omega) _
  have hT3 : (fun w' => Six w' w.heap.size ge) (w2.setCell ⟨w.heap.size + 1 + 1, 1, none⟩ (.iface 73 ge.val)) := Six.set hS2 (by omega) _
  have hw3e : w3 = w2.setCell ⟨w.heap.size + 1 + 1, 1, none⟩ (.iface 73 ge.val) := hw3
  rw [← hw3e] at hb3 hr3 hxa3 hT3
  clear hw3 hw3e
  have hb3 : Box w3 (w.heap.size + 1 + 1) #[.slice ua un uc, .iface 73 ge.val] 181 := hb3
  have hS3 : (fun w' => Six w' w.heap.size ge) _ := hT3
  refine hK _ _ (fun _ => hS3) ?_
  clear hK K
  try simp only [El.val]
  (try simp only [Act.put, List.setIfInBounds_toArray, List.set_cons_zero, List.set_cons_succ])
  (apply ord_loud rfl rfl rfl; intro K hK; go_simp)
  refine (pinned_src (S := fun _ => True) w3 (w.heap.size + 1 + 1) ua un uc (J.texts u) (by simp only [JAt]; exact ⟨_, _, _, rfl, by omega, HU.out w3 hxa3⟩) hup ge gt (HTg.out w3 hxa3) hgF hb3).mono ?_
  rintro r w4 ⟨v, rfl, hJ, hx4⟩
  have hS4 : (fun w' => Six w' w.heap.size ge) _ := Six.ext hx4 hS3
  refine hK _ _ (fun _ => hS4) ?_
  clear hK K
  try simp only [El.val]
  (try simp only [Act.put, List.setIfInBounds_toArray, List.set_cons_zero, List.set_cons_succ])
  (apply ord_held rfl rfl (by assumption) rfl; (focus ((intro w' hS'); go_simp; (try with_reducible rfl))); (try simp only [Act.put, List.setIfInBounds_toArray, List.set_cons_zero, List.set_cons_succ]))
  (apply ord_held rfl rfl (by assumption) rfl; (focus ((intro w' hS'); go_simp; (try with_reducible rfl))); (try simp only [Act.put, List.setIfInBounds_toArray, List.set_cons_zero, List.set_cons_succ]))
  (apply ord_loud rfl rfl rfl; intro K hK; go_simp)
  refine (told_any v _ _ hJ).mono ?_
  rintro r w5 ⟨e2, rfl, hT5, hx5⟩
  have hb := (hr3.ext hx4).ext hx5
  obtain ⟨o0, o1, o2, o3, o4, o5⟩ := hb.six
  have f0 := hb.free 0
  have f1 := hb.free 1
  have f2 := hb.free 2
  have f3 := hb.free 3
  have f4 := hb.free 4
  have f5 := hb.free 5
  have hS5 : (fun w' => Six w' w.heap.size ge) _ := Six.ext hx5 hS4
  refine hK _ _ (fun _ => hS5) ?_
  clear hK K
  try simp only [El.val]
  (try simp only [Act.put, List.setIfInBounds_toArray, List.set_cons_zero, List.set_cons_succ])
  (apply ord_held rfl rfl (by assumption) rfl; (focus ((intro w' hS'); go_simp; (try with_reducible rfl))); (try simp only [Act.put, List.setIfInBounds_toArray, List.set_cons_zero, List.set_cons_succ]))
  (apply ord_held rfl rfl (by assumption) rfl; (focus ((intro w' hS'); go_simp; (try with_reducible rfl))); (try simp only [Act.put, List.setIfInBounds_toArray, List.set_cons_zero, List.set_cons_succ]))
  (apply ord_loud rfl rfl rfl; intro K hK; go_simp)
  have hS6 : (fun w' => Six w' w.heap.size ge) (sto w5 (w.heap.size + 1) e2) := Six.keep (keeps_sto (S := fun b => b = w.heap.size) w5 (by omega) e2) rfl hS5
  refine hK _ _ (fun _ => hS6) ?_
  clear hK K
  (try simp only [Act.put, List.setIfInBounds_toArray, List.set_cons_zero, List.set_cons_succ])
  (apply ord_last rfl rfl rfl (by kernel_rfl); intro K hK; go_simp; refine hK _ _ ?_; clear hK K; (try simp only [Act.put, List.setIfInBounds_toArray, List.set_cons_zero, List.set_cons_succ]))
  refine ord_end ?_
  have hx45 := ext_trans hxa3 (ext_trans hx4 hx5)
  have hs4 := hx4.sz
  have hl3 := hb3.lt
  go_wp2_with fail
  refine post_tree2 rfl rfl (hb.sto e2) rfl ⟨e2, rfl, ?_, ext_sto6 hx45 (by omega) _ _ _ _ _ _⟩
  exact TreeAt.keep (S := fun b => w4.heap.size ≤ b) (S' := fun b => w.heap.size + 1 ≤ b) (fun b hb _ => by omega) (keeps_sto (b := (w.heap.size + 1)) w5 (by omega) e2) _ hT5
end Go.Proofs.Ytpkkdmopcfcnkaa

namespace Go.Proofs.Ytpkkdmopcfcnkaa
open Go.RowKit

set_option maxHeartbeats 2000000 in
theorem table_nothing (w : World) : Calls Try.prog 135 #[.string ⟨#[]⟩] w fun r w' => r = .returned (.string ⟨#[]⟩) ∧ w' = w := by
  go_enter Try.func135, Try.ntmps135
  go_wp2
  go_ret
  exact ⟨rfl, rfl⟩
theorem pairs_no {S : Nat → Prop} (w : World) : PairsAt S w none 0 0 [] := ⟨rfl, Nat.le_refl _, by simp [maxLen], fun _ _ h => by simp at h⟩
theorem pinned_same (u : List ByteArray) (gt : T) (hgF : FullT gt) : sameT (mapT [(s_pinned, mapT (jTree ([(s_ids, J.texts u)] ++ [(s_organic, jFull gt)])))]) (mapT [(s_pinned, mapT (paramsL [] [] ++ [(s_ids, listT (u.map textT)), (s_organic, gt)]))]) = true := by
  refine same_one _ (sameT_map ?_)
  have h0 : SameL (jTree ([(s_ids, J.texts u)] ++ [(s_organic, jFull gt)])) ([(s_ids, listT (u.map textT))] ++ [(s_organic, gt)]) := by
    unfold jTree
    rw [List.map_append]
    exact SameL.append (SameL.one s_ids (sameT_self (listT (u.map textT)) (okT_list fun t ht => by obtain ⟨x, -, rfl⟩ := List.mem_map.1 ht; exact okT_text x))) (SameL.one s_organic (jFull_same gt hgF))
  exact h0
theorem pinned_key (u : List ByteArray) (gt : T) : lastOf (jTree ([(s_ids, J.texts u)] ++ [(s_organic, jFull gt)])) s_ids = some (treeJ (J.texts u)) := by
  have hne : seq s_organic s_ids = false := seq_false.2 (by decide)
  simp [jTree, lastOf_cons, lastOf_nil, seq_self, hne]
set_option maxHeartbeats 4000000 in
theorem pinned_law {S : Nat → Prop} (ua : Option Addr) (un uc : Nat) (u : List ByteArray) (ge : El) (gt : T) (w : World) (huT : StrsAt S w ua un uc u) (hgT : TreeAt S w ge gt) (hgSm : SmallT 1048576 gt) : Calls Try.prog 11 #[.slice ua un uc, ge.val] w fun r w' => r = .returned (.bool true) ∧ Ext w w' := by
  obtain ⟨gk, gx, gd, gy, gka, gn, gkc, gca, gm, gcc⟩ := ge
  have hZu := Lib.hid fun w' (x : Ext w w') => zzFits1_any ua un uc u w' (huT.ext x)
  have hTu := Lib.hid fun w' (x : Ext w w') => (huT.keep (S' := fun _ => True) (fun _ _ _ => trivial) (fun _ _ _ => rfl)).ext x
  have hZg := Lib.hid fun w' (x : Ext w w') => zzFits5_any (⟨gk, gx, gd, gy, gka, gn, gkc, gca, gm, gcc⟩ : El) gt w' (hgT.ext x)
  have hTg := Lib.hid fun w' (x : Ext w w') => (TreeAt.ext x hgT).any
  have hFi := Lib.hid fun w' (x : Ext w w') => filled_any ua un uc u w' (huT.ext x)
  have hul := huT.1
  have hQ := Lib.hid fun w' (x : Ext w w') (hup : 0 < un) (hub : un ≤ 2147483647) (hgF : FullT gt) => pinned_any (S := S) ua un uc u w' (⟨gk, gx, gd, gy, gka, gn, gkc, gca, gm, gcc⟩ : El) gt (TreeAt.ext x hgT) hgF (huT.ext x) hup hub
  clear huT
  clear hgT
  simp only [El.val]
  have hbtg : Box (w.alloc (.cells (⟨gk, gx, gd, gy, gka, gn, gkc, gca, gm, gcc⟩ : El).arr 26)) w.heap.size (⟨gk, gx, gd, gy, gka, gn, gkc, gca, gm, gcc⟩ : El).arr 26 := Box.at rfl _ _
  go_enter Try.func11, Try.ntmps11
  go_wp2_with (first
    | (go_at_call 32; refine (hZu.out _ (by (repeat (first | exact ext_refl _ | assumption | refine ext_alloc ?_ _ | refine ext_drew ?_ | refine ext_set ?_ (by simp) _ | refine ext_trans ?_ (by assumption))))).mono ?_; rintro r wzu ⟨bzu, rfl, hzu, hxzu⟩; have HZu := Lib.hid hzu; clear hzu; have hbtg_wzu := hbtg.ext (show Ext (w.alloc (.cells (⟨gk, gx, gd, gy, gka, gn, gkc, gca, gm, gcc⟩ : El).arr 26)) wzu by (repeat (first | exact ext_refl _ | assumption | refine ext_alloc ?_ _ | refine ext_drew ?_ | refine ext_set ?_ (by simp) _ | refine ext_trans ?_ (by assumption)))); obtain ⟨og0, og1, og2, og3, og4, og5⟩ := hbtg_wzu.six; cases bzu)
    | (go_at_call 14; refine (hZg.out _ (by (repeat (first | exact ext_refl _ | assumption | refine ext_alloc ?_ _ | refine ext_drew ?_ | refine ext_set ?_ (by simp) _ | refine ext_trans ?_ (by assumption))))).mono ?_; rintro r wzg ⟨bzg, rfl, hzg, hxzg⟩; have HZg := Lib.hid hzg; clear hzg; have hbtg_wzg := hbtg.ext (show Ext (w.alloc (.cells (⟨gk, gx, gd, gy, gka, gn, gkc, gca, gm, gcc⟩ : El).arr 26)) wzg by (repeat (first | exact ext_refl _ | assumption | refine ext_alloc ?_ _ | refine ext_drew ?_ | refine ext_set ?_ (by simp) _ | refine ext_trans ?_ (by assumption)))); obtain ⟨og0, og1, og2, og3, og4, og5⟩ := hbtg_wzg.six; cases bzg)
    | (go_at_call 33; refine (hFi.out _ (by (repeat (first | exact ext_refl _ | assumption | refine ext_alloc ?_ _ | refine ext_drew ?_ | refine ext_set ?_ (by simp) _ | refine ext_trans ?_ (by assumption))))).mono ?_; rintro r wfi ⟨bfi, rfl, hfi, hxfi⟩; have Hfi := Lib.hid hfi; clear hfi; have hbtg_wfi := hbtg.ext (show Ext (w.alloc (.cells (⟨gk, gx, gd, gy, gka, gn, gkc, gca, gm, gcc⟩ : El).arr 26)) wfi by (repeat (first | exact ext_refl _ | assumption | refine ext_alloc ?_ _ | refine ext_drew ?_ | refine ext_set ?_ (by simp) _ | refine ext_trans ?_ (by assumption)))); obtain ⟨og0, og1, og2, og3, og4, og5⟩ := hbtg_wfi.six; cases bfi)
    | (go_at_call 15; refine (query_any _ _ _ (hTg.out _ (by (repeat (first | exact ext_refl _ | assumption | refine ext_alloc ?_ _ | refine ext_drew ?_ | refine ext_set ?_ (by simp) _ | refine ext_trans ?_ (by assumption)))))).mono ?_; rintro r wqug ⟨bqug, rfl, hqug, hxqug⟩; have Hqug := Lib.hid hqug; clear hqug; have hbtg_wqug := hbtg.ext (show Ext (w.alloc (.cells (⟨gk, gx, gd, gy, gka, gn, gkc, gca, gm, gcc⟩ : El).arr 26)) wqug by (repeat (first | exact ext_refl _ | assumption | refine ext_alloc ?_ _ | refine ext_drew ?_ | refine ext_set ?_ (by simp) _ | refine ext_trans ?_ (by assumption)))); obtain ⟨og0, og1, og2, og3, og4, og5⟩ := hbtg_wqug.six; cases bqug))
  all_goals (try (go_ret; exact ⟨rfl, by (repeat (first | exact ext_refl _ | assumption | refine ext_alloc ?_ _ | refine ext_drew ?_ | refine ext_set ?_ (by simp) _ | refine ext_trans ?_ (by assumption)))⟩))
  have hup := (Hfi.out (by trivial)).1
  have hub := HZu.out (by trivial)
  have hgq := Hqug.out (by trivial)
  have hgK := hgq.1
  have hgF := FullT.of (N := 1048576) (by omega) hgq.2 hgSm
  have hfit := Lib.hid (pinned_same u gt hgF)
  have hx0 : Ext (w.alloc (.cells (⟨gk, gx, gd, gy, gka, gn, gkc, gca, gm, gcc⟩ : El).arr 26)) wqug := by (repeat (first | exact ext_refl _ | assumption | refine ext_alloc ?_ _ | refine ext_drew ?_ | refine ext_set ?_ (by simp) _ | refine ext_trans ?_ (by assumption)))
  have hx1 : Ext w wqug := by (repeat (first | exact ext_refl _ | assumption | refine ext_alloc ?_ _ | refine ext_drew ?_ | refine ext_set ?_ (by simp) _ | refine ext_trans ?_ (by assumption)))
  refine (hQ.out wqug hx1 hup hub hgF).mono ?_
  rintro r w3 ⟨e, rfl, hT, hx3⟩
  simp only [El.val]
  go_upto_region 6 with fail
  have hb3 : Box (w3.alloc (.cells e.arr 26)) w3.heap.size e.arr 26 := Box.at rfl _ _
  have hxa := ext_alloc (ext_trans hx0 hx3) (.cells e.arr 26)
  have hxb : Ext w (w3.alloc (.cells e.arr 26)) := ext_alloc (ext_trans hx1 hx3) _
  rw [jMap_tree] at hT
  have hT3 := Lib.hid (hT.ext (ext_alloc (ext_refl w3) (.cells e.arr 26)))
  clear hT
  generalize w3.alloc (.cells e.arr 26) = w4 at hb3 hxa hxb hT3 ⊢
  generalize w3.heap.size = b3 at hb3 ⊢
  refine wp_region_order (fun w' => Six w' b3 e ∧ Six w' w.heap.size (⟨gk, gx, gd, gy, gka, gn, gkc, gca, gm, gcc⟩ : El)) [0, 1, 2, 5, 7, 8, 9, 13] [0, 1, 2, 5, 8, 9, 3, 4, 6, 7, 10, 11, 12, 13, 14] (by kernel_rfl) (by kernel_rfl) (fun d _ _ _ _ h => by cases d <;> exact h) (by kernel_rfl) ?_
  have hS : (fun w' => Six w' b3 e ∧ Six w' w.heap.size (⟨gk, gx, gd, gy, gka, gn, gkc, gca, gm, gcc⟩ : El)) _ := ⟨hb3.Six, (hbtg.ext hxa).Six⟩
  (apply ord_held rfl rfl (by assumption) rfl; (focus ((intro w' hS'); go_simp; (try with_reducible rfl))); (try simp only [Act.put, List.setIfInBounds_toArray, List.set_cons_zero, List.set_cons_succ]))
  (apply ord_held rfl rfl (by assumption) rfl; (focus ((intro w' hS'); go_simp; (try with_reducible rfl))); (try simp only [Act.put, List.setIfInBounds_toArray, List.set_cons_zero, List.set_cons_succ]))
  (apply ord_guard rfl rfl (by assumption) rfl; (focus ((intro w' hS'); go_simp; (try with_reducible rfl))); (try simp only [Act.put, List.setIfInBounds_toArray, List.set_cons_zero, List.set_cons_succ]))
  (apply ord_guard rfl rfl (by assumption) rfl; (focus ((intro w' hS'); go_simp; (try with_reducible rfl))); (try simp only [Act.put, List.setIfInBounds_toArray, List.set_cons_zero, List.set_cons_succ]))
  (apply ord_guard rfl rfl (by assumption) rfl; (focus ((intro w' hS'); go_simp; (try with_reducible rfl))); (try simp only [Act.put, List.setIfInBounds_toArray, List.set_cons_zero, List.set_cons_succ]))
  (apply ord_guard rfl rfl (by assumption) rfl; (focus ((intro w' hS'); go_simp; (try with_reducible rfl))); (try simp only [Act.put, List.setIfInBounds_toArray, List.set_cons_zero, List.set_cons_succ]))
  (apply ord_want rfl rfl rfl; intro K hK; go_simp)
  have hxs : Ext w4.drew (w4.drew.alloc (.cells #[.string s_ids] 9)) := ext_alloc (ext_refl _) _
  have hbs : Box (w4.drew.alloc (.cells #[.string s_ids] 9)) w4.drew.heap.size #[.string s_ids] 9 := Box.at rfl _ _
  have hls : StrsAt (fun _ => True) (w4.drew.alloc (.cells #[.string s_ids] 9)) (some ⟨w4.drew.heap.size, 0, none⟩) 1 1 [s_ids] := ⟨rfl, Nat.le_refl _, by simp [maxLen], fun i f hf => by
    cases i with
    | zero => simp at hf; subst hf; exact ⟨_, 0, rfl, trivial, hbs.cell 0 _ rfl⟩
    | succ i => simp at hf⟩
  have hul2 : u.length ≠ 0 := by omega
  have hS1 : (fun w' => Six w' b3 e ∧ Six w' w.heap.size (⟨gk, gx, gd, gy, gka, gn, gkc, gca, gm, gcc⟩ : El)) _ := ⟨Six.ext hxs hS.1, Six.ext hxs hS.2⟩
  refine hK _ _ (fun _ => hS1) ?_
  clear hK K
  try simp only [El.val]
  (try simp only [Act.put, List.setIfInBounds_toArray, List.set_cons_zero, List.set_cons_succ])
  (apply ord_want rfl rfl rfl; intro K hK; go_simp)
  refine (rb_any s_pinned _ e _ 1 1 [s_ids] _ ((hT3.out.ext (ext_trans ((ext_drew (ext_refl w4))) hxs)).any) hls (fun k t hl => ⟨((NoNull.append (noNull_J _ _ (by simp [treeJ, listT, T.kind])) (noNull_J _ _ (by rw [jFull_kind hgK]; decide)))) _ (lastOf_mem hl), fun hh => by
    have hk : s_ids = k := by simpa [hasS, seq_iff] using hh
    subst hk
    rw [pinned_key] at hl
    cases hl
    exact ⟨rfl, by simpa [treeJ, listT, T.kids] using hul2⟩⟩) (by simp [jTree])).mono ?_
  rintro r wr ⟨gr, rfl, hTr, hxr⟩
  have hS2 : (fun w' => Six w' b3 e ∧ Six w' w.heap.size (⟨gk, gx, gd, gy, gka, gn, gkc, gca, gm, gcc⟩ : El)) _ := ⟨Six.ext hxr hS1.1, Six.ext hxr hS1.2⟩
  refine hK _ _ (fun _ => hS2) ?_
  clear hK K
  try simp only [El.val]
  (try simp only [Act.put, List.setIfInBounds_toArray, List.set_cons_zero, List.set_cons_succ])
  (apply ord_want rfl rfl rfl; intro K hK; go_simp)
  refine (texts_any u _ _ _ _ (by omega) (hTu.out _ (ext_trans hxb (ext_trans (ext_trans ((ext_drew (ext_refl w4))) hxs) hxr)))).mono ?_
  rintro r wt ⟨ht, rfl, hTt, hxt⟩
  have hS3 : (fun w' => Six w' b3 e ∧ Six w' w.heap.size (⟨gk, gx, gd, gy, gka, gn, gkc, gca, gm, gcc⟩ : El)) _ := ⟨Six.ext hxt hS2.1, Six.ext hxt hS2.2⟩
  refine hK _ _ (fun _ => hS3) ?_
  clear hK K
  try simp only [El.val]
  (try simp only [Act.put, List.setIfInBounds_toArray, List.set_cons_zero, List.set_cons_succ])
  (apply ord_guard rfl rfl (by assumption) rfl; (focus ((intro w' hS'); go_simp; (try with_reducible rfl))); (try simp only [Act.put, List.setIfInBounds_toArray, List.set_cons_zero, List.set_cons_succ]))
  (apply ord_want rfl rfl rfl; intro K hK; go_simp)
  have hxp : Ext wt (wt.alloc (.cells #[.string s_ids, .int .i64 ht.k, .string ht.x, .float .f64 ht.d, .bool ht.y, .slice ht.ka ht.n ht.kc, .slice ht.ca ht.m ht.cc, .string s_organic, .int .i64 gk, .string gx, .float .f64 gd, .bool gy, .slice gka gn gkc, .slice gca gm gcc] 36)) := ext_alloc (ext_refl _) _
  have hPr := pairs_box (S := fun _ => True) (es := [(s_ids, ht), (s_organic, (⟨gk, gx, gd, gy, gka, gn, gkc, gca, gm, gcc⟩ : El))]) (Box.at (w := wt) rfl #[.string s_ids, .int .i64 ht.k, .string ht.x, .float .f64 ht.d, .bool ht.y, .slice ht.ka ht.n ht.kc, .slice ht.ca ht.m ht.cc, .string s_organic, .int .i64 gk, .string gx, .float .f64 gd, .bool gy, .slice gka gn gkc, .slice gca gm gcc] 36) trivial (by simp [maxLen]) (Pk.append (Pk.one (k := s_ids) ((hTt.ext (hxp)).any)) (Pk.one (k := s_organic) (hTg.out _ (ext_trans hxb (ext_trans (ext_trans (ext_trans (ext_trans ((ext_drew (ext_refl w4))) hxs) hxr) hxt) hxp)))))
  have hS4 : (fun w' => Six w' b3 e ∧ Six w' w.heap.size (⟨gk, gx, gd, gy, gka, gn, gkc, gca, gm, gcc⟩ : El)) _ := ⟨Six.ext hxp hS3.1, Six.ext hxp hS3.2⟩
  refine hK _ _ (fun _ => hS4) ?_
  clear hK K
  try simp only [El.val]
  (try simp only [Act.put, List.setIfInBounds_toArray, List.set_cons_zero, List.set_cons_succ])
  (apply ord_want rfl rfl rfl; intro K hK; go_simp)
  refine (beside_more (S := fun _ => True) s_pinned ⟨#[]⟩ ⟨#[]⟩ none 0 0 [] _ table_nothing 1 (by decide) (by decide) [] (by decide) (by decide) (pairs_no _) wt.heap.size 0 2 2 [(s_ids, listT (u.map textT)), (s_organic, gt)] (hPr.ext (ext_refl _)) (by decide) (by decide)).mono ?_
  rintro r wb ⟨gb, rfl, hTb, hxbb⟩
  have hS5 : (fun w' => Six w' b3 e ∧ Six w' w.heap.size (⟨gk, gx, gd, gy, gka, gn, gkc, gca, gm, gcc⟩ : El)) _ := ⟨Six.ext hxbb hS4.1, Six.ext hxbb hS4.2⟩
  refine hK _ _ (fun _ => hS5) ?_
  clear hK K
  try simp only [El.val]
  (try simp only [Act.put, List.setIfInBounds_toArray, List.set_cons_zero, List.set_cons_succ])
  (apply ord_want rfl rfl rfl; intro K hK; go_simp)
  refine (same_any (S := fun _ => True) _ _ gr gb _ ((hTr.ext (ext_trans (ext_trans (hxt) hxp) hxbb)).any) (hTb.any)).mono ?_
  rintro r ws ⟨rfl, hxs2⟩
  have hS6 : (fun w' => Six w' b3 e ∧ Six w' w.heap.size (⟨gk, gx, gd, gy, gka, gn, gkc, gca, gm, gcc⟩ : El)) _ := ⟨Six.ext hxs2 hS5.1, Six.ext hxs2 hS5.2⟩
  refine hK _ _ (fun _ => hS6) ?_
  clear hK K
  try simp only [El.val]
  rw [hfit.out]
  (try simp only [Act.put, List.setIfInBounds_toArray, List.set_cons_zero, List.set_cons_succ])
  (apply ord_held rfl rfl (by assumption) rfl; (focus ((intro w' hS'); go_simp; (try with_reducible rfl))); (try simp only [Act.put, List.setIfInBounds_toArray, List.set_cons_zero, List.set_cons_succ]))
  (apply ord_last rfl rfl rfl (by kernel_rfl); intro K hK; go_simp; refine hK _ _ ?_; clear hK K; (try simp only [Act.put, List.setIfInBounds_toArray, List.set_cons_zero, List.set_cons_succ]))
  refine ord_end ?_
  go_wp2_with fail
  go_ret
  exact ⟨rfl, ext_trans hxb (ext_trans (ext_trans (ext_trans (ext_trans (ext_trans (ext_trans ((ext_drew (ext_refl w4))) hxs) hxr) hxt) hxp) hxbb) hxs2)⟩
end Go.Proofs.Ytpkkdmopcfcnkaa

namespace Go.Proofs.Ytpkkdmopcfcnkaa
open Go.ChangeShapes Go.WideShapes Go.ChangeAt Go.RowKit

set_option maxRecDepth 100000 in
theorem pinned_lifted (os : Os) (started : os.Started) (H : Type) (enc : TypeId × Value → H) (F : Stop.Interp) :
    ReturnsInHanded {} Try.checked os 11 .any ((Rows.OpenSpec.upto Rows.fnPinnedSpec).pre6 enc Try.prog Try.f11 Rows.fnPinnedUptoRow.domain false) (((Rows.OpenSpec.upto Rows.fnPinnedSpec).at F).post enc Try.prog Try.f11 false true false false) := by
  refine returnsInHanded_of_cond (C := Try.checked) (s := Rows.OpenSpec.upto Rows.fnPinnedSpec) (k := Rows.uptoSmall) rfl ownKnobs started (by kernel_rfl) Try.func11
    (OpenSpec.witness (enc := enc) (C := Try.checked) (s := Rows.OpenSpec.upto Rows.fnPinnedSpec) (k := Rows.uptoSmall) rfl false ⟨#[], #[.slice none 0 0, .agg #[.int .i64 0, .string ⟨#[]⟩, .float .f64 0, .bool false, .slice none 0 0, .slice none 0 0]], []⟩ 8 (by kernel_rfl) (by kernel_rfl) (by kernel_rfl)
      (x := ([.nil, .agg [.lit (.int .i64 0), .lit (.string []), .lit (.float .f64 0), .lit (.bool false), .nil, .nil]], [], [])) (by kernel_rfl) rfl (by kernel_rfl)) ?_
  intro W base args ds gs before hval hW _ hk _
  have hbulk : Rows.uptoBulkAll (ds ++ gs) ≤ 1048576 := of_decide_eq_true hk
  have hW' := hW
  obtain ⟨p, q, hA, hV, rfl, hfz, hnd⟩ := hW'
  have hA : DataW.TrodAll enc Try.prog W 0 (fun _ => true) true Try.f11.params.toList args.toList ds p := hA
  rw [Try.params11] at hA hval
  obtain ⟨v0, vs0, d0, ds0, p0, q0, hargs, rfl, rfl, h0, r0⟩ := trodAll_cons hA
  obtain ⟨v1, vs1, d1, ds1, p1, q1, rfl, rfl, rfl, h1, r1⟩ := trodAll_cons r0
  obtain ⟨rfl, rfl, rfl⟩ := trodAll_nil r1
  obtain rfl : args = #[v0, v1] := by cases args; simp_all
  obtain ⟨rfl, rfl⟩ := trodVars_none hV
  obtain ⟨a0, n0, c0, rfl⟩ := okWide_slice Try.underlying23 (hval 0 23 v0 rfl rfl)
  obtain ⟨fuel0, hf0⟩ := h0
  obtain ⟨a0', n0', c0', ps0, e0, hP0⟩ := strs_of hf0
  simp only [Value.cells, List.cons.injEq, and_true, Value.slice.injEq] at e0
  obtain ⟨rfl, rfl, rfl⟩ := e0
  obtain ⟨fuel1, hf1⟩ := h1
  obtain ⟨e1, t1, he1, hP1, hSm1⟩ := tree_valS (hval 1 26 v1 rfl rfl) hf1
  subst he1
  simp only [List.append_nil, Rows.uptoBulkAll] at hbulk
  refine (pinned_law a0 n0 c0 ps0 e1 t1 W hP0 hP1 (SmallT.mono (show Rows.uptoBulk d1 ≤ 1048576 by omega) hSm1)).mono fun e W' ⟨he, hx⟩ => ?_
  subst he
  exact ⟨_, rfl, post_law (s := Rows.fnPinnedSpec) laidOut (by kernel_rfl) (by kernel_rfl) Try.underlying4 rfl hW rfl hx⟩

/-- A pinned query has its ids in order, and the other query: where what comes in is of bulk at most 1048576. -/
theorem pinned_proved : Rows.FnPinnedUptoSaid :=
  OpenClaim.holds_of_cond 11 Try.f11 rfl rfl rfl rfl rfl rfl rfl ⟨rfl, rfl, rfl, rfl, rfl⟩ rfl rfl rfl rfl rfl (by kernel_rfl) Try.func11 (by kernel_rfl)
    (of_decide_eq_true (by kernel_rfl)) (by unfold Func.isWrapper; first | (rw [if_pos (by decide +kernel)]; kernel_rfl) | (rw [if_neg (by decide +kernel)]; exact ⟨rfl, rfl⟩))
    (fun os started H enc _ F => pinned_lifted os started H enc F)
#print axioms pinned_proved
end Go.Proofs.Ytpkkdmopcfcnkaa

