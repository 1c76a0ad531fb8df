/-
  What the builder of a query (DistanceFeature) makes of its settings.
-/
import Derived.Test.YtdpgmmkecghihaaNm
namespace Go.Proofs.Ytdpgmmkecghihaa
open Go.RowKit

set_option maxHeartbeats 4000000 in
theorem distanceFeature_src {S : Nat → Prop} (w : World) (bq : Nat) (f : ByteArray) (fp : ByteArray) (g : ByteArray) (v3 : Option Addr) (o3 : Option T) (h3 : FN S w v3 o3) (v4 : ByteArray) (o4 : Option T) (h4 : v4 = fT o4) (hbq : Box w bq #[.string f, .string fp, .iface 9 (.string g), .pointer v3, .string v4] 169) :
    Calls Try.prog 110 #[.pointer (some ⟨bq, 0, none⟩)] w fun r w' => ∃ v, r = .returned (.tuple #[v, .nilIface]) ∧ JAt (fun _ => True) w' v (jMap [(s_distance_feature, jMap ([(s_field, J.str f)] ++ [(s_pivot, J.str fp)] ++ [(s_origin, J.str g)] ++ jN s_boost (o3) ++ jT s_name (o4)))]) ∧ Ext w w' := by
  have tok0 := trivial
  have hblt := hbq.lt
  have H3 := Lib.hid h3
  have H4 := Lib.hid h4
  clear h3 h4
  go_enter Try.func110, Try.ntmps110
  go_upto_if 60 with (first
    | (at_mapUpdate; have _t := tok0; refine wp_put _ rfl _ _ _ 152 rfl 20 Try.underlying152 w.heap.size [] rfl ((MapAt.at (by simp)).alloc _) (by simp [maxLen]) s_distance_feature rfl (by decide) _ rfl ?_; intro w1 hm hg; clear tok0
       have hx1 : Ext w w1 := ext_put (ext_alloc (ext_alloc (ext_refl _) _) _) hg (by omega)
       have hl0_1 := hm
       have hs0_1 := hl0_1.lt
       have hl1_1 : MapAt w1 (w.heap.size + 1) [] := (MapAt.at (by simp)).grown hg (someNe (by omega))
       have hs1_1 := hl1_1.lt
       have hb1 := hbq.ext hx1
       have hc0 := hb1.cell 0 _ rfl
       have hc1 := hb1.cell 1 _ rfl
       have hc2 := hb1.cell 2 _ rfl
       have hc3 := hb1.cell 3 _ rfl
       have hc4 := hb1.cell 4 _ rfl
       clear hg hm)
    | (at_mapUpdate; refine wp_put _ rfl _ _ _ 152 rfl 20 Try.underlying152 (w.heap.size + 1) [] rfl (hl1_1) (by simp [maxLen]) s_field rfl (by decide) _ rfl ?_; intro w2 hm hg
       have hx2 : Ext w w2 := ext_put (hx1) hg (by omega)
       have hl0_2 : MapAt w2 w.heap.size [(s_distance_feature, .iface 152 (.map (some (w.heap.size + 1))))] := (hl0_1).grown hg (someNe (by omega))
       have hs0_2 := hl0_2.lt
       have hl1_2 := hm
       have hs1_2 := hl1_2.lt
       have hb2 := hbq.ext hx2
       have hc0 := hb2.cell 0 _ rfl
       have hc1 := hb2.cell 1 _ rfl
       have hc2 := hb2.cell 2 _ rfl
       have hc3 := hb2.cell 3 _ rfl
       have hc4 := hb2.cell 4 _ rfl
       clear hg hm hl0_1 hl1_1)
    | (at_mapUpdate; refine wp_put _ rfl _ _ _ 152 rfl 20 Try.underlying152 (w.heap.size + 1) [(s_field, .iface 9 (.string f))] rfl (hl1_2) (by simp [maxLen]) s_pivot rfl (by decide) _ rfl ?_; intro w3 hm hg
       have hx3 : Ext w w3 := ext_put (hx2) hg (by omega)
       have hl0_3 : MapAt w3 w.heap.size [(s_distance_feature, .iface 152 (.map (some (w.heap.size + 1))))] := (hl0_2).grown hg (someNe (by omega))
       have hs0_3 := hl0_3.lt
       have hl1_3 := hm
       have hs1_3 := hl1_3.lt
       have hb3 := hbq.ext hx3
       have hc0 := hb3.cell 0 _ rfl
       have hc1 := hb3.cell 1 _ rfl
       have hc2 := hb3.cell 2 _ rfl
       have hc3 := hb3.cell 3 _ rfl
       have hc4 := hb3.cell 4 _ rfl
       clear hg hm hl0_2 hl1_2)
    | (at_mapUpdate; refine wp_put _ rfl _ _ _ 152 rfl 20 Try.underlying152 (w.heap.size + 1) [(s_field, .iface 9 (.string f)), (s_pivot, .iface 9 (.string fp))] rfl (hl1_3) (by simp [maxLen]) s_origin rfl (by decide) _ rfl ?_; intro w4 hm hg
       have hx4 : Ext w w4 := ext_put (hx3) hg (by omega)
       have hl0_4 : MapAt w4 w.heap.size [(s_distance_feature, .iface 152 (.map (some (w.heap.size + 1))))] := (hl0_3).grown hg (someNe (by omega))
       have hs0_4 := hl0_4.lt
       have hl1_4 := hm
       have hs1_4 := hl1_4.lt
       have hb4 := hbq.ext hx4
       have hc0 := hb4.cell 0 _ rfl
       have hc1 := hb4.cell 1 _ rfl
       have hc2 := hb4.cell 2 _ rfl
       have hc3 := hb4.cell 3 _ rfl
       have hc4 := hb4.cell 4 _ rfl
       clear hg hm hl0_3 hl1_3)
    | fail)
  have hx0 : Ext w w4 := hx4
  have hm0 : MapAt w4 w.heap.size [(s_distance_feature, .iface 152 (.map (some (w.heap.size + 1))))] := hl0_4
  have hm1 : MapAt w4 (w.heap.size + 1) [(s_field, .iface 9 (.string f)), (s_pivot, .iface 9 (.string fp)), (s_origin, .iface 9 (.string g))] := hl1_4
  have hz0 := hm0.lt
  have hz1 := hm1.lt
  have hne0 : w.heap.size ≠ (w.heap.size + 1) := by omega
  have hw1 : w.heap.size ≤ (w.heap.size + 1) := by have := hx0.sz; omega
  have hp0 : PJ (fun b => b < w.heap.size) w4 [(s_field, .iface 9 (.string f)), (s_pivot, .iface 9 (.string fp)), (s_origin, .iface 9 (.string g))] ([(s_field, J.str f)] ++ [(s_pivot, J.str fp)] ++ [(s_origin, J.str g)]) := ⟨rfl, by simp only [List.cons_append, List.nil_append, List.map_cons, List.map_nil, JsAt]; exact ⟨(by simp [JAt]), (by simp [JAt]), (by simp [JAt]), trivial⟩⟩
  go_cut [] (fun wc => Ext w wc ∧ MapAt wc w.heap.size [(s_distance_feature, .iface 152 (.map (some (w.heap.size + 1))))] ∧ ∃ rp, rp.length ≤ 4 ∧ MapAt wc (w.heap.size + 1) rp ∧ PJ (fun b => b < w.heap.size) wc rp ([(s_field, J.str f)] ++ [(s_pivot, J.str fp)] ++ [(s_origin, J.str g)] ++ jN s_boost (o3)))
  case first =>
    cases o3 with
    | none =>
      have hv : v3 = none := H3.out
      subst hv
      go_wp2_with fail
      go_meet
      case rel =>
        refine ⟨hx0, hm0, [(s_field, .iface 9 (.string f)), (s_pivot, .iface 9 (.string fp)), (s_origin, .iface 9 (.string g))], by simp, hm1, ?_⟩
        rw [show jN s_boost none = [] from rfl, List.append_nil]
        exact hp0
    | some t3 =>
      obtain ⟨cc, hv, hSc, hcc⟩ := H3.out
      subst hv
      have hcc := hx0.cell hcc
      go_wp2_with (at_mapUpdate; refine wp_put _ rfl _ _ _ 152 rfl 20 Try.underlying152 (w.heap.size + 1) [(s_field, .iface 9 (.string f)), (s_pivot, .iface 9 (.string fp)), (s_origin, .iface 9 (.string g))] rfl hm1 (by simp [maxLen]) s_boost rfl (by decide) _ rfl ?_; intro wn hnn hgn)
      go_meet
      case rel =>
        have hxn := ext_put hx0 hgn (by omega)
        refine ⟨hxn, hm0.grown hgn (someNe hne0), _, ?_, hnn, ?_⟩
        · rw [List.length_append]; exact Nat.succ_le_succ (by simp)
        · rw [show jN s_boost (some t3) = [(s_boost, .num t3.num)] from rfl]
          exact PJ.snoc (hp0.moveB hx0 hxn) (by simp only [JAt]; rfl)
  case rest =>
    obtain ⟨hxc, hm0_0, rp, hr, hnc, hpc⟩ := hcut
    have hbc := hbq.ext hxc
    have hc0 := hbc.cell 0 _ rfl
    have hc1 := hbc.cell 1 _ rfl
    have hc2 := hbc.cell 2 _ rfl
    have hc3 := hbc.cell 3 _ rfl
    have hc4 := hbc.cell 4 _ rfl
    go_upto_if 70 with fail
    go_cut [] (fun wc => Ext w wc ∧ MapAt wc w.heap.size [(s_distance_feature, .iface 152 (.map (some (w.heap.size + 1))))] ∧ ∃ rp, rp.length ≤ 5 ∧ MapAt wc (w.heap.size + 1) rp ∧ PJ (fun b => b < w.heap.size) wc rp ([(s_field, J.str f)] ++ [(s_pivot, J.str fp)] ++ [(s_origin, J.str g)] ++ jN s_boost (o3) ++ jT s_name (o4)))
    case first =>
      cases hE : v4.toList.isEmpty
      · have hE1 := jT_some (k := s_name) H4.out hE
        go_wp2_with (at_mapUpdate; refine wp_put _ rfl _ _ _ 152 rfl 20 Try.underlying152 (w.heap.size + 1) rp rfl hnc (Nat.lt_of_le_of_lt hr (by decide)) s_name rfl (by decide) _ rfl ?_; intro wn hnn hgn)
        go_meet
        case rel =>
          have hxn := ext_put hxc hgn (by omega)
          refine ⟨hxn, hm0_0.grown hgn (someNe hne0), _, ?_, hnn, ?_⟩
          · rw [List.length_append]; exact Nat.succ_le_succ (by exact hr)
          · rw [hE1]
            exact PJ.snoc (hpc.moveB hxc hxn) (by simp only [JAt]; rfl)
      · have hE1 := jT_none (k := s_name) H4.out hE
        go_wp2_with fail
        go_meet
        case rel =>
          refine ⟨hxc, hm0_0, rp, Nat.le_succ_of_le hr, hnc, ?_⟩
          rw [hE1, List.append_nil]
          exact hpc
    case rest =>
      obtain ⟨hxc, hm0_1, rp, hr, hnc, hpc⟩ := hcut
      have hbc := hbq.ext hxc
      have hc0 := hbc.cell 0 _ rfl
      have hc1 := hbc.cell 1 _ rfl
      have hc2 := hbc.cell 2 _ rfl
      have hc3 := hbc.cell 3 _ rfl
      have hc4 := hbc.cell 4 _ rfl
      go_wp2_with fail
      go_ret2
      refine ⟨_, rfl, ?_, hxc⟩
      exact jMap_one hm0_1 trivial (hpc.wide.map hnc trivial (by have := hpc.len; omega))
end Go.Proofs.Ytdpgmmkecghihaa
