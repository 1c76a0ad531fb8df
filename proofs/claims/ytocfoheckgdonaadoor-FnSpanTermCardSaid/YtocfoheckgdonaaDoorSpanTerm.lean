/-
  What the builder of a query (SpanTerm) makes of its settings.
-/
import Derived.Test.YtocfoheckgdonaaDoorNm
namespace Go.Proofs.YtocfoheckgdonaaDoor
open Go.RowKit

set_option maxRecDepth 20000 in
set_option maxHeartbeats 4000000 in
theorem spanTerm_src {S : Nat → Prop} (w : World) (bq : Nat) (f : ByteArray) (hf_le : f.size ≤ maxLen) (gty : TypeId) (gx : Value) (g : J) (hg : JAt (fun b => b < w.heap.size) w (.iface gty gx) g) (v2 : Option Addr) (o2 : Option T) (h2 : FN S w v2 o2) (v3 : ByteArray) (o3 : Option T) (h3 : v3 = fT o3) (hbq : Box w bq #[.string f, .iface gty gx, .pointer v2, .string v3] 107) :
    Calls Tryd.prog 47 #[.pointer (some ⟨bq, 0, none⟩)] w fun r w' => ∃ v, r = .returned (.tuple #[v, .nilIface]) ∧ JAt (fun _ => True) w' v (jMap [(s_span_term, jMap [(f, jMap ([(s_value, g)] ++ jN s_boost (o2) ++ jT s_query_name (o3)))])]) ∧ Ext w w' := by
  have tok0 := trivial
  have hblt := hbq.lt
  have H2 := Lib.hid h2
  have H3 := Lib.hid h3
  clear h2 h3
  have Hg := Lib.hid hg
  clear hg
  have hc0 := (((hbq.alloc (.map #[] 0)).alloc (.map #[] 0)).alloc (.map #[] 0)).cell 0 _ rfl
  have hc1 := (((hbq.alloc (.map #[] 0)).alloc (.map #[] 0)).alloc (.map #[] 0)).cell 1 _ rfl
  have hc2 := (((hbq.alloc (.map #[] 0)).alloc (.map #[] 0)).alloc (.map #[] 0)).cell 2 _ rfl
  have hc3 := (((hbq.alloc (.map #[] 0)).alloc (.map #[] 0)).alloc (.map #[] 0)).cell 3 _ rfl
  go_enter Tryd.func47, Tryd.ntmps47
  go_upto_if 22 with (first
    | (at_mapUpdate; have _t := tok0; refine wp_put _ rfl _ _ _ 101 rfl 20 Tryd.underlying101 (w.heap.size + 2) [] rfl (MapAt.at (by simp)) (by simp [maxLen]) s_value rfl (by decide) _ rfl ?_; intro w1 hm hg; clear tok0
       have hx1 : Ext w w1 := ext_put (ext_alloc (ext_alloc (ext_alloc (ext_refl _) _) _) _) hg (by omega)
       have hl0_1 : MapAt w1 w.heap.size [] := (((MapAt.at (by simp)).alloc _).alloc _).grown hg (someNe (by omega))
       have hs0_1 := hl0_1.lt
       have hl1_1 : MapAt w1 (w.heap.size + 1) [] := ((MapAt.at (by simp)).alloc _).grown hg (someNe (by omega))
       have hs1_1 := hl1_1.lt
       have hl2_1 := hm
       have hs2_1 := hl2_1.lt
       have hb1 := hbq.ext hx1
       have hc0 := hb1.cell 0 _ rfl
       have hc1 := hb1.cell 1 _ rfl
       have hc2 := hb1.cell 2 _ rfl
       have hc3 := hb1.cell 3 _ rfl
       clear hg hm)
    | fail)
  have hx0 : Ext w w1 := hx1
  have hm0 : MapAt w1 w.heap.size [] := hl0_1
  have hm1 : MapAt w1 (w.heap.size + 1) [] := hl1_1
  have hm2 : MapAt w1 (w.heap.size + 2) [(s_value, .iface gty gx)] := hl2_1
  have hz0 := hm0.lt
  have hz1 := hm1.lt
  have hz2 := hm2.lt
  have hne0 : w.heap.size ≠ (w.heap.size + 2) := by omega
  have hne1 : (w.heap.size + 1) ≠ (w.heap.size + 2) := by omega
  have hw2 : w.heap.size ≤ (w.heap.size + 2) := by have := hx0.sz; omega
  have hp0 : PJ (fun b => b < w.heap.size) w1 [(s_value, .iface gty gx)] ([(s_value, g)]) := ⟨rfl, by simp only [List.map_cons, List.map_nil, JsAt]; exact ⟨(Hg.out.ext hx0), trivial⟩⟩
  go_cut [] (fun wc => Ext w wc ∧ MapAt wc w.heap.size [] ∧ MapAt wc (w.heap.size + 1) [] ∧ ∃ rp, rp.length ≤ 2 ∧ MapAt wc (w.heap.size + 2) rp ∧ PJ (fun b => b < w.heap.size) wc rp ([(s_value, g)] ++ jN s_boost (o2)))
  case first =>
    cases o2 with
    | none =>
      have hv : v2 = none := H2.out
      subst hv
      go_wp2_with fail
      go_meet
      case rel =>
        refine ⟨hx0, hm0, hm1, [(s_value, .iface gty gx)], by simp, hm2, ?_⟩
        rw [show jN s_boost none = [] from rfl, List.append_nil]
        exact hp0
    | some t2 =>
      obtain ⟨cc, hv, hSc, hcc⟩ := H2.out
      subst hv
      have hcc := hx0.cell hcc
      go_wp2_with (at_mapUpdate; refine wp_put _ rfl _ _ _ 101 rfl 20 Tryd.underlying101 (w.heap.size + 2) [(s_value, .iface gty gx)] rfl hm2 (by simp [maxLen]) s_boost rfl (by decide) _ rfl ?_; intro wn hnn hgn)
      go_meet
      case rel =>
        have hxn := ext_put hx0 hgn (by omega)
        refine ⟨hxn, hm0.grown hgn (someNe hne0), hm1.grown hgn (someNe hne1), _, ?_, hnn, ?_⟩
        · rw [List.length_append]; exact Nat.succ_le_succ (by simp)
        · rw [show jN s_boost (some t2) = [(s_boost, .num t2.num)] from rfl]
          exact PJ.snoc (hp0.moveB hx0 hxn) (by simp only [JAt]; rfl)
  case rest =>
    obtain ⟨hxc, hm0_0, hm1_0, rp, hr, hnc, hpc⟩ := hcut
    have hbc := hbq.ext hxc
    have hc0 := hbc.cell 0 _ rfl
    have hc1 := hbc.cell 1 _ rfl
    have hc2 := hbc.cell 2 _ rfl
    have hc3 := hbc.cell 3 _ rfl
    go_upto_if 33 with fail
    go_cut [] (fun wc => Ext w wc ∧ MapAt wc w.heap.size [] ∧ MapAt wc (w.heap.size + 1) [] ∧ ∃ rp, rp.length ≤ 3 ∧ MapAt wc (w.heap.size + 2) rp ∧ PJ (fun b => b < w.heap.size) wc rp ([(s_value, g)] ++ jN s_boost (o2) ++ jT s_query_name (o3)))
    case first =>
      cases hE : v3.toList.isEmpty
      · have hE1 := jT_some (k := s_query_name) H3.out hE
        go_wp2_with (at_mapUpdate; refine wp_put _ rfl _ _ _ 101 rfl 20 Tryd.underlying101 (w.heap.size + 2) rp rfl hnc (Nat.lt_of_le_of_lt hr (by decide)) s_query_name rfl (by decide) _ rfl ?_; intro wn hnn hgn)
        go_meet
        case rel =>
          have hxn := ext_put hxc hgn (by omega)
          refine ⟨hxn, hm0_0.grown hgn (someNe hne0), hm1_0.grown hgn (someNe hne1), _, ?_, hnn, ?_⟩
          · rw [List.length_append]; exact Nat.succ_le_succ (by exact hr)
          · rw [hE1]
            exact PJ.snoc (hpc.moveB hxc hxn) (by simp only [JAt]; rfl)
      · have hE1 := jT_none (k := s_query_name) H3.out hE
        go_wp2_with fail
        go_meet
        case rel =>
          refine ⟨hxc, hm0_0, hm1_0, rp, Nat.le_succ_of_le hr, hnc, ?_⟩
          rw [hE1, List.append_nil]
          exact hpc
    case rest =>
      obtain ⟨hxc, hm0_1, hm1_1, rp, hr, hnc, hpc⟩ := hcut
      have hbc := hbq.ext hxc
      have hc0 := hbc.cell 0 _ rfl
      have hc1 := hbc.cell 1 _ rfl
      have hc2 := hbc.cell 2 _ rfl
      have hc3 := hbc.cell 3 _ rfl
      have tokT0 := trivial
      have tokT1 := trivial
      go_wp2_with (first
        | (at_mapUpdate; have _t := tokT0; clear _t tokT0; refine wp_put _ rfl _ _ _ 101 rfl 20 Tryd.underlying101 (w.heap.size + 1) [] rfl hm1_1 (by simp [maxLen]) f rfl hf_le _ rfl ?_; intro wt0 hmt0 hgt
           have hxt0 := ext_put hxc hgt (by omega)
           have ht0_0 := hm0_1.grown hgt (someNe (by omega))
           have hnt0 := hnc.grown hgt (someNe (by omega))
           have hbt := hbq.ext hxt0
           have hc0 := hbt.cell 0 _ rfl
           have hc1 := hbt.cell 1 _ rfl
           have hc2 := hbt.cell 2 _ rfl
           have hc3 := hbt.cell 3 _ rfl
           clear hgt hbt)
        | (at_mapUpdate; have _t := tokT1; clear _t tokT1; refine wp_put _ rfl _ _ _ 101 rfl 20 Tryd.underlying101 w.heap.size [] rfl ht0_0 (by simp [maxLen]) s_span_term rfl (by decide) _ rfl ?_; intro wt1 hmt1 hgt
           have hxt1 := ext_put hxt0 hgt (by omega)
           have ht1_1 := hmt0.grown hgt (someNe (by omega))
           have hnt1 := hnt0.grown hgt (someNe (by omega))
           have hbt := hbq.ext hxt1
           have hc0 := hbt.cell 0 _ rfl
           have hc1 := hbt.cell 1 _ rfl
           have hc2 := hbt.cell 2 _ rfl
           have hc3 := hbt.cell 3 _ rfl
           clear hgt hbt))
      go_ret2
      refine ⟨_, rfl, ?_, hxt1⟩
      exact jMap_one hmt1 trivial (jMap_one ht1_1 trivial ((hpc.moveB hxc hxt1).wide.map hnt1 trivial (by have := hpc.len; omega)))
end Go.Proofs.YtocfoheckgdonaaDoor
