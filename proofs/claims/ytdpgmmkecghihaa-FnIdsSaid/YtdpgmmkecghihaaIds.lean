/-
  What the builder of a query (Ids) makes of its settings.
-/
import Derived.Test.YtdpgmmkecghihaaNm
namespace Go.Proofs.Ytdpgmmkecghihaa
open Go.RowKit

set_option maxRecDepth 20000 in
set_option maxHeartbeats 4000000 in
theorem ids_src {S : Nat → Prop} (w : World) (bq : Nat) (ua : Option Addr) (un uc : Nat) (u : J) (hu : JAt (fun b => b < w.heap.size) w (.iface 25 (.slice ua un uc)) u) (v2 : Option Addr) (o2 : Option T) (h2 : FN S w v2 o2) (v3 : ByteArray) (o3 : Option T) (h3 : v3 = fT o3) (hbq : Box w bq #[.slice none 0 0, .slice ua un uc, .pointer v2, .string v3] 159) :
    Calls Try.prog 77 #[.pointer (some ⟨bq, 0, none⟩)] w fun r w' => ∃ v, r = .returned (.tuple #[v, .nilIface]) ∧ JAt (fun _ => True) w' v (jMap [(s_ids, jMap ([(s_values, u)] ++ jN s_boost (o2) ++ jT s_name (o3)))]) ∧ Ext w w' := by
  have tok0 := trivial
  have hblt := hbq.lt
  have H2 := Lib.hid h2
  have H3 := Lib.hid h3
  clear h2 h3
  have Hu := Lib.hid hu
  clear hu
  go_enter Try.func77, Try.ntmps77
  go_upto_if 47 with (first
    | (at_mapUpdate; have _t := tok0; refine wp_put _ rfl _ _ _ 152 rfl 20 Try.underlying152 w.heap.size [] rfl ((MapAt.at (by simp)).alloc _) (by simp [maxLen]) s_ids rfl (by decide) _ rfl ?_; intro w1 hm hg; clear tok0
       have hx1 : Ext w w1 := ext_put (ext_alloc (ext_alloc (ext_refl _) _) _) hg (by omega)
       have hl0_1 := hm
       have hs0_1 := hl0_1.lt
       have hl1_1 : MapAt w1 (w.heap.size + 1) [] := (MapAt.at (by simp)).grown hg (someNe (by omega))
       have hs1_1 := hl1_1.lt
       have hb1 := hbq.ext hx1
       have hc0 := hb1.cell 0 _ rfl
       have hc1 := hb1.cell 1 _ rfl
       have hc2 := hb1.cell 2 _ rfl
       have hc3 := hb1.cell 3 _ rfl
       clear hg hm)
    | (at_mapUpdate; refine wp_put _ rfl _ _ _ 152 rfl 20 Try.underlying152 (w.heap.size + 1) [] rfl (hl1_1) (by simp [maxLen]) s_values rfl (by decide) _ rfl ?_; intro w2 hm hg
       have hx2 : Ext w w2 := ext_put (hx1) hg (by omega)
       have hl0_2 : MapAt w2 w.heap.size [(s_ids, .iface 152 (.map (some (w.heap.size + 1))))] := (hl0_1).grown hg (someNe (by omega))
       have hs0_2 := hl0_2.lt
       have hl1_2 := hm
       have hs1_2 := hl1_2.lt
       have hb2 := hbq.ext hx2
       have hc0 := hb2.cell 0 _ rfl
       have hc1 := hb2.cell 1 _ rfl
       have hc2 := hb2.cell 2 _ rfl
       have hc3 := hb2.cell 3 _ rfl
       clear hg hm hl0_1 hl1_1)
    | fail)
  have hx0 : Ext w w2 := hx2
  have hm0 : MapAt w2 w.heap.size [(s_ids, .iface 152 (.map (some (w.heap.size + 1))))] := hl0_2
  have hm1 : MapAt w2 (w.heap.size + 1) [(s_values, .iface 25 (.slice ua un uc))] := hl1_2
  have hz0 := hm0.lt
  have hz1 := hm1.lt
  have hne0 : w.heap.size ≠ (w.heap.size + 1) := by omega
  have hw1 : w.heap.size ≤ (w.heap.size + 1) := by have := hx0.sz; omega
  have hp0 : PJ (fun b => b < w.heap.size) w2 [(s_values, .iface 25 (.slice ua un uc))] ([(s_values, u)]) := ⟨rfl, by simp only [List.cons_append, List.nil_append, List.map_cons, List.map_nil, JsAt]; exact ⟨(Hu.out.ext hx0), trivial⟩⟩
  go_cut [] (fun wc => Ext w wc ∧ MapAt wc w.heap.size [(s_ids, .iface 152 (.map (some (w.heap.size + 1))))] ∧ ∃ rp, rp.length ≤ 2 ∧ MapAt wc (w.heap.size + 1) rp ∧ PJ (fun b => b < w.heap.size) wc rp ([(s_values, u)] ++ jN s_boost (o2)))
  case first =>
    cases o2 with
    | none =>
      have hv : v2 = none := H2.out
      subst hv
      go_wp2_with fail
      go_meet
      case rel =>
        refine ⟨hx0, hm0, [(s_values, .iface 25 (.slice ua un uc))], by simp, hm1, ?_⟩
        rw [show jN s_boost none = [] from rfl, List.append_nil]
        exact hp0
    | some t2 =>
      obtain ⟨cc, hv, hSc, hcc⟩ := H2.out
      subst hv
      have hcc := hx0.cell hcc
      go_wp2_with (at_mapUpdate; refine wp_put _ rfl _ _ _ 152 rfl 20 Try.underlying152 (w.heap.size + 1) [(s_values, .iface 25 (.slice ua un uc))] rfl hm1 (by simp [maxLen]) s_boost rfl (by decide) _ rfl ?_; intro wn hnn hgn)
      go_meet
      case rel =>
        have hxn := ext_put hx0 hgn (by omega)
        refine ⟨hxn, hm0.grown hgn (someNe hne0), _, ?_, hnn, ?_⟩
        · rw [List.length_append]; exact Nat.succ_le_succ (by simp)
        · rw [show jN s_boost (some t2) = [(s_boost, .num t2.num)] from rfl]
          exact PJ.snoc (hp0.moveB hx0 hxn) (by simp only [JAt]; rfl)
  case rest =>
    obtain ⟨hxc, hm0_0, rp, hr, hnc, hpc⟩ := hcut
    have hbc := hbq.ext hxc
    have hc0 := hbc.cell 0 _ rfl
    have hc1 := hbc.cell 1 _ rfl
    have hc2 := hbc.cell 2 _ rfl
    have hc3 := hbc.cell 3 _ rfl
    go_upto_if 60 with fail
    go_cut [] (fun wc => Ext w wc ∧ MapAt wc w.heap.size [(s_ids, .iface 152 (.map (some (w.heap.size + 1))))] ∧ ∃ rp, rp.length ≤ 3 ∧ MapAt wc (w.heap.size + 1) rp ∧ PJ (fun b => b < w.heap.size) wc rp ([(s_values, u)] ++ jN s_boost (o2) ++ jT s_name (o3)))
    case first =>
      cases hE : v3.toList.isEmpty
      · have hE1 := jT_some (k := s_name) H3.out hE
        go_wp2_with (at_mapUpdate; refine wp_put _ rfl _ _ _ 152 rfl 20 Try.underlying152 (w.heap.size + 1) rp rfl hnc (Nat.lt_of_le_of_lt hr (by decide)) s_name rfl (by decide) _ rfl ?_; intro wn hnn hgn)
        go_meet
        case rel =>
          have hxn := ext_put hxc hgn (by omega)
          refine ⟨hxn, hm0_0.grown hgn (someNe hne0), _, ?_, hnn, ?_⟩
          · rw [List.length_append]; exact Nat.succ_le_succ (by exact hr)
          · rw [hE1]
            exact PJ.snoc (hpc.moveB hxc hxn) (by simp only [JAt]; rfl)
      · have hE1 := jT_none (k := s_name) H3.out hE
        go_wp2_with fail
        go_meet
        case rel =>
          refine ⟨hxc, hm0_0, rp, Nat.le_succ_of_le hr, hnc, ?_⟩
          rw [hE1, List.append_nil]
          exact hpc
    case rest =>
      obtain ⟨hxc, hm0_1, rp, hr, hnc, hpc⟩ := hcut
      have hbc := hbq.ext hxc
      have hc0 := hbc.cell 0 _ rfl
      have hc1 := hbc.cell 1 _ rfl
      have hc2 := hbc.cell 2 _ rfl
      have hc3 := hbc.cell 3 _ rfl
      go_wp2_with fail
      go_ret2
      refine ⟨_, rfl, ?_, hxc⟩
      exact jMap_one hm0_1 trivial (hpc.wide.map hnc trivial (by have := hpc.len; omega))
end Go.Proofs.Ytdpgmmkecghihaa
