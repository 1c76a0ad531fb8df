/-
  What the builder of a query (Terms) makes of its settings.
-/
import Derived.Test.YtdpgmmkecghihaaNm
namespace Go.Proofs.Ytdpgmmkecghihaa
open Go.RowKit

set_option maxRecDepth 20000 in
set_option maxHeartbeats 4000000 in
theorem terms_src {S : Nat → Prop} (w : World) (bq : Nat) (f : ByteArray) (hf_le : f.size ≤ maxLen) (ua : Option Addr) (un uc : Nat) (u : J) (hu : JAt (fun b => b < w.heap.size) w (.iface 114 (.slice ua un uc)) u) (v3 : ByteArray) (o3 : Option T) (h3 : v3 = fT o3) (v4 : Option Addr) (o4 : Option T) (h4 : FN S w v4 o4) (hbq : Box w bq #[.string f, .slice ua un uc, .pointer none, .string v3, .pointer v4] 157) :
    Calls Try.prog 70 #[.pointer (some ⟨bq, 0, none⟩)] w fun r w' => ∃ v, r = .returned (.tuple #[v, .nilIface]) ∧ JAt (fun _ => True) w' v (jMap [(s_terms, jMap ([(f, u)] ++ jN s_boost (o4) ++ jT s_name (o3)))]) ∧ Ext w w' := by
  have tok0 := trivial
  have hblt := hbq.lt
  have H3 := Lib.hid h3
  have H4 := Lib.hid h4
  clear h3 h4
  have Hu := Lib.hid hu
  clear hu
  go_enter Try.func70, Try.ntmps70
  go_upto_region 9 with (first
    | (at_mapUpdate; have _t := tok0; refine wp_put _ rfl _ _ _ 152 rfl 20 Try.underlying152 w.heap.size [] rfl ((MapAt.at (by simp)).alloc _) (by simp [maxLen]) s_terms rfl (by decide) _ rfl ?_; intro w1 hm hg; clear tok0
       have hx1 : Ext w w1 := ext_put (ext_alloc (ext_alloc (ext_refl _) _) _) hg (by omega)
       have hl0_1 := hm
       have hs0_1 := hl0_1.lt
       have hl1_1 : MapAt w1 (w.heap.size + 1) [] := (MapAt.at (by simp)).grown hg (someNe (by omega))
       have hs1_1 := hl1_1.lt
       have hb1 := hbq.ext hx1
       have hc0 := hb1.cell 0 _ rfl
       have hc1 := hb1.cell 1 _ rfl
       have hc2 := hb1.cell 2 _ rfl
       have hc3 := hb1.cell 3 _ rfl
       have hc4 := hb1.cell 4 _ rfl
       clear hg hm)
    | fail)
  refine wp_region_order (fun w' => w'.cell? ⟨bq, 0, none⟩ = some (.string f) ∧ w'.cell? ⟨bq, 1, none⟩ = some (.slice ua un uc) ∧ w'.cell? ⟨bq, 2, none⟩ = some (.pointer none) ∧ w'.cell? ⟨bq, 3, none⟩ = some (.string v3) ∧ w'.cell? ⟨bq, 4, none⟩ = some (.pointer v4)) [0, 1, 2, 3, 4, 5, 6, 7, 8, 9] [0, 1, 2, 3, 4, 5, 6, 7, 8, 9, 10] (by kernel_rfl) (by kernel_rfl) (fun d _ _ _ _ h => by cases d <;> exact h) (by kernel_rfl) ?_
  have hS : (fun w' => w'.cell? ⟨bq, 0, none⟩ = some (.string f) ∧ w'.cell? ⟨bq, 1, none⟩ = some (.slice ua un uc) ∧ w'.cell? ⟨bq, 2, none⟩ = some (.pointer none) ∧ w'.cell? ⟨bq, 3, none⟩ = some (.string v3) ∧ w'.cell? ⟨bq, 4, none⟩ = some (.pointer v4)) w1.drew := ⟨hc0, hc1, hc2, hc3, hc4⟩
  iterate 10 (apply ord_held rfl rfl (by assumption) rfl; (focus ((intro w' hS'); go_simp; (try with_reducible rfl))); (try simp only [Act.put, List.setIfInBounds_toArray, List.set_cons_zero, List.set_cons_succ]))
  apply ord_last rfl rfl rfl (by kernel_rfl)
  intro K hK
  refine op_put _ _ _ _ 152 rfl 20 Try.underlying152 (w.heap.size + 1) [] rfl (hl1_1).drew (by simp [maxLen]) f rfl hf_le _ rfl ?_
  intro w2 hm hg
  refine hK _ _ ?_
  clear hK K hS
  refine ord_end ?_
  have hx2 : Ext w w2 := ext_put (ext_drew (hx1)) hg (by omega)
  have hl0_2 : MapAt w2 w.heap.size [(s_terms, .iface 152 (.map (some (w.heap.size + 1))))] := ((hl0_1).drew).grown hg (someNe (by omega))
  have hs0_2 := hl0_2.lt
  have hl1_2 := hm
  have hs1_2 := hl1_2.lt
  have hb2 := hbq.ext hx2
  have hc0 := hb2.cell 0 _ rfl
  have hc1 := hb2.cell 1 _ rfl
  have hc2 := hb2.cell 2 _ rfl
  have hc3 := hb2.cell 3 _ rfl
  have hc4 := hb2.cell 4 _ rfl
  clear hg hm hl0_1 hl1_1
  go_upto_if 49 with fail
  have hx0 : Ext w w2 := hx2
  have hm0 : MapAt w2 w.heap.size [(s_terms, .iface 152 (.map (some (w.heap.size + 1))))] := hl0_2
  have hm1 : MapAt w2 (w.heap.size + 1) [(f, .iface 114 (.slice ua un uc))] := hl1_2
  have hz0 := hm0.lt
  have hz1 := hm1.lt
  have hne0 : w.heap.size ≠ (w.heap.size + 1) := by omega
  have hw1 : w.heap.size ≤ (w.heap.size + 1) := by have := hx0.sz; omega
  have hp0 : PJ (fun b => b < w.heap.size) w2 [(f, .iface 114 (.slice ua un uc))] ([(f, u)]) := ⟨rfl, by simp only [List.cons_append, List.nil_append, List.map_cons, List.map_nil, JsAt]; exact ⟨(Hu.out.ext hx0), trivial⟩⟩
  go_cut [] (fun wc => Ext w wc ∧ MapAt wc w.heap.size [(s_terms, .iface 152 (.map (some (w.heap.size + 1))))] ∧ ∃ rp, rp.length ≤ 2 ∧ MapAt wc (w.heap.size + 1) rp ∧ PJ (fun b => b < w.heap.size) wc rp ([(f, u)] ++ jN s_boost (o4)))
  case first =>
    cases o4 with
    | none =>
      have hv : v4 = none := H4.out
      subst hv
      go_wp2_with fail
      go_meet
      case rel =>
        refine ⟨hx0, hm0, [(f, .iface 114 (.slice ua un uc))], by simp, hm1, ?_⟩
        rw [show jN s_boost none = [] from rfl, List.append_nil]
        exact hp0
    | some t4 =>
      obtain ⟨cc, hv, hSc, hcc⟩ := H4.out
      subst hv
      have hcc := hx0.cell hcc
      go_wp2_with (at_mapUpdate; refine wp_put _ rfl _ _ _ 152 rfl 20 Try.underlying152 (w.heap.size + 1) [(f, .iface 114 (.slice ua un uc))] rfl hm1 (by simp [maxLen]) s_boost rfl (by decide) _ rfl ?_; intro wn hnn hgn)
      go_meet
      case rel =>
        have hxn := ext_put hx0 hgn (by omega)
        refine ⟨hxn, hm0.grown hgn (someNe hne0), _, ?_, hnn, ?_⟩
        · rw [List.length_append]; exact Nat.succ_le_succ (by simp)
        · rw [show jN s_boost (some t4) = [(s_boost, .num t4.num)] from rfl]
          exact PJ.snoc (hp0.moveB hx0 hxn) (by simp only [JAt]; rfl)
  case rest =>
    obtain ⟨hxc, hm0_0, rp, hr, hnc, hpc⟩ := hcut
    have hbc := hbq.ext hxc
    have hc0 := hbc.cell 0 _ rfl
    have hc1 := hbc.cell 1 _ rfl
    have hc2 := hbc.cell 2 _ rfl
    have hc3 := hbc.cell 3 _ rfl
    have hc4 := hbc.cell 4 _ rfl
    go_upto_if 62 with fail
    go_cut [] (fun wc => Ext w wc ∧ MapAt wc w.heap.size [(s_terms, .iface 152 (.map (some (w.heap.size + 1))))] ∧ ∃ rp, rp.length ≤ 3 ∧ MapAt wc (w.heap.size + 1) rp ∧ PJ (fun b => b < w.heap.size) wc rp ([(f, u)] ++ jN s_boost (o4) ++ jT s_name (o3)))
    case first =>
      cases hE : v3.toList.isEmpty
      · have hE1 := jT_some (k := s_name) H3.out hE
        go_wp2_with (at_mapUpdate; refine wp_put _ rfl _ _ _ 152 rfl 20 Try.underlying152 (w.heap.size + 1) rp rfl hnc (Nat.lt_of_le_of_lt hr (by decide)) s_name rfl (by decide) _ rfl ?_; intro wn hnn hgn)
        go_meet
        case rel =>
          have hxn := ext_put hxc hgn (by omega)
          refine ⟨hxn, hm0_0.grown hgn (someNe hne0), _, ?_, hnn, ?_⟩
          · rw [List.length_append]; exact Nat.succ_le_succ (by exact hr)
          · rw [hE1]
            exact PJ.snoc (hpc.moveB hxc hxn) (by simp only [JAt]; rfl)
      · have hE1 := jT_none (k := s_name) H3.out hE
        go_wp2_with fail
        go_meet
        case rel =>
          refine ⟨hxc, hm0_0, rp, Nat.le_succ_of_le hr, hnc, ?_⟩
          rw [hE1, List.append_nil]
          exact hpc
    case rest =>
      obtain ⟨hxc, hm0_1, rp, hr, hnc, hpc⟩ := hcut
      have hbc := hbq.ext hxc
      have hc0 := hbc.cell 0 _ rfl
      have hc1 := hbc.cell 1 _ rfl
      have hc2 := hbc.cell 2 _ rfl
      have hc3 := hbc.cell 3 _ rfl
      have hc4 := hbc.cell 4 _ rfl
      go_wp2_with fail
      go_ret2
      refine ⟨_, rfl, ?_, hxc⟩
      exact jMap_one hm0_1 trivial (hpc.wide.map hnc trivial (by have := hpc.len; omega))
end Go.Proofs.Ytdpgmmkecghihaa
