/-
  What the builder of a query (TermsSet) makes of its settings.
-/
import Derived.Test.YtocfoheckgdonaaGreatDoorNm
namespace Go.Proofs.YtocfoheckgdonaaGreatDoor
open Go.RowKit

set_option maxRecDepth 20000 in
set_option maxHeartbeats 4000000 in
theorem termsSet_src {S : Nat → Prop} (w : World) (bq : Nat) (f : ByteArray) (hf_le : f.size ≤ maxLen) (ua : Option Addr) (un uc : Nat) (u : J) (hu : JAt (fun b => b < w.heap.size) w (.iface 80 (.slice ua un uc)) u) (v2 : ByteArray) (o2 : Option T) (h2 : v2 = fT o2) (v4 : ByteArray) (o4 : Option T) (h4 : v4 = fT o4) (v5 : Option Addr) (o5 : Option T) (h5 : FN S w v5 o5) (hbq : Box w bq #[.string f, .slice ua un uc, .string v2, .pointer none, .string v4, .pointer v5] 131) :
    Calls Tryz.prog 63 #[.pointer (some ⟨bq, 0, none⟩)] w fun r w' => ∃ v, r = .returned (.tuple #[v, .nilIface]) ∧ JAt (fun _ => True) w' v (jMap [(s_terms_set, jMap [(f, jMap ([(s_terms, u)] ++ jT s_minimum_should_match_field (o2) ++ jN s_boost (o5) ++ jT s_name (o4)))])]) ∧ Ext w w' := by
  have tok0 := trivial
  have hblt := hbq.lt
  have H2 := Lib.hid h2
  have H4 := Lib.hid h4
  have H5 := Lib.hid h5
  clear h2 h4 h5
  have Hu := Lib.hid hu
  clear hu
  have hc0 := (((hbq.alloc (.map #[] 0)).alloc (.map #[] 0)).alloc (.map #[] 0)).cell 0 _ rfl
  have hc1 := (((hbq.alloc (.map #[] 0)).alloc (.map #[] 0)).alloc (.map #[] 0)).cell 1 _ rfl
  have hc2 := (((hbq.alloc (.map #[] 0)).alloc (.map #[] 0)).alloc (.map #[] 0)).cell 2 _ rfl
  have hc3 := (((hbq.alloc (.map #[] 0)).alloc (.map #[] 0)).alloc (.map #[] 0)).cell 3 _ rfl
  have hc4 := (((hbq.alloc (.map #[] 0)).alloc (.map #[] 0)).alloc (.map #[] 0)).cell 4 _ rfl
  have hc5 := (((hbq.alloc (.map #[] 0)).alloc (.map #[] 0)).alloc (.map #[] 0)).cell 5 _ rfl
  go_enter Tryz.func63, Tryz.ntmps63
  go_upto_if 35 with (first
    | (at_mapUpdate; have _t := tok0; refine wp_put _ rfl _ _ _ 122 rfl 20 Tryz.underlying122 (w.heap.size + 1) [] rfl ((MapAt.at (by simp)).alloc _) (by simp [maxLen]) f rfl hf_le _ rfl ?_; intro w1 hm hg; clear tok0
       have hx1 : Ext w w1 := ext_put (ext_alloc (ext_alloc (ext_alloc (ext_refl _) _) _) _) hg (by omega)
       have hl0_1 : MapAt w1 w.heap.size [] := (((MapAt.at (by simp)).alloc _).alloc _).grown hg (someNe (by omega))
       have hs0_1 := hl0_1.lt
       have hl1_1 := hm
       have hs1_1 := hl1_1.lt
       have hl2_1 : MapAt w1 (w.heap.size + 2) [] := (MapAt.at (by simp)).grown hg (someNe (by omega))
       have hs2_1 := hl2_1.lt
       have hb1 := hbq.ext hx1
       have hc0 := hb1.cell 0 _ rfl
       have hc1 := hb1.cell 1 _ rfl
       have hc2 := hb1.cell 2 _ rfl
       have hc3 := hb1.cell 3 _ rfl
       have hc4 := hb1.cell 4 _ rfl
       have hc5 := hb1.cell 5 _ rfl
       clear hg hm)
    | (at_mapUpdate; refine wp_put _ rfl _ _ _ 122 rfl 20 Tryz.underlying122 w.heap.size [] rfl (hl0_1) (by simp [maxLen]) s_terms_set rfl (by decide) _ rfl ?_; intro w2 hm hg
       have hx2 : Ext w w2 := ext_put (hx1) hg (by omega)
       have hl0_2 := hm
       have hs0_2 := hl0_2.lt
       have hl1_2 : MapAt w2 (w.heap.size + 1) [(f, .iface 122 (.map (some (w.heap.size + 2))))] := (hl1_1).grown hg (someNe (by omega))
       have hs1_2 := hl1_2.lt
       have hl2_2 : MapAt w2 (w.heap.size + 2) [] := (hl2_1).grown hg (someNe (by omega))
       have hs2_2 := hl2_2.lt
       have hb2 := hbq.ext hx2
       have hc0 := hb2.cell 0 _ rfl
       have hc1 := hb2.cell 1 _ rfl
       have hc2 := hb2.cell 2 _ rfl
       have hc3 := hb2.cell 3 _ rfl
       have hc4 := hb2.cell 4 _ rfl
       have hc5 := hb2.cell 5 _ rfl
       clear hg hm hl0_1 hl1_1 hl2_1)
    | (at_mapUpdate; refine wp_put _ rfl _ _ _ 122 rfl 20 Tryz.underlying122 (w.heap.size + 2) [] rfl (hl2_2) (by simp [maxLen]) s_terms rfl (by decide) _ rfl ?_; intro w3 hm hg
       have hx3 : Ext w w3 := ext_put (hx2) hg (by omega)
       have hl0_3 : MapAt w3 w.heap.size [(s_terms_set, .iface 122 (.map (some (w.heap.size + 1))))] := (hl0_2).grown hg (someNe (by omega))
       have hs0_3 := hl0_3.lt
       have hl1_3 : MapAt w3 (w.heap.size + 1) [(f, .iface 122 (.map (some (w.heap.size + 2))))] := (hl1_2).grown hg (someNe (by omega))
       have hs1_3 := hl1_3.lt
       have hl2_3 := hm
       have hs2_3 := hl2_3.lt
       have hb3 := hbq.ext hx3
       have hc0 := hb3.cell 0 _ rfl
       have hc1 := hb3.cell 1 _ rfl
       have hc2 := hb3.cell 2 _ rfl
       have hc3 := hb3.cell 3 _ rfl
       have hc4 := hb3.cell 4 _ rfl
       have hc5 := hb3.cell 5 _ rfl
       clear hg hm hl0_2 hl1_2 hl2_2)
    | fail)
  have hx0 : Ext w w3 := hx3
  have hm0 : MapAt w3 w.heap.size [(s_terms_set, .iface 122 (.map (some (w.heap.size + 1))))] := hl0_3
  have hm1 : MapAt w3 (w.heap.size + 1) [(f, .iface 122 (.map (some (w.heap.size + 2))))] := hl1_3
  have hm2 : MapAt w3 (w.heap.size + 2) [(s_terms, .iface 80 (.slice ua un uc))] := hl2_3
  have hz0 := hm0.lt
  have hz1 := hm1.lt
  have hz2 := hm2.lt
  have hne0 : w.heap.size ≠ (w.heap.size + 2) := by omega
  have hne1 : (w.heap.size + 1) ≠ (w.heap.size + 2) := by omega
  have hw2 : w.heap.size ≤ (w.heap.size + 2) := by have := hx0.sz; omega
  have hp0 : PJ (fun b => b < w.heap.size) w3 [(s_terms, .iface 80 (.slice ua un uc))] ([(s_terms, u)]) := ⟨rfl, by simp only [List.map_cons, List.map_nil, JsAt]; exact ⟨(Hu.out.ext hx0), trivial⟩⟩
  go_cut [] (fun wc => Ext w wc ∧ MapAt wc w.heap.size [(s_terms_set, .iface 122 (.map (some (w.heap.size + 1))))] ∧ MapAt wc (w.heap.size + 1) [(f, .iface 122 (.map (some (w.heap.size + 2))))] ∧ ∃ rp, rp.length ≤ 2 ∧ MapAt wc (w.heap.size + 2) rp ∧ PJ (fun b => b < w.heap.size) wc rp ([(s_terms, u)] ++ jT s_minimum_should_match_field (o2)))
  case first =>
    cases hE : v2.toList.isEmpty
    · have hE1 := jT_some (k := s_minimum_should_match_field) H2.out hE
      go_wp2_with (at_mapUpdate; refine wp_put _ rfl _ _ _ 122 rfl 20 Tryz.underlying122 (w.heap.size + 2) [(s_terms, .iface 80 (.slice ua un uc))] rfl hm2 (by simp [maxLen]) s_minimum_should_match_field rfl (by decide) _ rfl ?_; intro wn hnn hgn)
      go_meet
      case rel =>
        have hxn := ext_put hx0 hgn (by omega)
        refine ⟨hxn, hm0.grown hgn (someNe hne0), hm1.grown hgn (someNe hne1), _, ?_, hnn, ?_⟩
        · rw [List.length_append]; exact Nat.succ_le_succ (by simp)
        · rw [hE1]
          exact PJ.snoc (hp0.moveB hx0 hxn) (by simp only [JAt]; rfl)
    · have hE1 := jT_none (k := s_minimum_should_match_field) H2.out hE
      go_wp2_with fail
      go_meet
      case rel =>
        refine ⟨hx0, hm0, hm1, [(s_terms, .iface 80 (.slice ua un uc))], by simp, hm2, ?_⟩
        rw [hE1, List.append_nil]
        exact hp0
  case rest =>
    obtain ⟨hxc, hm0_0, hm1_0, rp, hr, hnc, hpc⟩ := hcut
    have hbc := hbq.ext hxc
    have hc0 := hbc.cell 0 _ rfl
    have hc1 := hbc.cell 1 _ rfl
    have hc2 := hbc.cell 2 _ rfl
    have hc3 := hbc.cell 3 _ rfl
    have hc4 := hbc.cell 4 _ rfl
    have hc5 := hbc.cell 5 _ rfl
    go_upto_if 59 with fail
    go_cut [] (fun wc => Ext w wc ∧ MapAt wc w.heap.size [(s_terms_set, .iface 122 (.map (some (w.heap.size + 1))))] ∧ MapAt wc (w.heap.size + 1) [(f, .iface 122 (.map (some (w.heap.size + 2))))] ∧ ∃ rp, rp.length ≤ 3 ∧ MapAt wc (w.heap.size + 2) rp ∧ PJ (fun b => b < w.heap.size) wc rp ([(s_terms, u)] ++ jT s_minimum_should_match_field (o2) ++ jN s_boost (o5)))
    case first =>
      cases o5 with
      | none =>
        have hv : v5 = none := H5.out
        subst hv
        go_wp2_with fail
        go_meet
        case rel =>
          refine ⟨hxc, hm0_0, hm1_0, rp, Nat.le_succ_of_le hr, hnc, ?_⟩
          rw [show jN s_boost none = [] from rfl, List.append_nil]
          exact hpc
      | some t5 =>
        obtain ⟨cc, hv, hSc, hcc⟩ := H5.out
        subst hv
        have hcc := hxc.cell hcc
        go_wp2_with (at_mapUpdate; refine wp_put _ rfl _ _ _ 122 rfl 20 Tryz.underlying122 (w.heap.size + 2) rp rfl hnc (Nat.lt_of_le_of_lt hr (by decide)) s_boost rfl (by decide) _ rfl ?_; intro wn hnn hgn)
        go_meet
        case rel =>
          have hxn := ext_put hxc hgn (by omega)
          refine ⟨hxn, hm0_0.grown hgn (someNe hne0), hm1_0.grown hgn (someNe hne1), _, ?_, hnn, ?_⟩
          · rw [List.length_append]; exact Nat.succ_le_succ (by exact hr)
          · rw [show jN s_boost (some t5) = [(s_boost, .num t5.num)] from rfl]
            exact PJ.snoc (hpc.moveB hxc hxn) (by simp only [JAt]; rfl)
    case rest =>
      obtain ⟨hxc, hm0_1, hm1_1, rp, hr, hnc, hpc⟩ := hcut
      have hbc := hbq.ext hxc
      have hc0 := hbc.cell 0 _ rfl
      have hc1 := hbc.cell 1 _ rfl
      have hc2 := hbc.cell 2 _ rfl
      have hc3 := hbc.cell 3 _ rfl
      have hc4 := hbc.cell 4 _ rfl
      have hc5 := hbc.cell 5 _ rfl
      go_upto_if 72 with fail
      go_cut [] (fun wc => Ext w wc ∧ MapAt wc w.heap.size [(s_terms_set, .iface 122 (.map (some (w.heap.size + 1))))] ∧ MapAt wc (w.heap.size + 1) [(f, .iface 122 (.map (some (w.heap.size + 2))))] ∧ ∃ rp, rp.length ≤ 4 ∧ MapAt wc (w.heap.size + 2) rp ∧ PJ (fun b => b < w.heap.size) wc rp ([(s_terms, u)] ++ jT s_minimum_should_match_field (o2) ++ jN s_boost (o5) ++ jT s_name (o4)))
      case first =>
        cases hE : v4.toList.isEmpty
        · have hE1 := jT_some (k := s_name) H4.out hE
          go_wp2_with (at_mapUpdate; refine wp_put _ rfl _ _ _ 122 rfl 20 Tryz.underlying122 (w.heap.size + 2) rp rfl hnc (Nat.lt_of_le_of_lt hr (by decide)) s_name rfl (by decide) _ rfl ?_; intro wn hnn hgn)
          go_meet
          case rel =>
            have hxn := ext_put hxc hgn (by omega)
            refine ⟨hxn, hm0_1.grown hgn (someNe hne0), hm1_1.grown hgn (someNe hne1), _, ?_, hnn, ?_⟩
            · rw [List.length_append]; exact Nat.succ_le_succ (by exact hr)
            · rw [hE1]
              exact PJ.snoc (hpc.moveB hxc hxn) (by simp only [JAt]; rfl)
        · have hE1 := jT_none (k := s_name) H4.out hE
          go_wp2_with fail
          go_meet
          case rel =>
            refine ⟨hxc, hm0_1, hm1_1, rp, Nat.le_succ_of_le hr, hnc, ?_⟩
            rw [hE1, List.append_nil]
            exact hpc
      case rest =>
        obtain ⟨hxc, hm0_2, hm1_2, rp, hr, hnc, hpc⟩ := hcut
        have hbc := hbq.ext hxc
        have hc0 := hbc.cell 0 _ rfl
        have hc1 := hbc.cell 1 _ rfl
        have hc2 := hbc.cell 2 _ rfl
        have hc3 := hbc.cell 3 _ rfl
        have hc4 := hbc.cell 4 _ rfl
        have hc5 := hbc.cell 5 _ rfl
        go_wp2_with fail
        go_ret2
        refine ⟨_, rfl, ?_, hxc⟩
        exact jMap_one hm0_2 trivial (jMap_one hm1_2 trivial (hpc.wide.map hnc trivial (by have := hpc.len; omega)))
end Go.Proofs.YtocfoheckgdonaaGreatDoor
