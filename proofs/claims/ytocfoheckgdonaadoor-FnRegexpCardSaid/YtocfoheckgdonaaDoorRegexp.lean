/-
  What the builder of a query (Regexp) makes of its settings.
-/
import Derived.Test.YtocfoheckgdonaaDoorNm
namespace Go.Proofs.YtocfoheckgdonaaDoor
open Go.RowKit

set_option maxRecDepth 20000 in
set_option maxHeartbeats 4000000 in
theorem regexp_src {S : Nat → Prop} (w : World) (bq : Nat) (f : ByteArray) (hf_le : f.size ≤ maxLen) (fv : ByteArray) (v2 : ByteArray) (o2 : Option T) (h2 : v2 = fT o2) (v3 : Option Addr) (o3 : Option T) (h3 : FN S w v3 o3) (v4 : ByteArray) (o4 : Option T) (h4 : v4 = fT o4) (v5 : Option Addr) (o5 : Option T) (h5 : FY S w v5 o5) (v6 : ByteArray) (o6 : Option T) (h6 : v6 = fT o6) (v7 : Option Addr) (o7 : Option T) (h7 : FW S w v7 o7) (hbq : Box w bq #[.string f, .string fv, .string v2, .pointer v3, .string v4, .pointer v5, .string v6, .pointer v7] 113) :
    Calls Tryd.prog 61 #[.pointer (some ⟨bq, 0, none⟩)] w fun r w' => ∃ v, r = .returned (.tuple #[v, .nilIface]) ∧ JAt (fun _ => True) w' v (jMap [(s_regexp, jMap [(f, jMap ([(s_value, J.str fv)] ++ jT s_flags (o2) ++ jW s_max_determinized_states (o7) ++ jN s_boost (o3) ++ jT s_rewrite (o4) ++ jY s_case_insensitive (o5) ++ jT s_plain_name (o6)))])]) ∧ Ext w w' := by
  have tok0 := trivial
  have hblt := hbq.lt
  have H2 := Lib.hid h2
  have H3 := Lib.hid h3
  have H4 := Lib.hid h4
  have H5 := Lib.hid h5
  have H6 := Lib.hid h6
  have H7 := Lib.hid h7
  clear h2 h3 h4 h5 h6 h7
  go_enter Tryd.func61, Tryd.ntmps61
  go_upto_if 23 with (first
    | (at_mapUpdate; have _t := tok0; refine wp_put _ rfl _ _ _ 101 rfl 20 Tryd.underlying101 w.heap.size [] rfl ((MapAt.at (by simp)).alloc _) (by simp [maxLen]) s_regexp rfl (by decide) _ rfl ?_; intro w1 hm hg; clear tok0
       have hx1 : Ext w w1 := ext_put (ext_alloc (ext_alloc (ext_refl _) _) _) hg (by omega)
       have hl0_1 := hm
       have hs0_1 := hl0_1.lt
       have hl1_1 : MapAt w1 (w.heap.size + 1) [] := (MapAt.at (by simp)).grown hg (someNe (by omega))
       have hs1_1 := hl1_1.lt
       have hb1 := hbq.ext hx1
       have hq1 := hb1.lt
       have hc0 := hb1.cell 0 _ rfl
       have hc1 := hb1.cell 1 _ rfl
       have hc2 := hb1.cell 2 _ rfl
       have hc3 := hb1.cell 3 _ rfl
       have hc4 := hb1.cell 4 _ rfl
       have hc5 := hb1.cell 5 _ rfl
       have hc6 := hb1.cell 6 _ rfl
       have hc7 := hb1.cell 7 _ rfl
       clear hg hm)
    | (at_mapUpdate; refine wp_put _ rfl _ _ _ 101 rfl 20 Tryd.underlying101 w1.heap.size [] rfl (MapAt.at (by simp)) (by simp [maxLen]) s_value rfl (by decide) _ rfl ?_; intro w2 hm hg
       have hx2 : Ext w w2 := ext_put (ext_alloc (hx1) _) hg (by omega)
       have hl0_2 : MapAt w2 w.heap.size [(s_regexp, .iface 101 (.map (some (w.heap.size + 1))))] := ((hl0_1).alloc _).grown hg (someNe (by omega))
       have hs0_2 := hl0_2.lt
       have hl1_2 : MapAt w2 (w.heap.size + 1) [] := ((hl1_1).alloc _).grown hg (someNe (by omega))
       have hs1_2 := hl1_2.lt
       have hl2_2 := hm
       have hs2_2 := hl2_2.lt
       have hb2 := hbq.ext hx2
       have hc0 := hb2.cell 0 _ rfl
       have hc1 := hb2.cell 1 _ rfl
       have hc2 := hb2.cell 2 _ rfl
       have hc3 := hb2.cell 3 _ rfl
       have hc4 := hb2.cell 4 _ rfl
       have hc5 := hb2.cell 5 _ rfl
       have hc6 := hb2.cell 6 _ rfl
       have hc7 := hb2.cell 7 _ rfl
       clear hg hm hl0_1 hl1_1)
    | fail)
  have hx0 : Ext w w2 := hx2
  have hm0 : MapAt w2 w.heap.size [(s_regexp, .iface 101 (.map (some (w.heap.size + 1))))] := hl0_2
  have hm1 : MapAt w2 (w.heap.size + 1) [] := hl1_2
  have hm2 : MapAt w2 w1.heap.size [(s_value, .iface 9 (.string fv))] := hl2_2
  have hz0 := hm0.lt
  have hz1 := hm1.lt
  have hz2 := hm2.lt
  have hne0 : w.heap.size ≠ w1.heap.size := by omega
  have hne1 : (w.heap.size + 1) ≠ w1.heap.size := by omega
  have hw2 : w.heap.size ≤ w1.heap.size := by have := hx0.sz; omega
  have hp0 : PJ (fun b => b < w.heap.size) w2 [(s_value, .iface 9 (.string fv))] ([(s_value, J.str fv)]) := ⟨rfl, by simp only [List.map_cons, List.map_nil, JsAt]; exact ⟨(by simp [JAt]), trivial⟩⟩
  go_cut [] (fun wc => Ext w wc ∧ MapAt wc w.heap.size [(s_regexp, .iface 101 (.map (some (w.heap.size + 1))))] ∧ MapAt wc (w.heap.size + 1) [] ∧ ∃ rp, rp.length ≤ 2 ∧ MapAt wc w1.heap.size rp ∧ PJ (fun b => b < w.heap.size) wc rp ([(s_value, J.str fv)] ++ jT s_flags (o2)))
  case first =>
    cases hE : v2.toList.isEmpty
    · have hE1 := jT_some (k := s_flags) H2.out hE
      go_wp2_with (at_mapUpdate; refine wp_put _ rfl _ _ _ 101 rfl 20 Tryd.underlying101 w1.heap.size [(s_value, .iface 9 (.string fv))] rfl hm2 (by simp [maxLen]) s_flags rfl (by decide) _ rfl ?_; intro wn hnn hgn)
      go_meet
      case rel =>
        have hxn := ext_put hx0 hgn (by omega)
        refine ⟨hxn, hm0.grown hgn (someNe hne0), hm1.grown hgn (someNe hne1), _, ?_, hnn, ?_⟩
        · rw [List.length_append]; exact Nat.succ_le_succ (by simp)
        · rw [hE1]
          exact PJ.snoc (hp0.moveB hx0 hxn) (by simp only [JAt]; rfl)
    · have hE1 := jT_none (k := s_flags) H2.out hE
      go_wp2_with fail
      go_meet
      case rel =>
        refine ⟨hx0, hm0, hm1, [(s_value, .iface 9 (.string fv))], by simp, hm2, ?_⟩
        rw [hE1, List.append_nil]
        exact hp0
  case rest =>
    obtain ⟨hxc, hm0_0, hm1_0, rp, hr, hnc, hpc⟩ := hcut
    have hbc := hbq.ext hxc
    have hc0 := hbc.cell 0 _ rfl
    have hc1 := hbc.cell 1 _ rfl
    have hc2 := hbc.cell 2 _ rfl
    have hc3 := hbc.cell 3 _ rfl
    have hc4 := hbc.cell 4 _ rfl
    have hc5 := hbc.cell 5 _ rfl
    have hc6 := hbc.cell 6 _ rfl
    have hc7 := hbc.cell 7 _ rfl
    go_upto_if 34 with fail
    go_cut [] (fun wc => Ext w wc ∧ MapAt wc w.heap.size [(s_regexp, .iface 101 (.map (some (w.heap.size + 1))))] ∧ MapAt wc (w.heap.size + 1) [] ∧ ∃ rp, rp.length ≤ 3 ∧ MapAt wc w1.heap.size rp ∧ PJ (fun b => b < w.heap.size) wc rp ([(s_value, J.str fv)] ++ jT s_flags (o2) ++ jW s_max_determinized_states (o7)))
    case first =>
      cases o7 with
      | none =>
        have hv : v7 = none := H7.out
        subst hv
        go_wp2_with fail
        go_meet
        case rel =>
          refine ⟨hxc, hm0_0, hm1_0, rp, Nat.le_succ_of_le hr, hnc, ?_⟩
          rw [show jW s_max_determinized_states none = [] from rfl, List.append_nil]
          exact hpc
      | some t7 =>
        obtain ⟨cc, z7, hv, hSc, hcc, hzz⟩ := H7.out
        subst hv
        have hcc := hxc.cell hcc
        go_wp2_with (at_mapUpdate; refine wp_put _ rfl _ _ _ 101 rfl 20 Tryd.underlying101 w1.heap.size rp rfl hnc (Nat.lt_of_le_of_lt hr (by decide)) s_max_determinized_states rfl (by decide) _ rfl ?_; intro wn hnn hgn)
        go_meet
        case rel =>
          have hxn := ext_put hxc hgn (by omega)
          refine ⟨hxn, hm0_0.grown hgn (someNe hne0), hm1_0.grown hgn (someNe hne1), _, ?_, hnn, ?_⟩
          · rw [List.length_append]; exact Nat.succ_le_succ (by exact hr)
          · rw [show jW s_max_determinized_states (some t7) = [(s_max_determinized_states, .int z7)] from jW_some hzz]
            exact PJ.snoc (hpc.moveB hxc hxn) (by simp only [JAt]; rfl)
    case rest =>
      obtain ⟨hxc, hm0_1, hm1_1, rp, hr, hnc, hpc⟩ := hcut
      have hbc := hbq.ext hxc
      have hc0 := hbc.cell 0 _ rfl
      have hc1 := hbc.cell 1 _ rfl
      have hc2 := hbc.cell 2 _ rfl
      have hc3 := hbc.cell 3 _ rfl
      have hc4 := hbc.cell 4 _ rfl
      have hc5 := hbc.cell 5 _ rfl
      have hc6 := hbc.cell 6 _ rfl
      have hc7 := hbc.cell 7 _ rfl
      go_upto_if 47 with fail
      go_cut [] (fun wc => Ext w wc ∧ MapAt wc w.heap.size [(s_regexp, .iface 101 (.map (some (w.heap.size + 1))))] ∧ MapAt wc (w.heap.size + 1) [] ∧ ∃ rp, rp.length ≤ 4 ∧ MapAt wc w1.heap.size rp ∧ PJ (fun b => b < w.heap.size) wc rp ([(s_value, J.str fv)] ++ jT s_flags (o2) ++ jW s_max_determinized_states (o7) ++ jN s_boost (o3)))
      case first =>
        cases o3 with
        | none =>
          have hv : v3 = none := H3.out
          subst hv
          go_wp2_with fail
          go_meet
          case rel =>
            refine ⟨hxc, hm0_1, hm1_1, rp, Nat.le_succ_of_le hr, hnc, ?_⟩
            rw [show jN s_boost none = [] from rfl, List.append_nil]
            exact hpc
        | some t3 =>
          obtain ⟨cc, hv, hSc, hcc⟩ := H3.out
          subst hv
          have hcc := hxc.cell hcc
          go_wp2_with (at_mapUpdate; refine wp_put _ rfl _ _ _ 101 rfl 20 Tryd.underlying101 w1.heap.size rp rfl hnc (Nat.lt_of_le_of_lt hr (by decide)) s_boost rfl (by decide) _ rfl ?_; intro wn hnn hgn)
          go_meet
          case rel =>
            have hxn := ext_put hxc hgn (by omega)
            refine ⟨hxn, hm0_1.grown hgn (someNe hne0), hm1_1.grown hgn (someNe hne1), _, ?_, hnn, ?_⟩
            · rw [List.length_append]; exact Nat.succ_le_succ (by exact hr)
            · rw [show jN s_boost (some t3) = [(s_boost, .num t3.num)] from rfl]
              exact PJ.snoc (hpc.moveB hxc hxn) (by simp only [JAt]; rfl)
      case rest =>
        obtain ⟨hxc, hm0_2, hm1_2, rp, hr, hnc, hpc⟩ := hcut
        have hbc := hbq.ext hxc
        have hc0 := hbc.cell 0 _ rfl
        have hc1 := hbc.cell 1 _ rfl
        have hc2 := hbc.cell 2 _ rfl
        have hc3 := hbc.cell 3 _ rfl
        have hc4 := hbc.cell 4 _ rfl
        have hc5 := hbc.cell 5 _ rfl
        have hc6 := hbc.cell 6 _ rfl
        have hc7 := hbc.cell 7 _ rfl
        go_upto_if 60 with fail
        go_cut [] (fun wc => Ext w wc ∧ MapAt wc w.heap.size [(s_regexp, .iface 101 (.map (some (w.heap.size + 1))))] ∧ MapAt wc (w.heap.size + 1) [] ∧ ∃ rp, rp.length ≤ 5 ∧ MapAt wc w1.heap.size rp ∧ PJ (fun b => b < w.heap.size) wc rp ([(s_value, J.str fv)] ++ jT s_flags (o2) ++ jW s_max_determinized_states (o7) ++ jN s_boost (o3) ++ jT s_rewrite (o4)))
        case first =>
          cases hE : v4.toList.isEmpty
          · have hE1 := jT_some (k := s_rewrite) H4.out hE
            go_wp2_with (at_mapUpdate; refine wp_put _ rfl _ _ _ 101 rfl 20 Tryd.underlying101 w1.heap.size rp rfl hnc (Nat.lt_of_le_of_lt hr (by decide)) s_rewrite rfl (by decide) _ rfl ?_; intro wn hnn hgn)
            go_meet
            case rel =>
              have hxn := ext_put hxc hgn (by omega)
              refine ⟨hxn, hm0_2.grown hgn (someNe hne0), hm1_2.grown hgn (someNe hne1), _, ?_, hnn, ?_⟩
              · rw [List.length_append]; exact Nat.succ_le_succ (by exact hr)
              · rw [hE1]
                exact PJ.snoc (hpc.moveB hxc hxn) (by simp only [JAt]; rfl)
          · have hE1 := jT_none (k := s_rewrite) H4.out hE
            go_wp2_with fail
            go_meet
            case rel =>
              refine ⟨hxc, hm0_2, hm1_2, rp, Nat.le_succ_of_le hr, hnc, ?_⟩
              rw [hE1, List.append_nil]
              exact hpc
        case rest =>
          obtain ⟨hxc, hm0_3, hm1_3, rp, hr, hnc, hpc⟩ := hcut
          have hbc := hbq.ext hxc
          have hc0 := hbc.cell 0 _ rfl
          have hc1 := hbc.cell 1 _ rfl
          have hc2 := hbc.cell 2 _ rfl
          have hc3 := hbc.cell 3 _ rfl
          have hc4 := hbc.cell 4 _ rfl
          have hc5 := hbc.cell 5 _ rfl
          have hc6 := hbc.cell 6 _ rfl
          have hc7 := hbc.cell 7 _ rfl
          go_upto_if 71 with fail
          go_cut [] (fun wc => Ext w wc ∧ MapAt wc w.heap.size [(s_regexp, .iface 101 (.map (some (w.heap.size + 1))))] ∧ MapAt wc (w.heap.size + 1) [] ∧ ∃ rp, rp.length ≤ 6 ∧ MapAt wc w1.heap.size rp ∧ PJ (fun b => b < w.heap.size) wc rp ([(s_value, J.str fv)] ++ jT s_flags (o2) ++ jW s_max_determinized_states (o7) ++ jN s_boost (o3) ++ jT s_rewrite (o4) ++ jY s_case_insensitive (o5)))
          case first =>
            cases o5 with
            | none =>
              have hv : v5 = none := H5.out
              subst hv
              go_wp2_with fail
              go_meet
              case rel =>
                refine ⟨hxc, hm0_3, hm1_3, rp, Nat.le_succ_of_le hr, hnc, ?_⟩
                rw [show jY s_case_insensitive none = [] from rfl, List.append_nil]
                exact hpc
            | some t5 =>
              obtain ⟨cc, hv, hSc, hcc⟩ := H5.out
              subst hv
              have hcc := hxc.cell hcc
              go_wp2_with (at_mapUpdate; refine wp_put _ rfl _ _ _ 101 rfl 20 Tryd.underlying101 w1.heap.size rp rfl hnc (Nat.lt_of_le_of_lt hr (by decide)) s_case_insensitive rfl (by decide) _ rfl ?_; intro wn hnn hgn)
              go_meet
              case rel =>
                have hxn := ext_put hxc hgn (by omega)
                refine ⟨hxn, hm0_3.grown hgn (someNe hne0), hm1_3.grown hgn (someNe hne1), _, ?_, hnn, ?_⟩
                · rw [List.length_append]; exact Nat.succ_le_succ (by exact hr)
                · rw [show jY s_case_insensitive (some t5) = [(s_case_insensitive, .yes t5.yes)] from rfl]
                  exact PJ.snoc (hpc.moveB hxc hxn) (by simp only [JAt]; rfl)
          case rest =>
            obtain ⟨hxc, hm0_4, hm1_4, rp, hr, hnc, hpc⟩ := hcut
            have hbc := hbq.ext hxc
            have hc0 := hbc.cell 0 _ rfl
            have hc1 := hbc.cell 1 _ rfl
            have hc2 := hbc.cell 2 _ rfl
            have hc3 := hbc.cell 3 _ rfl
            have hc4 := hbc.cell 4 _ rfl
            have hc5 := hbc.cell 5 _ rfl
            have hc6 := hbc.cell 6 _ rfl
            have hc7 := hbc.cell 7 _ rfl
            go_upto_if 84 with fail
            go_cut [] (fun wc => Ext w wc ∧ MapAt wc w.heap.size [(s_regexp, .iface 101 (.map (some (w.heap.size + 1))))] ∧ MapAt wc (w.heap.size + 1) [] ∧ ∃ rp, rp.length ≤ 7 ∧ MapAt wc w1.heap.size rp ∧ PJ (fun b => b < w.heap.size) wc rp ([(s_value, J.str fv)] ++ jT s_flags (o2) ++ jW s_max_determinized_states (o7) ++ jN s_boost (o3) ++ jT s_rewrite (o4) ++ jY s_case_insensitive (o5) ++ jT s_plain_name (o6)))
            case first =>
              cases hE : v6.toList.isEmpty
              · have hE1 := jT_some (k := s_plain_name) H6.out hE
                go_wp2_with (at_mapUpdate; refine wp_put _ rfl _ _ _ 101 rfl 20 Tryd.underlying101 w1.heap.size rp rfl hnc (Nat.lt_of_le_of_lt hr (by decide)) s_plain_name rfl (by decide) _ rfl ?_; intro wn hnn hgn)
                go_meet
                case rel =>
                  have hxn := ext_put hxc hgn (by omega)
                  refine ⟨hxn, hm0_4.grown hgn (someNe hne0), hm1_4.grown hgn (someNe hne1), _, ?_, hnn, ?_⟩
                  · rw [List.length_append]; exact Nat.succ_le_succ (by exact hr)
                  · rw [hE1]
                    exact PJ.snoc (hpc.moveB hxc hxn) (by simp only [JAt]; rfl)
              · have hE1 := jT_none (k := s_plain_name) H6.out hE
                go_wp2_with fail
                go_meet
                case rel =>
                  refine ⟨hxc, hm0_4, hm1_4, rp, Nat.le_succ_of_le hr, hnc, ?_⟩
                  rw [hE1, List.append_nil]
                  exact hpc
            case rest =>
              obtain ⟨hxc, hm0_5, hm1_5, rp, hr, hnc, hpc⟩ := hcut
              have hbc := hbq.ext hxc
              have hc0 := hbc.cell 0 _ rfl
              have hc1 := hbc.cell 1 _ rfl
              have hc2 := hbc.cell 2 _ rfl
              have hc3 := hbc.cell 3 _ rfl
              have hc4 := hbc.cell 4 _ rfl
              have hc5 := hbc.cell 5 _ rfl
              have hc6 := hbc.cell 6 _ rfl
              have hc7 := hbc.cell 7 _ rfl
              go_wp2_with (first
                | (at_mapUpdate; refine wp_put _ rfl _ _ _ 101 rfl 20 Tryd.underlying101 (w.heap.size + 1) [] rfl hm1_5 (by simp [maxLen]) f rfl hf_le _ rfl ?_; intro wt0 hmt0 hgt
                   have hxt0 := ext_put hxc hgt (by omega)
                   have ht0_0 := hm0_5.grown hgt (someNe (by omega))
                   have hnt0 := hnc.grown hgt (someNe (by omega))
                   have hbt := hbq.ext hxt0
                   have hc0 := hbt.cell 0 _ rfl
                   have hc1 := hbt.cell 1 _ rfl
                   have hc2 := hbt.cell 2 _ rfl
                   have hc3 := hbt.cell 3 _ rfl
                   have hc4 := hbt.cell 4 _ rfl
                   have hc5 := hbt.cell 5 _ rfl
                   have hc6 := hbt.cell 6 _ rfl
                   have hc7 := hbt.cell 7 _ rfl
                   clear hgt hbt))
              go_ret2
              refine ⟨_, rfl, ?_, hxt0⟩
              exact jMap_one ht0_0 trivial (jMap_one hmt0 trivial ((hpc.moveB hxc hxt0).wide.map hnt0 trivial (by have := hpc.len; omega)))
end Go.Proofs.YtocfoheckgdonaaDoor
