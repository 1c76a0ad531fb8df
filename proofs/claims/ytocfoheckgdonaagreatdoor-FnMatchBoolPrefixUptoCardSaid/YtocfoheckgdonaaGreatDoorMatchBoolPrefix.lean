/-
  What the builder of a query (MatchBoolPrefix) makes of its settings.
-/
import Derived.Test.YtocfoheckgdonaaGreatDoorNm
namespace Go.Proofs.YtocfoheckgdonaaGreatDoor
open Go.RowKit

set_option maxRecDepth 20000 in
set_option maxHeartbeats 4000000 in
theorem matchBoolPrefix_src {S : Nat → Prop} (w : World) (bq : Nat) (f : ByteArray) (hf_le : f.size ≤ maxLen) (gty : TypeId) (gx : Value) (g : J) (hg : JAt (fun b => b < w.heap.size) w (.iface gty gx) g) (v2 : ByteArray) (o2 : Option T) (h2 : v2 = fT o2) (v3 : ByteArray) (o3 : Option T) (h3 : v3 = fT o3) (v4 : ByteArray) (o4 : Option T) (h4 : v4 = fT o4) (v5 : ByteArray) (o5 : Option T) (h5 : v5 = fT o5) (v6 : Option Addr) (o6 : Option T) (h6 : FW S w v6 o6) (v7 : Option Addr) (o7 : Option T) (h7 : FW S w v7 o7) (v8 : Option Addr) (o8 : Option T) (h8 : FY S w v8 o8) (v9 : ByteArray) (o9 : Option T) (h9 : v9 = fT o9) (v10 : Option Addr) (o10 : Option T) (h10 : FN S w v10 o10) (hbq : Box w bq #[.string f, .iface gty gx, .string v2, .string v3, .string v4, .string v5, .pointer v6, .pointer v7, .pointer v8, .string v9, .pointer v10] 137) :
    Calls Tryz.prog 85 #[.pointer (some ⟨bq, 0, none⟩)] w fun r w' => ∃ v, r = .returned (.tuple #[v, .nilIface]) ∧ JAt (fun _ => True) w' v (jMap [(s_match_bool_prefix, jMap [(f, jMap ([(s_query, g)] ++ jT s_analyzer (o2) ++ jT s_minimum_should_match (o3) ++ jT s_operator (o4) ++ jT s_fuzziness (o5) ++ jW s_prefix_length (o6) ++ jW s_max_expansions (o7) ++ jY s_fuzzy_transpositions (o8) ++ jT s_fuzzy_rewrite (o9) ++ jN s_boost (o10)))])]) ∧ Ext w w' := by
  have tok0 := trivial
  have hblt := hbq.lt
  have H2 := Lib.hid h2
  have H3 := Lib.hid h3
  have H4 := Lib.hid h4
  have H5 := Lib.hid h5
  have H6 := Lib.hid h6
  have H7 := Lib.hid h7
  have H8 := Lib.hid h8
  have H9 := Lib.hid h9
  have H10 := Lib.hid h10
  clear h2 h3 h4 h5 h6 h7 h8 h9 h10
  have Hg := Lib.hid hg
  clear hg
  go_enter Tryz.func85, Tryz.ntmps85
  go_upto_if 29 with (first
    | (at_mapUpdate; have _t := tok0; refine wp_put _ rfl _ _ _ 122 rfl 20 Tryz.underlying122 w.heap.size [] rfl ((MapAt.at (by simp)).alloc _) (by simp [maxLen]) s_match_bool_prefix rfl (by decide) _ rfl ?_; intro w1 hm hg; clear tok0
       have hx1 : Ext w w1 := ext_put (ext_alloc (ext_alloc (ext_refl _) _) _) hg (by omega)
       have hl0_1 := hm
       have hs0_1 := hl0_1.lt
       have hl1_1 : MapAt w1 (w.heap.size + 1) [] := (MapAt.at (by simp)).grown hg (someNe (by omega))
       have hs1_1 := hl1_1.lt
       have hb1 := hbq.ext hx1
       have hq1 := hb1.lt
       have hc0 := hb1.cell 0 _ rfl
       have hc1 := hb1.cell 1 _ rfl
       have hc2 := hb1.cell 2 _ rfl
       have hc3 := hb1.cell 3 _ rfl
       have hc4 := hb1.cell 4 _ rfl
       have hc5 := hb1.cell 5 _ rfl
       have hc6 := hb1.cell 6 _ rfl
       have hc7 := hb1.cell 7 _ rfl
       have hc8 := hb1.cell 8 _ rfl
       have hc9 := hb1.cell 9 _ rfl
       have hc10 := hb1.cell 10 _ rfl
       clear hg hm)
    | (at_mapUpdate; refine wp_put _ rfl _ _ _ 122 rfl 20 Tryz.underlying122 (w.heap.size + 1) [] rfl ((hl1_1).alloc _) (by simp [maxLen]) f rfl hf_le _ rfl ?_; intro w2 hm hg
       have hx2 : Ext w w2 := ext_put (ext_alloc (hx1) _) hg (by omega)
       have hl0_2 : MapAt w2 w.heap.size [(s_match_bool_prefix, .iface 122 (.map (some (w.heap.size + 1))))] := ((hl0_1).alloc _).grown hg (someNe (by omega))
       have hs0_2 := hl0_2.lt
       have hl1_2 := hm
       have hs1_2 := hl1_2.lt
       have hl2_2 : MapAt w2 w1.heap.size [] := (MapAt.at (by simp)).grown hg (someNe (by omega))
       have hs2_2 := hl2_2.lt
       have hb2 := hbq.ext hx2
       have hc0 := hb2.cell 0 _ rfl
       have hc1 := hb2.cell 1 _ rfl
       have hc2 := hb2.cell 2 _ rfl
       have hc3 := hb2.cell 3 _ rfl
       have hc4 := hb2.cell 4 _ rfl
       have hc5 := hb2.cell 5 _ rfl
       have hc6 := hb2.cell 6 _ rfl
       have hc7 := hb2.cell 7 _ rfl
       have hc8 := hb2.cell 8 _ rfl
       have hc9 := hb2.cell 9 _ rfl
       have hc10 := hb2.cell 10 _ rfl
       clear hg hm hl0_1 hl1_1)
    | (at_mapUpdate; refine wp_put _ rfl _ _ _ 122 rfl 20 Tryz.underlying122 w1.heap.size [] rfl (hl2_2) (by simp [maxLen]) s_query rfl (by decide) _ rfl ?_; intro w3 hm hg
       have hx3 : Ext w w3 := ext_put (hx2) hg (by omega)
       have hl0_3 : MapAt w3 w.heap.size [(s_match_bool_prefix, .iface 122 (.map (some (w.heap.size + 1))))] := (hl0_2).grown hg (someNe (by omega))
       have hs0_3 := hl0_3.lt
       have hl1_3 : MapAt w3 (w.heap.size + 1) [(f, .iface 122 (.map (some w1.heap.size)))] := (hl1_2).grown hg (someNe (by omega))
       have hs1_3 := hl1_3.lt
       have hl2_3 := hm
       have hs2_3 := hl2_3.lt
       have hb3 := hbq.ext hx3
       have hc0 := hb3.cell 0 _ rfl
       have hc1 := hb3.cell 1 _ rfl
       have hc2 := hb3.cell 2 _ rfl
       have hc3 := hb3.cell 3 _ rfl
       have hc4 := hb3.cell 4 _ rfl
       have hc5 := hb3.cell 5 _ rfl
       have hc6 := hb3.cell 6 _ rfl
       have hc7 := hb3.cell 7 _ rfl
       have hc8 := hb3.cell 8 _ rfl
       have hc9 := hb3.cell 9 _ rfl
       have hc10 := hb3.cell 10 _ rfl
       clear hg hm hl0_2 hl1_2 hl2_2)
    | fail)
  have hx0 : Ext w w3 := hx3
  have hm0 : MapAt w3 w.heap.size [(s_match_bool_prefix, .iface 122 (.map (some (w.heap.size + 1))))] := hl0_3
  have hm1 : MapAt w3 (w.heap.size + 1) [(f, .iface 122 (.map (some w1.heap.size)))] := hl1_3
  have hm2 : MapAt w3 w1.heap.size [(s_query, .iface gty gx)] := hl2_3
  have hz0 := hm0.lt
  have hz1 := hm1.lt
  have hz2 := hm2.lt
  have hne0 : w.heap.size ≠ w1.heap.size := by omega
  have hne1 : (w.heap.size + 1) ≠ w1.heap.size := by omega
  have hw2 : w.heap.size ≤ w1.heap.size := by have := hx0.sz; omega
  have hp0 : PJ (fun b => b < w.heap.size) w3 [(s_query, .iface gty gx)] ([(s_query, g)]) := ⟨rfl, by simp only [List.map_cons, List.map_nil, JsAt]; exact ⟨(Hg.out.ext hx0), trivial⟩⟩
  go_cut [] (fun wc => Ext w wc ∧ MapAt wc w.heap.size [(s_match_bool_prefix, .iface 122 (.map (some (w.heap.size + 1))))] ∧ MapAt wc (w.heap.size + 1) [(f, .iface 122 (.map (some w1.heap.size)))] ∧ ∃ rp, rp.length ≤ 2 ∧ MapAt wc w1.heap.size rp ∧ PJ (fun b => b < w.heap.size) wc rp ([(s_query, g)] ++ jT s_analyzer (o2)))
  case first => as_aux_lemma =>
    cases hE : v2.toList.isEmpty
    · have hE1 := jT_some (k := s_analyzer) H2.out hE
      go_wp2_with (at_mapUpdate; refine wp_put _ rfl _ _ _ 122 rfl 20 Tryz.underlying122 w1.heap.size [(s_query, .iface gty gx)] rfl hm2 (by simp [maxLen]) s_analyzer rfl (by decide) _ rfl ?_; intro wn hnn hgn)
      go_meet
      case rel =>
        have hxn := ext_put hx0 hgn (by omega)
        refine ⟨hxn, hm0.grown hgn (someNe hne0), hm1.grown hgn (someNe hne1), _, ?_, hnn, ?_⟩
        · rw [List.length_append]; exact Nat.succ_le_succ (by simp)
        · rw [hE1]
          exact PJ.snoc (hp0.moveB hx0 hxn) (by simp only [JAt]; rfl)
    · have hE1 := jT_none (k := s_analyzer) H2.out hE
      go_wp2_with fail
      go_meet
      case rel =>
        refine ⟨hx0, hm0, hm1, [(s_query, .iface gty gx)], by simp, hm2, ?_⟩
        rw [hE1, List.append_nil]
        exact hp0
  case rest =>
    obtain ⟨hxc, hm0_0, hm1_0, rp, hr, hnc, hpc⟩ := hcut
    have hbc := hbq.ext hxc
    have hc0 := hbc.cell 0 _ rfl
    have hc1 := hbc.cell 1 _ rfl
    have hc2 := hbc.cell 2 _ rfl
    have hc3 := hbc.cell 3 _ rfl
    have hc4 := hbc.cell 4 _ rfl
    have hc5 := hbc.cell 5 _ rfl
    have hc6 := hbc.cell 6 _ rfl
    have hc7 := hbc.cell 7 _ rfl
    have hc8 := hbc.cell 8 _ rfl
    have hc9 := hbc.cell 9 _ rfl
    have hc10 := hbc.cell 10 _ rfl
    go_upto_if 40 with fail
    go_cut [] (fun wc => Ext w wc ∧ MapAt wc w.heap.size [(s_match_bool_prefix, .iface 122 (.map (some (w.heap.size + 1))))] ∧ MapAt wc (w.heap.size + 1) [(f, .iface 122 (.map (some w1.heap.size)))] ∧ ∃ rp, rp.length ≤ 3 ∧ MapAt wc w1.heap.size rp ∧ PJ (fun b => b < w.heap.size) wc rp ([(s_query, g)] ++ jT s_analyzer (o2) ++ jT s_minimum_should_match (o3)))
    case first => as_aux_lemma =>
      cases hE : v3.toList.isEmpty
      · have hE1 := jT_some (k := s_minimum_should_match) H3.out hE
        go_wp2_with (at_mapUpdate; refine wp_put _ rfl _ _ _ 122 rfl 20 Tryz.underlying122 w1.heap.size rp rfl hnc (Nat.lt_of_le_of_lt hr (by decide)) s_minimum_should_match rfl (by decide) _ rfl ?_; intro wn hnn hgn)
        go_meet
        case rel =>
          have hxn := ext_put hxc hgn (by omega)
          refine ⟨hxn, hm0_0.grown hgn (someNe hne0), hm1_0.grown hgn (someNe hne1), _, ?_, hnn, ?_⟩
          · rw [List.length_append]; exact Nat.succ_le_succ (by exact hr)
          · rw [hE1]
            exact PJ.snoc (hpc.moveB hxc hxn) (by simp only [JAt]; rfl)
      · have hE1 := jT_none (k := s_minimum_should_match) H3.out hE
        go_wp2_with fail
        go_meet
        case rel =>
          refine ⟨hxc, hm0_0, hm1_0, rp, Nat.le_succ_of_le hr, hnc, ?_⟩
          rw [hE1, List.append_nil]
          exact hpc
    case rest =>
      obtain ⟨hxc, hm0_1, hm1_1, rp, hr, hnc, hpc⟩ := hcut
      have hbc := hbq.ext hxc
      have hc0 := hbc.cell 0 _ rfl
      have hc1 := hbc.cell 1 _ rfl
      have hc2 := hbc.cell 2 _ rfl
      have hc3 := hbc.cell 3 _ rfl
      have hc4 := hbc.cell 4 _ rfl
      have hc5 := hbc.cell 5 _ rfl
      have hc6 := hbc.cell 6 _ rfl
      have hc7 := hbc.cell 7 _ rfl
      have hc8 := hbc.cell 8 _ rfl
      have hc9 := hbc.cell 9 _ rfl
      have hc10 := hbc.cell 10 _ rfl
      go_upto_if 51 with fail
      go_cut [] (fun wc => Ext w wc ∧ MapAt wc w.heap.size [(s_match_bool_prefix, .iface 122 (.map (some (w.heap.size + 1))))] ∧ MapAt wc (w.heap.size + 1) [(f, .iface 122 (.map (some w1.heap.size)))] ∧ ∃ rp, rp.length ≤ 4 ∧ MapAt wc w1.heap.size rp ∧ PJ (fun b => b < w.heap.size) wc rp ([(s_query, g)] ++ jT s_analyzer (o2) ++ jT s_minimum_should_match (o3) ++ jT s_operator (o4)))
      case first => as_aux_lemma =>
        cases hE : v4.toList.isEmpty
        · have hE1 := jT_some (k := s_operator) H4.out hE
          go_wp2_with (at_mapUpdate; refine wp_put _ rfl _ _ _ 122 rfl 20 Tryz.underlying122 w1.heap.size rp rfl hnc (Nat.lt_of_le_of_lt hr (by decide)) s_operator rfl (by decide) _ rfl ?_; intro wn hnn hgn)
          go_meet
          case rel =>
            have hxn := ext_put hxc hgn (by omega)
            refine ⟨hxn, hm0_1.grown hgn (someNe hne0), hm1_1.grown hgn (someNe hne1), _, ?_, hnn, ?_⟩
            · rw [List.length_append]; exact Nat.succ_le_succ (by exact hr)
            · rw [hE1]
              exact PJ.snoc (hpc.moveB hxc hxn) (by simp only [JAt]; rfl)
        · have hE1 := jT_none (k := s_operator) H4.out hE
          go_wp2_with fail
          go_meet
          case rel =>
            refine ⟨hxc, hm0_1, hm1_1, rp, Nat.le_succ_of_le hr, hnc, ?_⟩
            rw [hE1, List.append_nil]
            exact hpc
      case rest =>
        obtain ⟨hxc, hm0_2, hm1_2, rp, hr, hnc, hpc⟩ := hcut
        have hbc := hbq.ext hxc
        have hc0 := hbc.cell 0 _ rfl
        have hc1 := hbc.cell 1 _ rfl
        have hc2 := hbc.cell 2 _ rfl
        have hc3 := hbc.cell 3 _ rfl
        have hc4 := hbc.cell 4 _ rfl
        have hc5 := hbc.cell 5 _ rfl
        have hc6 := hbc.cell 6 _ rfl
        have hc7 := hbc.cell 7 _ rfl
        have hc8 := hbc.cell 8 _ rfl
        have hc9 := hbc.cell 9 _ rfl
        have hc10 := hbc.cell 10 _ rfl
        go_upto_if 62 with fail
        go_cut [] (fun wc => Ext w wc ∧ MapAt wc w.heap.size [(s_match_bool_prefix, .iface 122 (.map (some (w.heap.size + 1))))] ∧ MapAt wc (w.heap.size + 1) [(f, .iface 122 (.map (some w1.heap.size)))] ∧ ∃ rp, rp.length ≤ 5 ∧ MapAt wc w1.heap.size rp ∧ PJ (fun b => b < w.heap.size) wc rp ([(s_query, g)] ++ jT s_analyzer (o2) ++ jT s_minimum_should_match (o3) ++ jT s_operator (o4) ++ jT s_fuzziness (o5)))
        case first => as_aux_lemma =>
          cases hE : v5.toList.isEmpty
          · have hE1 := jT_some (k := s_fuzziness) H5.out hE
            go_wp2_with (at_mapUpdate; refine wp_put _ rfl _ _ _ 122 rfl 20 Tryz.underlying122 w1.heap.size rp rfl hnc (Nat.lt_of_le_of_lt hr (by decide)) s_fuzziness rfl (by decide) _ rfl ?_; intro wn hnn hgn)
            go_meet
            case rel =>
              have hxn := ext_put hxc hgn (by omega)
              refine ⟨hxn, hm0_2.grown hgn (someNe hne0), hm1_2.grown hgn (someNe hne1), _, ?_, hnn, ?_⟩
              · rw [List.length_append]; exact Nat.succ_le_succ (by exact hr)
              · rw [hE1]
                exact PJ.snoc (hpc.moveB hxc hxn) (by simp only [JAt]; rfl)
          · have hE1 := jT_none (k := s_fuzziness) H5.out hE
            go_wp2_with fail
            go_meet
            case rel =>
              refine ⟨hxc, hm0_2, hm1_2, rp, Nat.le_succ_of_le hr, hnc, ?_⟩
              rw [hE1, List.append_nil]
              exact hpc
        case rest =>
          obtain ⟨hxc, hm0_3, hm1_3, rp, hr, hnc, hpc⟩ := hcut
          have hbc := hbq.ext hxc
          have hc0 := hbc.cell 0 _ rfl
          have hc1 := hbc.cell 1 _ rfl
          have hc2 := hbc.cell 2 _ rfl
          have hc3 := hbc.cell 3 _ rfl
          have hc4 := hbc.cell 4 _ rfl
          have hc5 := hbc.cell 5 _ rfl
          have hc6 := hbc.cell 6 _ rfl
          have hc7 := hbc.cell 7 _ rfl
          have hc8 := hbc.cell 8 _ rfl
          have hc9 := hbc.cell 9 _ rfl
          have hc10 := hbc.cell 10 _ rfl
          go_upto_if 73 with fail
          go_cut [] (fun wc => Ext w wc ∧ MapAt wc w.heap.size [(s_match_bool_prefix, .iface 122 (.map (some (w.heap.size + 1))))] ∧ MapAt wc (w.heap.size + 1) [(f, .iface 122 (.map (some w1.heap.size)))] ∧ ∃ rp, rp.length ≤ 6 ∧ MapAt wc w1.heap.size rp ∧ PJ (fun b => b < w.heap.size) wc rp ([(s_query, g)] ++ jT s_analyzer (o2) ++ jT s_minimum_should_match (o3) ++ jT s_operator (o4) ++ jT s_fuzziness (o5) ++ jW s_prefix_length (o6)))
          case first => as_aux_lemma =>
            cases o6 with
            | none =>
              have hv : v6 = none := H6.out
              subst hv
              go_wp2_with fail
              go_meet
              case rel =>
                refine ⟨hxc, hm0_3, hm1_3, rp, Nat.le_succ_of_le hr, hnc, ?_⟩
                rw [show jW s_prefix_length none = [] from rfl, List.append_nil]
                exact hpc
            | some t6 =>
              obtain ⟨cc, z6, hv, hSc, hcc, hzz⟩ := H6.out
              subst hv
              have hcc := hxc.cell hcc
              go_wp2_with (at_mapUpdate; refine wp_put _ rfl _ _ _ 122 rfl 20 Tryz.underlying122 w1.heap.size rp rfl hnc (Nat.lt_of_le_of_lt hr (by decide)) s_prefix_length rfl (by decide) _ rfl ?_; intro wn hnn hgn)
              go_meet
              case rel =>
                have hxn := ext_put hxc hgn (by omega)
                refine ⟨hxn, hm0_3.grown hgn (someNe hne0), hm1_3.grown hgn (someNe hne1), _, ?_, hnn, ?_⟩
                · rw [List.length_append]; exact Nat.succ_le_succ (by exact hr)
                · rw [show jW s_prefix_length (some t6) = [(s_prefix_length, .int z6)] from jW_some hzz]
                  exact PJ.snoc (hpc.moveB hxc hxn) (by simp only [JAt]; rfl)
          case rest =>
            obtain ⟨hxc, hm0_4, hm1_4, rp, hr, hnc, hpc⟩ := hcut
            have hbc := hbq.ext hxc
            have hc0 := hbc.cell 0 _ rfl
            have hc1 := hbc.cell 1 _ rfl
            have hc2 := hbc.cell 2 _ rfl
            have hc3 := hbc.cell 3 _ rfl
            have hc4 := hbc.cell 4 _ rfl
            have hc5 := hbc.cell 5 _ rfl
            have hc6 := hbc.cell 6 _ rfl
            have hc7 := hbc.cell 7 _ rfl
            have hc8 := hbc.cell 8 _ rfl
            have hc9 := hbc.cell 9 _ rfl
            have hc10 := hbc.cell 10 _ rfl
            go_upto_if 86 with fail
            go_cut [] (fun wc => Ext w wc ∧ MapAt wc w.heap.size [(s_match_bool_prefix, .iface 122 (.map (some (w.heap.size + 1))))] ∧ MapAt wc (w.heap.size + 1) [(f, .iface 122 (.map (some w1.heap.size)))] ∧ ∃ rp, rp.length ≤ 7 ∧ MapAt wc w1.heap.size rp ∧ PJ (fun b => b < w.heap.size) wc rp ([(s_query, g)] ++ jT s_analyzer (o2) ++ jT s_minimum_should_match (o3) ++ jT s_operator (o4) ++ jT s_fuzziness (o5) ++ jW s_prefix_length (o6) ++ jW s_max_expansions (o7)))
            case first => as_aux_lemma =>
              cases o7 with
              | none =>
                have hv : v7 = none := H7.out
                subst hv
                go_wp2_with fail
                go_meet
                case rel =>
                  refine ⟨hxc, hm0_4, hm1_4, rp, Nat.le_succ_of_le hr, hnc, ?_⟩
                  rw [show jW s_max_expansions none = [] from rfl, List.append_nil]
                  exact hpc
              | some t7 =>
                obtain ⟨cc, z7, hv, hSc, hcc, hzz⟩ := H7.out
                subst hv
                have hcc := hxc.cell hcc
                go_wp2_with (at_mapUpdate; refine wp_put _ rfl _ _ _ 122 rfl 20 Tryz.underlying122 w1.heap.size rp rfl hnc (Nat.lt_of_le_of_lt hr (by decide)) s_max_expansions rfl (by decide) _ rfl ?_; intro wn hnn hgn)
                go_meet
                case rel =>
                  have hxn := ext_put hxc hgn (by omega)
                  refine ⟨hxn, hm0_4.grown hgn (someNe hne0), hm1_4.grown hgn (someNe hne1), _, ?_, hnn, ?_⟩
                  · rw [List.length_append]; exact Nat.succ_le_succ (by exact hr)
                  · rw [show jW s_max_expansions (some t7) = [(s_max_expansions, .int z7)] from jW_some hzz]
                    exact PJ.snoc (hpc.moveB hxc hxn) (by simp only [JAt]; rfl)
            case rest =>
              obtain ⟨hxc, hm0_5, hm1_5, rp, hr, hnc, hpc⟩ := hcut
              have hbc := hbq.ext hxc
              have hc0 := hbc.cell 0 _ rfl
              have hc1 := hbc.cell 1 _ rfl
              have hc2 := hbc.cell 2 _ rfl
              have hc3 := hbc.cell 3 _ rfl
              have hc4 := hbc.cell 4 _ rfl
              have hc5 := hbc.cell 5 _ rfl
              have hc6 := hbc.cell 6 _ rfl
              have hc7 := hbc.cell 7 _ rfl
              have hc8 := hbc.cell 8 _ rfl
              have hc9 := hbc.cell 9 _ rfl
              have hc10 := hbc.cell 10 _ rfl
              go_upto_if 99 with fail
              go_cut [] (fun wc => Ext w wc ∧ MapAt wc w.heap.size [(s_match_bool_prefix, .iface 122 (.map (some (w.heap.size + 1))))] ∧ MapAt wc (w.heap.size + 1) [(f, .iface 122 (.map (some w1.heap.size)))] ∧ ∃ rp, rp.length ≤ 8 ∧ MapAt wc w1.heap.size rp ∧ PJ (fun b => b < w.heap.size) wc rp ([(s_query, g)] ++ jT s_analyzer (o2) ++ jT s_minimum_should_match (o3) ++ jT s_operator (o4) ++ jT s_fuzziness (o5) ++ jW s_prefix_length (o6) ++ jW s_max_expansions (o7) ++ jY s_fuzzy_transpositions (o8)))
              case first => as_aux_lemma =>
                cases o8 with
                | none =>
                  have hv : v8 = none := H8.out
                  subst hv
                  go_wp2_with fail
                  go_meet
                  case rel =>
                    refine ⟨hxc, hm0_5, hm1_5, rp, Nat.le_succ_of_le hr, hnc, ?_⟩
                    rw [show jY s_fuzzy_transpositions none = [] from rfl, List.append_nil]
                    exact hpc
                | some t8 =>
                  obtain ⟨cc, hv, hSc, hcc⟩ := H8.out
                  subst hv
                  have hcc := hxc.cell hcc
                  go_wp2_with (at_mapUpdate; refine wp_put _ rfl _ _ _ 122 rfl 20 Tryz.underlying122 w1.heap.size rp rfl hnc (Nat.lt_of_le_of_lt hr (by decide)) s_fuzzy_transpositions rfl (by decide) _ rfl ?_; intro wn hnn hgn)
                  go_meet
                  case rel =>
                    have hxn := ext_put hxc hgn (by omega)
                    refine ⟨hxn, hm0_5.grown hgn (someNe hne0), hm1_5.grown hgn (someNe hne1), _, ?_, hnn, ?_⟩
                    · rw [List.length_append]; exact Nat.succ_le_succ (by exact hr)
                    · rw [show jY s_fuzzy_transpositions (some t8) = [(s_fuzzy_transpositions, .yes t8.yes)] from rfl]
                      exact PJ.snoc (hpc.moveB hxc hxn) (by simp only [JAt]; rfl)
              case rest =>
                obtain ⟨hxc, hm0_6, hm1_6, rp, hr, hnc, hpc⟩ := hcut
                have hbc := hbq.ext hxc
                have hc0 := hbc.cell 0 _ rfl
                have hc1 := hbc.cell 1 _ rfl
                have hc2 := hbc.cell 2 _ rfl
                have hc3 := hbc.cell 3 _ rfl
                have hc4 := hbc.cell 4 _ rfl
                have hc5 := hbc.cell 5 _ rfl
                have hc6 := hbc.cell 6 _ rfl
                have hc7 := hbc.cell 7 _ rfl
                have hc8 := hbc.cell 8 _ rfl
                have hc9 := hbc.cell 9 _ rfl
                have hc10 := hbc.cell 10 _ rfl
                go_upto_if 112 with fail
                go_cut [] (fun wc => Ext w wc ∧ MapAt wc w.heap.size [(s_match_bool_prefix, .iface 122 (.map (some (w.heap.size + 1))))] ∧ MapAt wc (w.heap.size + 1) [(f, .iface 122 (.map (some w1.heap.size)))] ∧ ∃ rp, rp.length ≤ 9 ∧ MapAt wc w1.heap.size rp ∧ PJ (fun b => b < w.heap.size) wc rp ([(s_query, g)] ++ jT s_analyzer (o2) ++ jT s_minimum_should_match (o3) ++ jT s_operator (o4) ++ jT s_fuzziness (o5) ++ jW s_prefix_length (o6) ++ jW s_max_expansions (o7) ++ jY s_fuzzy_transpositions (o8) ++ jT s_fuzzy_rewrite (o9)))
                case first => as_aux_lemma =>
                  cases hE : v9.toList.isEmpty
                  · have hE1 := jT_some (k := s_fuzzy_rewrite) H9.out hE
                    go_wp2_with (at_mapUpdate; refine wp_put _ rfl _ _ _ 122 rfl 20 Tryz.underlying122 w1.heap.size rp rfl hnc (Nat.lt_of_le_of_lt hr (by decide)) s_fuzzy_rewrite rfl (by decide) _ rfl ?_; intro wn hnn hgn)
                    go_meet
                    case rel =>
                      have hxn := ext_put hxc hgn (by omega)
                      refine ⟨hxn, hm0_6.grown hgn (someNe hne0), hm1_6.grown hgn (someNe hne1), _, ?_, hnn, ?_⟩
                      · rw [List.length_append]; exact Nat.succ_le_succ (by exact hr)
                      · rw [hE1]
                        exact PJ.snoc (hpc.moveB hxc hxn) (by simp only [JAt]; rfl)
                  · have hE1 := jT_none (k := s_fuzzy_rewrite) H9.out hE
                    go_wp2_with fail
                    go_meet
                    case rel =>
                      refine ⟨hxc, hm0_6, hm1_6, rp, Nat.le_succ_of_le hr, hnc, ?_⟩
                      rw [hE1, List.append_nil]
                      exact hpc
                case rest =>
                  obtain ⟨hxc, hm0_7, hm1_7, rp, hr, hnc, hpc⟩ := hcut
                  have hbc := hbq.ext hxc
                  have hc0 := hbc.cell 0 _ rfl
                  have hc1 := hbc.cell 1 _ rfl
                  have hc2 := hbc.cell 2 _ rfl
                  have hc3 := hbc.cell 3 _ rfl
                  have hc4 := hbc.cell 4 _ rfl
                  have hc5 := hbc.cell 5 _ rfl
                  have hc6 := hbc.cell 6 _ rfl
                  have hc7 := hbc.cell 7 _ rfl
                  have hc8 := hbc.cell 8 _ rfl
                  have hc9 := hbc.cell 9 _ rfl
                  have hc10 := hbc.cell 10 _ rfl
                  go_upto_if 123 with fail
                  go_cut [] (fun wc => Ext w wc ∧ MapAt wc w.heap.size [(s_match_bool_prefix, .iface 122 (.map (some (w.heap.size + 1))))] ∧ MapAt wc (w.heap.size + 1) [(f, .iface 122 (.map (some w1.heap.size)))] ∧ ∃ rp, rp.length ≤ 10 ∧ MapAt wc w1.heap.size rp ∧ PJ (fun b => b < w.heap.size) wc rp ([(s_query, g)] ++ jT s_analyzer (o2) ++ jT s_minimum_should_match (o3) ++ jT s_operator (o4) ++ jT s_fuzziness (o5) ++ jW s_prefix_length (o6) ++ jW s_max_expansions (o7) ++ jY s_fuzzy_transpositions (o8) ++ jT s_fuzzy_rewrite (o9) ++ jN s_boost (o10)))
                  case first => as_aux_lemma =>
                    cases o10 with
                    | none =>
                      have hv : v10 = none := H10.out
                      subst hv
                      go_wp2_with fail
                      go_meet
                      case rel =>
                        refine ⟨hxc, hm0_7, hm1_7, rp, Nat.le_succ_of_le hr, hnc, ?_⟩
                        rw [show jN s_boost none = [] from rfl, List.append_nil]
                        exact hpc
                    | some t10 =>
                      obtain ⟨cc, hv, hSc, hcc⟩ := H10.out
                      subst hv
                      have hcc := hxc.cell hcc
                      go_wp2_with (at_mapUpdate; refine wp_put _ rfl _ _ _ 122 rfl 20 Tryz.underlying122 w1.heap.size rp rfl hnc (Nat.lt_of_le_of_lt hr (by decide)) s_boost rfl (by decide) _ rfl ?_; intro wn hnn hgn)
                      go_meet
                      case rel =>
                        have hxn := ext_put hxc hgn (by omega)
                        refine ⟨hxn, hm0_7.grown hgn (someNe hne0), hm1_7.grown hgn (someNe hne1), _, ?_, hnn, ?_⟩
                        · rw [List.length_append]; exact Nat.succ_le_succ (by exact hr)
                        · rw [show jN s_boost (some t10) = [(s_boost, .num t10.num)] from rfl]
                          exact PJ.snoc (hpc.moveB hxc hxn) (by simp only [JAt]; rfl)
                  case rest =>
                    obtain ⟨hxc, hm0_8, hm1_8, rp, hr, hnc, hpc⟩ := hcut
                    have hbc := hbq.ext hxc
                    have hc0 := hbc.cell 0 _ rfl
                    have hc1 := hbc.cell 1 _ rfl
                    have hc2 := hbc.cell 2 _ rfl
                    have hc3 := hbc.cell 3 _ rfl
                    have hc4 := hbc.cell 4 _ rfl
                    have hc5 := hbc.cell 5 _ rfl
                    have hc6 := hbc.cell 6 _ rfl
                    have hc7 := hbc.cell 7 _ rfl
                    have hc8 := hbc.cell 8 _ rfl
                    have hc9 := hbc.cell 9 _ rfl
                    have hc10 := hbc.cell 10 _ rfl
                    go_wp2_with fail
                    go_ret2
                    refine ⟨_, rfl, ?_, hxc⟩
                    exact jMap_one hm0_8 trivial (jMap_one hm1_8 trivial (hpc.wide.map hnc trivial (by have := hpc.len; omega)))
end Go.Proofs.YtocfoheckgdonaaGreatDoor
