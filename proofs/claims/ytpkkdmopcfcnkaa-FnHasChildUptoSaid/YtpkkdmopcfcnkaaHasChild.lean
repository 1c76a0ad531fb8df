/-
  What the builder of a query (HasChild) makes of its settings.
-/
import Derived.Test.YtpkkdmopcfcnkaaNm
import Derived.Test.YtpkkdmopcfcnkaaGv
namespace Go.Proofs.Ytpkkdmopcfcnkaa
open Go.RowKit

set_option maxRecDepth 20000 in
set_option maxHeartbeats 4000000 in
theorem hasChild_src {S : Nat → Prop} (w : World) (bq : Nat) (ge : El) (gt : T) (hg : TreeAt (fun _ => True) w ge gt) (hgF : FullT gt) (f : ByteArray) (v2 : Option Addr) (o2 : Option T) (h2 : FN S w v2 o2) (v3 : ByteArray) (o3 : Option T) (h3 : v3 = fT o3) (v4 : Option Addr) (o4 : Option T) (h4 : FW S w v4 o4) (v5 : Option Addr) (o5 : Option T) (h5 : FW S w v5 o5) (v7 : ByteArray) (o7 : Option T) (h7 : v7 = fT o7) (hbq : Box w bq #[.iface 73 ge.val, .string f, .pointer v2, .string v3, .pointer v4, .pointer v5, .pointer none, .string v7, .pointer none] 173) :
    Calls Try.prog 81 #[.pointer (some ⟨bq, 0, none⟩)] w fun r w' => ∃ v, r = .returned (.tuple #[v, .nilIface]) ∧ JAt (fun _ => True) w' v (jMap [(s_has_child, jMap ([(s_query, jFull gt)] ++ [(s_type, J.str f)] ++ jN s_boost (o2) ++ jT s_score_mode (o3) ++ jW s_min_children (o4) ++ jW s_max_children (o5) ++ jT s_name (o7)))]) ∧ Ext w w' := by
  have tok0 := trivial
  have hblt := hbq.lt
  have H2 := Lib.hid h2
  have H3 := Lib.hid h3
  have H4 := Lib.hid h4
  have H5 := Lib.hid h5
  have H7 := Lib.hid h7
  clear h2 h3 h4 h5 h7
  have Hg := Lib.hid hg
  clear hg
  go_enter Try.func81, Try.ntmps81
  go_upto_if 38 with (first
    | (at_mapUpdate; have _t := tok0; refine wp_put _ rfl _ _ _ 162 rfl 20 Try.underlying162 w.heap.size [] rfl ((MapAt.at (by simp)).alloc _) (by simp [maxLen]) s_has_child rfl (by decide) _ rfl ?_; intro w1 hm hg; clear tok0
       have hx1 : Ext w w1 := ext_put (ext_alloc (ext_alloc (ext_refl _) _) _) hg (by omega)
       have hl0_1 := hm
       have hs0_1 := hl0_1.lt
       have hl1_1 : MapAt w1 (w.heap.size + 1) [] := (MapAt.at (by simp)).grown hg (someNe (by omega))
       have hs1_1 := hl1_1.lt
       have hb1 := hbq.ext hx1
       have hc0 := hb1.cell 0 _ rfl
       have hc1 := hb1.cell 1 _ rfl
       have hc2 := hb1.cell 2 _ rfl
       have hc3 := hb1.cell 3 _ rfl
       have hc4 := hb1.cell 4 _ rfl
       have hc5 := hb1.cell 5 _ rfl
       have hc6 := hb1.cell 6 _ rfl
       have hc7 := hb1.cell 7 _ rfl
       have hc8 := hb1.cell 8 _ rfl
       clear hg hm)
    | (go_at_call 184; refine (given_src ge gt _ (Hg.out.ext (hx1)) hgF).mono ?_; rintro r wqg ⟨gty, gx, rfl, hgJ, hgx⟩
       have hxg : Ext w wqg := ext_trans (hx1) hgx
       have hl0_g : MapAt wqg w.heap.size [(s_has_child, .iface 162 (.map (some (w.heap.size + 1))))] := MapAt.ext (hl0_1) hgx
       have hs0_g := hl0_g.lt
       have hl1_g : MapAt wqg (w.heap.size + 1) [] := MapAt.ext (hl1_1) hgx
       have hs1_g := hl1_g.lt
       have HJg := Lib.hid (hgJ.to (S' := (fun b => b ≠ w.heap.size ∧ b ≠ w.heap.size + 1)) (fun b hb _ => by (try simp at hb); omega))
       have hbg := hbq.ext hxg
       have hc0 := hbg.cell 0 _ rfl
       have hc1 := hbg.cell 1 _ rfl
       have hc2 := hbg.cell 2 _ rfl
       have hc3 := hbg.cell 3 _ rfl
       have hc4 := hbg.cell 4 _ rfl
       have hc5 := hbg.cell 5 _ rfl
       have hc6 := hbg.cell 6 _ rfl
       have hc7 := hbg.cell 7 _ rfl
       have hc8 := hbg.cell 8 _ rfl
       clear hgJ)
    | (at_mapUpdate; refine wp_put _ rfl _ _ _ 162 rfl 20 Try.underlying162 (w.heap.size + 1) [] rfl (hl1_g) (by simp [maxLen]) s_query rfl (by decide) _ rfl ?_; intro w2 hm hg
       have hx2 : Ext w w2 := ext_put (hxg) hg (by omega)
       have hl0_2 : MapAt w2 w.heap.size [(s_has_child, .iface 162 (.map (some (w.heap.size + 1))))] := (hl0_g).grown hg (someNe (by omega))
       have hs0_2 := hl0_2.lt
       have hl1_2 := hm
       have hs1_2 := hl1_2.lt
       have HJg := Lib.hid (JAt.keep (S' := (fun b => b ≠ w.heap.size ∧ b ≠ w.heap.size + 1)) (fun _ h _ => h) (keeps_grown hg (fun b hb e => by simp only [Option.some.injEq] at e; omega)) _ HJg.out)
       have hb2 := hbq.ext hx2
       have hc0 := hb2.cell 0 _ rfl
       have hc1 := hb2.cell 1 _ rfl
       have hc2 := hb2.cell 2 _ rfl
       have hc3 := hb2.cell 3 _ rfl
       have hc4 := hb2.cell 4 _ rfl
       have hc5 := hb2.cell 5 _ rfl
       have hc6 := hb2.cell 6 _ rfl
       have hc7 := hb2.cell 7 _ rfl
       have hc8 := hb2.cell 8 _ rfl
       clear hg hm hl0_1 hl1_1)
    | (at_mapUpdate; refine wp_put _ rfl _ _ _ 162 rfl 20 Try.underlying162 (w.heap.size + 1) [(s_query, .iface gty gx)] rfl (hl1_2) (by simp [maxLen]) s_type rfl (by decide) _ rfl ?_; intro w3 hm hg
       have hx3 : Ext w w3 := ext_put (hx2) hg (by omega)
       have hl0_3 : MapAt w3 w.heap.size [(s_has_child, .iface 162 (.map (some (w.heap.size + 1))))] := (hl0_2).grown hg (someNe (by omega))
       have hs0_3 := hl0_3.lt
       have hl1_3 := hm
       have hs1_3 := hl1_3.lt
       have HJg := Lib.hid (JAt.keep (S' := (fun b => b ≠ w.heap.size ∧ b ≠ w.heap.size + 1)) (fun _ h _ => h) (keeps_grown hg (fun b hb e => by simp only [Option.some.injEq] at e; omega)) _ HJg.out)
       have hb3 := hbq.ext hx3
       have hc0 := hb3.cell 0 _ rfl
       have hc1 := hb3.cell 1 _ rfl
       have hc2 := hb3.cell 2 _ rfl
       have hc3 := hb3.cell 3 _ rfl
       have hc4 := hb3.cell 4 _ rfl
       have hc5 := hb3.cell 5 _ rfl
       have hc6 := hb3.cell 6 _ rfl
       have hc7 := hb3.cell 7 _ rfl
       have hc8 := hb3.cell 8 _ rfl
       clear hg hm hl0_2 hl1_2)
    | fail)
  have hx0 : Ext w w3 := hx3
  have hm0 : MapAt w3 w.heap.size [(s_has_child, .iface 162 (.map (some (w.heap.size + 1))))] := hl0_3
  have hm1 : MapAt w3 (w.heap.size + 1) [(s_query, .iface gty gx), (s_type, .iface 9 (.string f))] := hl1_3
  have hz0 := hm0.lt
  have hz1 := hm1.lt
  have hne0 : w.heap.size ≠ (w.heap.size + 1) := by omega
  have hw1 : w.heap.size ≤ (w.heap.size + 1) := by have := hx0.sz; omega
  have hp0 : PJ (fun b => b ≠ w.heap.size ∧ b ≠ w.heap.size + 1) w3 [(s_query, .iface gty gx), (s_type, .iface 9 (.string f))] ([(s_query, jFull gt)] ++ [(s_type, J.str f)]) := ⟨rfl, by simp only [List.cons_append, List.nil_append, List.map_cons, List.map_nil, JsAt]; exact ⟨HJg.out, (by simp [JAt]), trivial⟩⟩
  go_cut [] (fun wc => Ext w wc ∧ MapAt wc w.heap.size [(s_has_child, .iface 162 (.map (some (w.heap.size + 1))))] ∧ ∃ rp, rp.length ≤ 3 ∧ MapAt wc (w.heap.size + 1) rp ∧ PJ (fun b => b ≠ w.heap.size ∧ b ≠ w.heap.size + 1) wc rp ([(s_query, jFull gt)] ++ [(s_type, J.str f)] ++ jN s_boost (o2)))
  case first =>
    cases o2 with
    | none =>
      have hv : v2 = none := H2.out
      subst hv
      go_wp2_with fail
      go_meet
      case rel =>
        refine ⟨hx0, hm0, [(s_query, .iface gty gx), (s_type, .iface 9 (.string f))], by simp, hm1, ?_⟩
        rw [show jN s_boost none = [] from rfl, List.append_nil]
        exact hp0
    | some t2 =>
      obtain ⟨cc, hv, hSc, hcc⟩ := H2.out
      subst hv
      have hcc := hx0.cell hcc
      go_wp2_with (at_mapUpdate; refine wp_put _ rfl _ _ _ 162 rfl 20 Try.underlying162 (w.heap.size + 1) [(s_query, .iface gty gx), (s_type, .iface 9 (.string f))] rfl hm1 (by simp [maxLen]) s_boost rfl (by decide) _ rfl ?_; intro wn hnn hgn)
      go_meet
      case rel =>
        have hxn := ext_put hx0 hgn (by omega)
        refine ⟨hxn, hm0.grown hgn (someNe hne0), _, ?_, hnn, ?_⟩
        · rw [List.length_append]; exact Nat.succ_le_succ (by simp)
        · rw [show jN s_boost (some t2) = [(s_boost, .num t2.num)] from rfl]
          exact PJ.snoc (hp0.keep (fun _ h _ => h) (keeps_grown hgn (fun b hb e => by simp only [Option.some.injEq] at e; omega))) (by simp only [JAt]; rfl)
  case rest =>
    obtain ⟨hxc, hm0_0, rp, hr, hnc, hpc⟩ := hcut
    have hbc := hbq.ext hxc
    have hc0 := hbc.cell 0 _ rfl
    have hc1 := hbc.cell 1 _ rfl
    have hc2 := hbc.cell 2 _ rfl
    have hc3 := hbc.cell 3 _ rfl
    have hc4 := hbc.cell 4 _ rfl
    have hc5 := hbc.cell 5 _ rfl
    have hc6 := hbc.cell 6 _ rfl
    have hc7 := hbc.cell 7 _ rfl
    have hc8 := hbc.cell 8 _ rfl
    go_upto_if 51 with fail
    go_cut [] (fun wc => Ext w wc ∧ MapAt wc w.heap.size [(s_has_child, .iface 162 (.map (some (w.heap.size + 1))))] ∧ ∃ rp, rp.length ≤ 4 ∧ MapAt wc (w.heap.size + 1) rp ∧ PJ (fun b => b ≠ w.heap.size ∧ b ≠ w.heap.size + 1) wc rp ([(s_query, jFull gt)] ++ [(s_type, J.str f)] ++ jN s_boost (o2) ++ jT s_score_mode (o3)))
    case first =>
      cases hE : v3.toList.isEmpty
      · have hE1 := jT_some (k := s_score_mode) H3.out hE
        go_wp2_with (at_mapUpdate; refine wp_put _ rfl _ _ _ 162 rfl 20 Try.underlying162 (w.heap.size + 1) rp rfl hnc (Nat.lt_of_le_of_lt hr (by decide)) s_score_mode rfl (by decide) _ rfl ?_; intro wn hnn hgn)
        go_meet
        case rel =>
          have hxn := ext_put hxc hgn (by omega)
          refine ⟨hxn, hm0_0.grown hgn (someNe hne0), _, ?_, hnn, ?_⟩
          · rw [List.length_append]; exact Nat.succ_le_succ (by exact hr)
          · rw [hE1]
            exact PJ.snoc (hpc.keep (fun _ h _ => h) (keeps_grown hgn (fun b hb e => by simp only [Option.some.injEq] at e; omega))) (by simp only [JAt]; rfl)
      · have hE1 := jT_none (k := s_score_mode) H3.out hE
        go_wp2_with fail
        go_meet
        case rel =>
          refine ⟨hxc, hm0_0, rp, Nat.le_succ_of_le hr, hnc, ?_⟩
          rw [hE1, List.append_nil]
          exact hpc
    case rest =>
      obtain ⟨hxc, hm0_1, rp, hr, hnc, hpc⟩ := hcut
      have hbc := hbq.ext hxc
      have hc0 := hbc.cell 0 _ rfl
      have hc1 := hbc.cell 1 _ rfl
      have hc2 := hbc.cell 2 _ rfl
      have hc3 := hbc.cell 3 _ rfl
      have hc4 := hbc.cell 4 _ rfl
      have hc5 := hbc.cell 5 _ rfl
      have hc6 := hbc.cell 6 _ rfl
      have hc7 := hbc.cell 7 _ rfl
      have hc8 := hbc.cell 8 _ rfl
      go_upto_if 62 with fail
      go_cut [] (fun wc => Ext w wc ∧ MapAt wc w.heap.size [(s_has_child, .iface 162 (.map (some (w.heap.size + 1))))] ∧ ∃ rp, rp.length ≤ 5 ∧ MapAt wc (w.heap.size + 1) rp ∧ PJ (fun b => b ≠ w.heap.size ∧ b ≠ w.heap.size + 1) wc rp ([(s_query, jFull gt)] ++ [(s_type, J.str f)] ++ jN s_boost (o2) ++ jT s_score_mode (o3) ++ jW s_min_children (o4)))
      case first =>
        cases o4 with
        | none =>
          have hv : v4 = none := H4.out
          subst hv
          go_wp2_with fail
          go_meet
          case rel =>
            refine ⟨hxc, hm0_1, rp, Nat.le_succ_of_le hr, hnc, ?_⟩
            rw [show jW s_min_children none = [] from rfl, List.append_nil]
            exact hpc
        | some t4 =>
          obtain ⟨cc, z4, hv, hSc, hcc, hzz⟩ := H4.out
          subst hv
          have hcc := hxc.cell hcc
          go_wp2_with (at_mapUpdate; refine wp_put _ rfl _ _ _ 162 rfl 20 Try.underlying162 (w.heap.size + 1) rp rfl hnc (Nat.lt_of_le_of_lt hr (by decide)) s_min_children rfl (by decide) _ rfl ?_; intro wn hnn hgn)
          go_meet
          case rel =>
            have hxn := ext_put hxc hgn (by omega)
            refine ⟨hxn, hm0_1.grown hgn (someNe hne0), _, ?_, hnn, ?_⟩
            · rw [List.length_append]; exact Nat.succ_le_succ (by exact hr)
            · rw [show jW s_min_children (some t4) = [(s_min_children, .int z4)] from jW_some hzz]
              exact PJ.snoc (hpc.keep (fun _ h _ => h) (keeps_grown hgn (fun b hb e => by simp only [Option.some.injEq] at e; omega))) (by simp only [JAt]; rfl)
      case rest =>
        obtain ⟨hxc, hm0_2, rp, hr, hnc, hpc⟩ := hcut
        have hbc := hbq.ext hxc
        have hc0 := hbc.cell 0 _ rfl
        have hc1 := hbc.cell 1 _ rfl
        have hc2 := hbc.cell 2 _ rfl
        have hc3 := hbc.cell 3 _ rfl
        have hc4 := hbc.cell 4 _ rfl
        have hc5 := hbc.cell 5 _ rfl
        have hc6 := hbc.cell 6 _ rfl
        have hc7 := hbc.cell 7 _ rfl
        have hc8 := hbc.cell 8 _ rfl
        go_upto_if 75 with fail
        go_cut [] (fun wc => Ext w wc ∧ MapAt wc w.heap.size [(s_has_child, .iface 162 (.map (some (w.heap.size + 1))))] ∧ ∃ rp, rp.length ≤ 6 ∧ MapAt wc (w.heap.size + 1) rp ∧ PJ (fun b => b ≠ w.heap.size ∧ b ≠ w.heap.size + 1) wc rp ([(s_query, jFull gt)] ++ [(s_type, J.str f)] ++ jN s_boost (o2) ++ jT s_score_mode (o3) ++ jW s_min_children (o4) ++ jW s_max_children (o5)))
        case first =>
          cases o5 with
          | none =>
            have hv : v5 = none := H5.out
            subst hv
            go_wp2_with fail
            go_meet
            case rel =>
              refine ⟨hxc, hm0_2, rp, Nat.le_succ_of_le hr, hnc, ?_⟩
              rw [show jW s_max_children none = [] from rfl, List.append_nil]
              exact hpc
          | some t5 =>
            obtain ⟨cc, z5, hv, hSc, hcc, hzz⟩ := H5.out
            subst hv
            have hcc := hxc.cell hcc
            go_wp2_with (at_mapUpdate; refine wp_put _ rfl _ _ _ 162 rfl 20 Try.underlying162 (w.heap.size + 1) rp rfl hnc (Nat.lt_of_le_of_lt hr (by decide)) s_max_children rfl (by decide) _ rfl ?_; intro wn hnn hgn)
            go_meet
            case rel =>
              have hxn := ext_put hxc hgn (by omega)
              refine ⟨hxn, hm0_2.grown hgn (someNe hne0), _, ?_, hnn, ?_⟩
              · rw [List.length_append]; exact Nat.succ_le_succ (by exact hr)
              · rw [show jW s_max_children (some t5) = [(s_max_children, .int z5)] from jW_some hzz]
                exact PJ.snoc (hpc.keep (fun _ h _ => h) (keeps_grown hgn (fun b hb e => by simp only [Option.some.injEq] at e; omega))) (by simp only [JAt]; rfl)
        case rest =>
          obtain ⟨hxc, hm0_3, rp, hr, hnc, hpc⟩ := hcut
          have hbc := hbq.ext hxc
          have hc0 := hbc.cell 0 _ rfl
          have hc1 := hbc.cell 1 _ rfl
          have hc2 := hbc.cell 2 _ rfl
          have hc3 := hbc.cell 3 _ rfl
          have hc4 := hbc.cell 4 _ rfl
          have hc5 := hbc.cell 5 _ rfl
          have hc6 := hbc.cell 6 _ rfl
          have hc7 := hbc.cell 7 _ rfl
          have hc8 := hbc.cell 8 _ rfl
          go_upto_if 101 with fail
          go_cut [] (fun wc => Ext w wc ∧ MapAt wc w.heap.size [(s_has_child, .iface 162 (.map (some (w.heap.size + 1))))] ∧ ∃ rp, rp.length ≤ 7 ∧ MapAt wc (w.heap.size + 1) rp ∧ PJ (fun b => b ≠ w.heap.size ∧ b ≠ w.heap.size + 1) wc rp ([(s_query, jFull gt)] ++ [(s_type, J.str f)] ++ jN s_boost (o2) ++ jT s_score_mode (o3) ++ jW s_min_children (o4) ++ jW s_max_children (o5) ++ jT s_name (o7)))
          case first =>
            cases hE : v7.toList.isEmpty
            · have hE1 := jT_some (k := s_name) H7.out hE
              go_wp2_with (at_mapUpdate; refine wp_put _ rfl _ _ _ 162 rfl 20 Try.underlying162 (w.heap.size + 1) rp rfl hnc (Nat.lt_of_le_of_lt hr (by decide)) s_name rfl (by decide) _ rfl ?_; intro wn hnn hgn)
              go_meet
              case rel =>
                have hxn := ext_put hxc hgn (by omega)
                refine ⟨hxn, hm0_3.grown hgn (someNe hne0), _, ?_, hnn, ?_⟩
                · rw [List.length_append]; exact Nat.succ_le_succ (by exact hr)
                · rw [hE1]
                  exact PJ.snoc (hpc.keep (fun _ h _ => h) (keeps_grown hgn (fun b hb e => by simp only [Option.some.injEq] at e; omega))) (by simp only [JAt]; rfl)
            · have hE1 := jT_none (k := s_name) H7.out hE
              go_wp2_with fail
              go_meet
              case rel =>
                refine ⟨hxc, hm0_3, rp, Nat.le_succ_of_le hr, hnc, ?_⟩
                rw [hE1, List.append_nil]
                exact hpc
          case rest =>
            obtain ⟨hxc, hm0_4, rp, hr, hnc, hpc⟩ := hcut
            have hbc := hbq.ext hxc
            have hc0 := hbc.cell 0 _ rfl
            have hc1 := hbc.cell 1 _ rfl
            have hc2 := hbc.cell 2 _ rfl
            have hc3 := hbc.cell 3 _ rfl
            have hc4 := hbc.cell 4 _ rfl
            have hc5 := hbc.cell 5 _ rfl
            have hc6 := hbc.cell 6 _ rfl
            have hc7 := hbc.cell 7 _ rfl
            have hc8 := hbc.cell 8 _ rfl
            go_wp2_with fail
            go_ret2
            refine ⟨_, rfl, ?_, hxc⟩
            exact jMap_one hm0_4 trivial (hpc.wide.map hnc trivial (by have := hpc.len; omega))
end Go.Proofs.Ytpkkdmopcfcnkaa
