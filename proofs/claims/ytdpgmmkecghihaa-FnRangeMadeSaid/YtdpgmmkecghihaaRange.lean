/-
  What the builder of a query (Range) makes of its settings.
-/
import Derived.Test.YtdpgmmkecghihaaQr
namespace Go.Proofs.Ytdpgmmkecghihaa
open Go.RowKit

set_option maxRecDepth 20000 in
set_option maxHeartbeats 4000000 in
theorem range_src {S : Nat → Prop} (w : World) (bq : Nat) (f : ByteArray) (hf_le : f.size ≤ maxLen) (v1 : Value) (o1 : Option T) (h1 : FU v1 o1) (v2 : Value) (o2 : Option T) (h2 : FU v2 o2) (v3 : ByteArray) (o3 : Option T) (h3 : v3 = fT o3) (v4 : Bool) (v5 : Bool) (v6 : Option Addr) (o6 : Option T) (h6 : FN S w v6 o6) (v7 : ByteArray) (o7 : Option T) (h7 : v7 = fT o7) (v8 : ByteArray) (o8 : Option T) (h8 : v8 = fT o8) (v9 : ByteArray) (o9 : Option T) (h9 : v9 = fT o9) (hbq : Box w bq #[.string f, v1, v2, .string v3, .bool v4, .bool v5, .pointer v6, .string v7, .string v8, .string v9] 184) :
    Calls Try.prog 146 #[.pointer (some ⟨bq, 0, none⟩)] w fun r w' => ∃ v, r = .returned (.tuple #[v, .nilIface]) ∧ JAt (fun _ => True) w' v (jMap [(s_range, jMap ([(f, jMap ([(s_from, jU o1)] ++ [(s_to, jU o2)] ++ jT s_time_zone (o3) ++ jT s_format (o8) ++ jT s_relation (o9) ++ jN s_boost (o6) ++ [(s_include_lower, J.yes v4)] ++ [(s_include_upper, J.yes v5)]))] ++ jT s_name (o7)))]) ∧ Ext w w' := by
  have tok0 := trivial
  have hblt := hbq.lt
  have H3 := Lib.hid h3
  have H6 := Lib.hid h6
  have H7 := Lib.hid h7
  have H8 := Lib.hid h8
  have H9 := Lib.hid h9
  clear h3 h6 h7 h8 h9
  have H1 := Lib.hid h1
  clear h1
  have H2 := Lib.hid h2
  clear h2
  go_enter Try.func146, Try.ntmps146
  go_upto_if 34 with (first
    | (at_mapUpdate; have _t := tok0; refine wp_put _ rfl _ _ _ 152 rfl 20 Try.underlying152 w.heap.size [] rfl ((MapAt.at (by simp)).alloc _) (by simp [maxLen]) s_range rfl (by decide) _ rfl ?_; intro w1 hm hg; clear tok0
       have hx1 : Ext w w1 := ext_put (ext_alloc (ext_alloc (ext_refl _) _) _) hg (by omega)
       have hl0_1 := hm
       have hs0_1 := hl0_1.lt
       have hl1_1 : MapAt w1 (w.heap.size + 1) [] := (MapAt.at (by simp)).grown hg (someNe (by omega))
       have hs1_1 := hl1_1.lt
       have hb1 := hbq.ext hx1
       have hq1 := hb1.lt
       have hc0 := hb1.cell 0 _ rfl
       have hc1 := hb1.cell 1 _ rfl
       have hc2 := hb1.cell 2 _ rfl
       have hc3 := hb1.cell 3 _ rfl
       have hc4 := hb1.cell 4 _ rfl
       have hc5 := hb1.cell 5 _ rfl
       have hc6 := hb1.cell 6 _ rfl
       have hc7 := hb1.cell 7 _ rfl
       have hc8 := hb1.cell 8 _ rfl
       have hc9 := hb1.cell 9 _ rfl
       clear hg hm)
    | (at_mapUpdate; refine wp_put _ rfl _ _ _ 152 rfl 20 Try.underlying152 (w.heap.size + 1) [] rfl ((hl1_1).alloc _) (by simp [maxLen]) f rfl hf_le _ rfl ?_; intro w2 hm hg
       have hx2 : Ext w w2 := ext_put (ext_alloc (hx1) _) hg (by omega)
       have hl0_2 : MapAt w2 w.heap.size [(s_range, .iface 152 (.map (some (w.heap.size + 1))))] := ((hl0_1).alloc _).grown hg (someNe (by omega))
       have hs0_2 := hl0_2.lt
       have hl1_2 := hm
       have hs1_2 := hl1_2.lt
       have hl2_2 : MapAt w2 w1.heap.size [] := (MapAt.at (by simp)).grown hg (someNe (by omega))
       have hs2_2 := hl2_2.lt
       have hb2 := hbq.ext hx2
       have hc0 := hb2.cell 0 _ rfl
       have hc1 := hb2.cell 1 _ rfl
       have hc2 := hb2.cell 2 _ rfl
       have hc3 := hb2.cell 3 _ rfl
       have hc4 := hb2.cell 4 _ rfl
       have hc5 := hb2.cell 5 _ rfl
       have hc6 := hb2.cell 6 _ rfl
       have hc7 := hb2.cell 7 _ rfl
       have hc8 := hb2.cell 8 _ rfl
       have hc9 := hb2.cell 9 _ rfl
       clear hg hm hl0_1 hl1_1)
    | (at_mapUpdate; refine wp_put _ rfl _ _ _ 152 rfl 20 Try.underlying152 w1.heap.size [] rfl (hl2_2) (by simp [maxLen]) s_from rfl (by decide) _ rfl ?_; intro w3 hm hg
       have hx3 : Ext w w3 := ext_put (hx2) hg (by omega)
       have hl0_3 : MapAt w3 w.heap.size [(s_range, .iface 152 (.map (some (w.heap.size + 1))))] := (hl0_2).grown hg (someNe (by omega))
       have hs0_3 := hl0_3.lt
       have hl1_3 : MapAt w3 (w.heap.size + 1) [(f, .iface 152 (.map (some w1.heap.size)))] := (hl1_2).grown hg (someNe (by omega))
       have hs1_3 := hl1_3.lt
       have hl2_3 := hm
       have hs2_3 := hl2_3.lt
       have hb3 := hbq.ext hx3
       have hc0 := hb3.cell 0 _ rfl
       have hc1 := hb3.cell 1 _ rfl
       have hc2 := hb3.cell 2 _ rfl
       have hc3 := hb3.cell 3 _ rfl
       have hc4 := hb3.cell 4 _ rfl
       have hc5 := hb3.cell 5 _ rfl
       have hc6 := hb3.cell 6 _ rfl
       have hc7 := hb3.cell 7 _ rfl
       have hc8 := hb3.cell 8 _ rfl
       have hc9 := hb3.cell 9 _ rfl
       clear hg hm hl0_2 hl1_2 hl2_2)
    | (at_mapUpdate; refine wp_put _ rfl _ _ _ 152 rfl 20 Try.underlying152 w1.heap.size [(s_from, v1)] rfl (hl2_3) (by simp [maxLen]) s_to rfl (by decide) _ rfl ?_; intro w4 hm hg
       have hx4 : Ext w w4 := ext_put (hx3) hg (by omega)
       have hl0_4 : MapAt w4 w.heap.size [(s_range, .iface 152 (.map (some (w.heap.size + 1))))] := (hl0_3).grown hg (someNe (by omega))
       have hs0_4 := hl0_4.lt
       have hl1_4 : MapAt w4 (w.heap.size + 1) [(f, .iface 152 (.map (some w1.heap.size)))] := (hl1_3).grown hg (someNe (by omega))
       have hs1_4 := hl1_4.lt
       have hl2_4 := hm
       have hs2_4 := hl2_4.lt
       have hb4 := hbq.ext hx4
       have hc0 := hb4.cell 0 _ rfl
       have hc1 := hb4.cell 1 _ rfl
       have hc2 := hb4.cell 2 _ rfl
       have hc3 := hb4.cell 3 _ rfl
       have hc4 := hb4.cell 4 _ rfl
       have hc5 := hb4.cell 5 _ rfl
       have hc6 := hb4.cell 6 _ rfl
       have hc7 := hb4.cell 7 _ rfl
       have hc8 := hb4.cell 8 _ rfl
       have hc9 := hb4.cell 9 _ rfl
       clear hg hm hl0_3 hl1_3 hl2_3)
    | fail)
  have hx0 : Ext w w4 := hx4
  have hm0 : MapAt w4 w.heap.size [(s_range, .iface 152 (.map (some (w.heap.size + 1))))] := hl0_4
  have hm1 : MapAt w4 (w.heap.size + 1) [(f, .iface 152 (.map (some w1.heap.size)))] := hl1_4
  have hm2 : MapAt w4 w1.heap.size [(s_from, v1), (s_to, v2)] := hl2_4
  have hz0 := hm0.lt
  have hz1 := hm1.lt
  have hz2 := hm2.lt
  have hne0 : w.heap.size ≠ w1.heap.size := by omega
  have hne1 : (w.heap.size + 1) ≠ w1.heap.size := by omega
  have hw2 : w.heap.size ≤ w1.heap.size := by have := hx0.sz; omega
  have hp0 : PJ (fun b => b < w.heap.size) w4 [(s_from, v1), (s_to, v2)] ([(s_from, jU o1)] ++ [(s_to, jU o2)]) := ⟨rfl, by simp only [List.cons_append, List.nil_append, List.map_cons, List.map_nil, JsAt]; exact ⟨(JAt.no (w := w) (H1.out w)), (JAt.no (w := w) (H2.out w)), trivial⟩⟩
  go_cut [] (fun wc => Ext w wc ∧ MapAt wc w.heap.size [(s_range, .iface 152 (.map (some (w.heap.size + 1))))] ∧ MapAt wc (w.heap.size + 1) [(f, .iface 152 (.map (some w1.heap.size)))] ∧ ∃ rp, rp.length ≤ 3 ∧ MapAt wc w1.heap.size rp ∧ PJ (fun b => b < w.heap.size) wc rp ([(s_from, jU o1)] ++ [(s_to, jU o2)] ++ jT s_time_zone (o3)))
  case first =>
    cases hE : v3.toList.isEmpty
    · have hE1 := jT_some (k := s_time_zone) H3.out hE
      go_wp2_with (at_mapUpdate; refine wp_put _ rfl _ _ _ 152 rfl 20 Try.underlying152 w1.heap.size [(s_from, v1), (s_to, v2)] rfl hm2 (by simp [maxLen]) s_time_zone rfl (by decide) _ rfl ?_; intro wn hnn hgn)
      go_meet
      case rel =>
        have hxn := ext_put hx0 hgn (by omega)
        refine ⟨hxn, hm0.grown hgn (someNe hne0), hm1.grown hgn (someNe hne1), _, ?_, hnn, ?_⟩
        · rw [List.length_append]; exact Nat.succ_le_succ (by simp)
        · rw [hE1]
          exact PJ.snoc (hp0.moveB hx0 hxn) (by simp only [JAt]; rfl)
    · have hE1 := jT_none (k := s_time_zone) H3.out hE
      go_wp2_with fail
      go_meet
      case rel =>
        refine ⟨hx0, hm0, hm1, [(s_from, v1), (s_to, v2)], by simp, hm2, ?_⟩
        rw [hE1, List.append_nil]
        exact hp0
  case rest =>
    obtain ⟨hxc, hm0_0, hm1_0, rp, hr, hnc, hpc⟩ := hcut
    have hbc := hbq.ext hxc
    have hc0 := hbc.cell 0 _ rfl
    have hc1 := hbc.cell 1 _ rfl
    have hc2 := hbc.cell 2 _ rfl
    have hc3 := hbc.cell 3 _ rfl
    have hc4 := hbc.cell 4 _ rfl
    have hc5 := hbc.cell 5 _ rfl
    have hc6 := hbc.cell 6 _ rfl
    have hc7 := hbc.cell 7 _ rfl
    have hc8 := hbc.cell 8 _ rfl
    have hc9 := hbc.cell 9 _ rfl
    go_upto_if 45 with fail
    go_cut [] (fun wc => Ext w wc ∧ MapAt wc w.heap.size [(s_range, .iface 152 (.map (some (w.heap.size + 1))))] ∧ MapAt wc (w.heap.size + 1) [(f, .iface 152 (.map (some w1.heap.size)))] ∧ ∃ rp, rp.length ≤ 4 ∧ MapAt wc w1.heap.size rp ∧ PJ (fun b => b < w.heap.size) wc rp ([(s_from, jU o1)] ++ [(s_to, jU o2)] ++ jT s_time_zone (o3) ++ jT s_format (o8)))
    case first =>
      cases hE : v8.toList.isEmpty
      · have hE1 := jT_some (k := s_format) H8.out hE
        go_wp2_with (at_mapUpdate; refine wp_put _ rfl _ _ _ 152 rfl 20 Try.underlying152 w1.heap.size rp rfl hnc (Nat.lt_of_le_of_lt hr (by decide)) s_format rfl (by decide) _ rfl ?_; intro wn hnn hgn)
        go_meet
        case rel =>
          have hxn := ext_put hxc hgn (by omega)
          refine ⟨hxn, hm0_0.grown hgn (someNe hne0), hm1_0.grown hgn (someNe hne1), _, ?_, hnn, ?_⟩
          · rw [List.length_append]; exact Nat.succ_le_succ (by exact hr)
          · rw [hE1]
            exact PJ.snoc (hpc.moveB hxc hxn) (by simp only [JAt]; rfl)
      · have hE1 := jT_none (k := s_format) H8.out hE
        go_wp2_with fail
        go_meet
        case rel =>
          refine ⟨hxc, hm0_0, hm1_0, rp, Nat.le_succ_of_le hr, hnc, ?_⟩
          rw [hE1, List.append_nil]
          exact hpc
    case rest =>
      obtain ⟨hxc, hm0_1, hm1_1, rp, hr, hnc, hpc⟩ := hcut
      have hbc := hbq.ext hxc
      have hc0 := hbc.cell 0 _ rfl
      have hc1 := hbc.cell 1 _ rfl
      have hc2 := hbc.cell 2 _ rfl
      have hc3 := hbc.cell 3 _ rfl
      have hc4 := hbc.cell 4 _ rfl
      have hc5 := hbc.cell 5 _ rfl
      have hc6 := hbc.cell 6 _ rfl
      have hc7 := hbc.cell 7 _ rfl
      have hc8 := hbc.cell 8 _ rfl
      have hc9 := hbc.cell 9 _ rfl
      go_upto_if 56 with fail
      go_cut [] (fun wc => Ext w wc ∧ MapAt wc w.heap.size [(s_range, .iface 152 (.map (some (w.heap.size + 1))))] ∧ MapAt wc (w.heap.size + 1) [(f, .iface 152 (.map (some w1.heap.size)))] ∧ ∃ rp, rp.length ≤ 5 ∧ MapAt wc w1.heap.size rp ∧ PJ (fun b => b < w.heap.size) wc rp ([(s_from, jU o1)] ++ [(s_to, jU o2)] ++ jT s_time_zone (o3) ++ jT s_format (o8) ++ jT s_relation (o9)))
      case first =>
        cases hE : v9.toList.isEmpty
        · have hE1 := jT_some (k := s_relation) H9.out hE
          go_wp2_with (at_mapUpdate; refine wp_put _ rfl _ _ _ 152 rfl 20 Try.underlying152 w1.heap.size rp rfl hnc (Nat.lt_of_le_of_lt hr (by decide)) s_relation rfl (by decide) _ rfl ?_; intro wn hnn hgn)
          go_meet
          case rel =>
            have hxn := ext_put hxc hgn (by omega)
            refine ⟨hxn, hm0_1.grown hgn (someNe hne0), hm1_1.grown hgn (someNe hne1), _, ?_, hnn, ?_⟩
            · rw [List.length_append]; exact Nat.succ_le_succ (by exact hr)
            · rw [hE1]
              exact PJ.snoc (hpc.moveB hxc hxn) (by simp only [JAt]; rfl)
        · have hE1 := jT_none (k := s_relation) H9.out hE
          go_wp2_with fail
          go_meet
          case rel =>
            refine ⟨hxc, hm0_1, hm1_1, rp, Nat.le_succ_of_le hr, hnc, ?_⟩
            rw [hE1, List.append_nil]
            exact hpc
      case rest =>
        obtain ⟨hxc, hm0_2, hm1_2, rp, hr, hnc, hpc⟩ := hcut
        have hbc := hbq.ext hxc
        have hc0 := hbc.cell 0 _ rfl
        have hc1 := hbc.cell 1 _ rfl
        have hc2 := hbc.cell 2 _ rfl
        have hc3 := hbc.cell 3 _ rfl
        have hc4 := hbc.cell 4 _ rfl
        have hc5 := hbc.cell 5 _ rfl
        have hc6 := hbc.cell 6 _ rfl
        have hc7 := hbc.cell 7 _ rfl
        have hc8 := hbc.cell 8 _ rfl
        have hc9 := hbc.cell 9 _ rfl
        go_upto_if 67 with fail
        go_cut [] (fun wc => Ext w wc ∧ MapAt wc w.heap.size [(s_range, .iface 152 (.map (some (w.heap.size + 1))))] ∧ MapAt wc (w.heap.size + 1) [(f, .iface 152 (.map (some w1.heap.size)))] ∧ ∃ rp, rp.length ≤ 6 ∧ MapAt wc w1.heap.size rp ∧ PJ (fun b => b < w.heap.size) wc rp ([(s_from, jU o1)] ++ [(s_to, jU o2)] ++ jT s_time_zone (o3) ++ jT s_format (o8) ++ jT s_relation (o9) ++ jN s_boost (o6)))
        case first =>
          cases o6 with
          | none =>
            have hv : v6 = none := H6.out
            subst hv
            go_wp2_with fail
            go_meet
            case rel =>
              refine ⟨hxc, hm0_2, hm1_2, rp, Nat.le_succ_of_le hr, hnc, ?_⟩
              rw [show jN s_boost none = [] from rfl, List.append_nil]
              exact hpc
          | some t6 =>
            obtain ⟨cc, hv, hSc, hcc⟩ := H6.out
            subst hv
            have hcc := hxc.cell hcc
            go_wp2_with (at_mapUpdate; refine wp_put _ rfl _ _ _ 152 rfl 20 Try.underlying152 w1.heap.size rp rfl hnc (Nat.lt_of_le_of_lt hr (by decide)) s_boost rfl (by decide) _ rfl ?_; intro wn hnn hgn)
            go_meet
            case rel =>
              have hxn := ext_put hxc hgn (by omega)
              refine ⟨hxn, hm0_2.grown hgn (someNe hne0), hm1_2.grown hgn (someNe hne1), _, ?_, hnn, ?_⟩
              · rw [List.length_append]; exact Nat.succ_le_succ (by exact hr)
              · rw [show jN s_boost (some t6) = [(s_boost, .num t6.num)] from rfl]
                exact PJ.snoc (hpc.moveB hxc hxn) (by simp only [JAt]; rfl)
        case rest =>
          obtain ⟨hxc, hm0_3, hm1_3, rp, hr, hnc, hpc⟩ := hcut
          have hbc := hbq.ext hxc
          have hc0 := hbc.cell 0 _ rfl
          have hc1 := hbc.cell 1 _ rfl
          have hc2 := hbc.cell 2 _ rfl
          have hc3 := hbc.cell 3 _ rfl
          have hc4 := hbc.cell 4 _ rfl
          have hc5 := hbc.cell 5 _ rfl
          have hc6 := hbc.cell 6 _ rfl
          have hc7 := hbc.cell 7 _ rfl
          have hc8 := hbc.cell 8 _ rfl
          have hc9 := hbc.cell 9 _ rfl
          have tokE := trivial
          have tokF := trivial
          go_upto_if 92 with (first
            | (at_mapUpdate; have _t := tokE; clear _t tokE; refine wp_put _ rfl _ _ _ 152 rfl 20 Try.underlying152 w1.heap.size (rp) rfl hnc (Nat.lt_of_le_of_lt hr (by decide)) s_include_lower rfl (by decide) _ rfl ?_; intro we1 hme1 hge1
               have hxe1 := ext_put hxc hge1 (by omega)
               have hoa1 := hm0_3.grown hge1 (someNe hne0)
               have hob1 := hm1_3.grown hge1 (someNe hne1)
               have hpe1 := PJ.snoc (hpc.moveB hxc hxe1) (k := s_include_lower) (v := .iface 4 (.bool v4)) (j := .yes v4) (by simp only [JAt])
               have hbe1 := hbq.ext hxe1
               have hc0 := hbe1.cell 0 _ rfl; have hc1 := hbe1.cell 1 _ rfl; have hc2 := hbe1.cell 2 _ rfl; have hc3 := hbe1.cell 3 _ rfl; have hc4 := hbe1.cell 4 _ rfl; have hc5 := hbe1.cell 5 _ rfl; have hc6 := hbe1.cell 6 _ rfl; have hc7 := hbe1.cell 7 _ rfl; have hc8 := hbe1.cell 8 _ rfl; have hc9 := hbe1.cell 9 _ rfl
               clear hge1)
            | (at_mapUpdate; have _t := tokF; clear _t tokF; refine wp_put _ rfl _ _ _ 152 rfl 20 Try.underlying152 w1.heap.size (rp ++ [(s_include_lower, .iface 4 (.bool v4))]) rfl hme1 (by rw [List.length_append]; exact Nat.lt_of_le_of_lt (Nat.succ_le_succ hr) (by decide)) s_include_upper rfl (by decide) _ rfl ?_; intro we2 hme2 hge2
               have hxe2 := ext_put hxe1 hge2 (by omega)
               have hoa2 := hoa1.grown hge2 (someNe hne0)
               have hob2 := hob1.grown hge2 (someNe hne1)
               have hpe2 := PJ.snoc (hpe1.moveB hxe1 hxe2) (k := s_include_upper) (v := .iface 4 (.bool v5)) (j := .yes v5) (by simp only [JAt])
               have hbe2 := hbq.ext hxe2
               have hc0 := hbe2.cell 0 _ rfl; have hc1 := hbe2.cell 1 _ rfl; have hc2 := hbe2.cell 2 _ rfl; have hc3 := hbe2.cell 3 _ rfl; have hc4 := hbe2.cell 4 _ rfl; have hc5 := hbe2.cell 5 _ rfl; have hc6 := hbe2.cell 6 _ rfl; have hc7 := hbe2.cell 7 _ rfl; have hc8 := hbe2.cell 8 _ rfl; have hc9 := hbe2.cell 9 _ rfl
               clear hge2)
            | fail)
          have hin : JAt (fun _ => True) we2 (.iface 152 (.map (some w1.heap.size))) (jMap _) := hpe2.wide.map hme2 trivial (by have := hpe2.len; simp only [List.length_append, List.length_cons, List.length_nil] at this ⊢; omega)
          cases hE7 : v7.toList.isEmpty
          · go_wp2_with (at_mapUpdate; refine wp_put _ rfl _ _ _ 152 rfl 20 Try.underlying152 (w.heap.size + 1) [(f, .iface 152 (.map (some w1.heap.size)))] rfl hob2 (by simp [maxLen]) s_name rfl (by decide) _ rfl ?_; intro wn hnn hgn)
            go_ret2
            have hxn := ext_put hxe2 hgn (by omega)
            have hq0 := hoa2.grown hgn (someNe (by omega))
            have hqM := hme2.grown hgn (someNe hne1.symm)
            have hin2 : JAt (fun _ => True) wn (.iface 152 (.map (some w1.heap.size))) (jMap _) := (hpe2.moveB hxe2 hxn).wide.map hqM trivial (by have := hpe2.len; simp only [List.length_append, List.length_cons, List.length_nil] at this ⊢; omega)
            refine ⟨_, rfl, ?_, hxn⟩
            rw [jT_some (k := s_name) H7.out hE7]
            refine jMap_one hq0 trivial (PJ.map (rp := [(f, .iface 152 (.map (some w1.heap.size))), (s_name, .iface 9 (.string v7))]) (pj := [(f, _), (s_name, .str v7)]) ⟨rfl, ?_⟩ hnn trivial (by simp))
            simp only [List.map_cons, List.map_nil, JsAt]
            exact ⟨hin2, by simp [JAt], trivial⟩
          · go_wp2_with fail
            go_ret2
            refine ⟨_, rfl, ?_, hxe2⟩
            rw [jT_none (k := s_name) H7.out hE7]
            exact jMap_one hoa2 trivial (jMap_one hob2 trivial hin)
end Go.Proofs.Ytdpgmmkecghihaa
