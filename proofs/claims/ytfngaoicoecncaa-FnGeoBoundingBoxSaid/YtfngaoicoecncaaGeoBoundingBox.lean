/-
  What the builder of a query (GeoBoundingBox) makes of its settings.
-/
import Derived.Test.YtfngaoicoecncaaGb
namespace Go.Proofs.Ytfngaoicoecncaa
open Go.RowKit

set_option maxRecDepth 20000 in
set_option maxHeartbeats 4000000 in
theorem geoBoundingBox_src {S : Nat → Prop} (w : World) (bq : Nat) (f : ByteArray) (hf_le : f.size ≤ maxLen) (v1 : Value) (o1 : Option J) (h1 : CornAt (fun b => b < w.heap.size) w v1 o1) (v2 : Value) (o2 : Option J) (h2 : CornAt (fun b => b < w.heap.size) w v2 o2) (v3 : Value) (o3 : Option J) (h3 : CornAt (fun b => b < w.heap.size) w v3 o3) (v4 : Value) (o4 : Option J) (h4 : CornAt (fun b => b < w.heap.size) w v4 o4) (v5 : Value) (o5 : Option T) (h5 : FV v5 o5) (v6 : ByteArray) (o6 : Option T) (h6 : v6 = fT o6) (v7 : ByteArray) (o7 : Option T) (h7 : v7 = fT o7) (v8 : Option Addr) (o8 : Option T) (h8 : FY S w v8 o8) (v9 : ByteArray) (o9 : Option T) (h9 : v9 = fT o9) (hbq : Box w bq #[.string f, v1, v2, v3, v4, v5, .string v6, .string v7, .pointer v8, .string v9] 101) :
    Calls Try.prog 42 #[.pointer (some ⟨bq, 0, none⟩)] w fun r w' => ∃ v, r = .returned (.tuple #[v, .nilIface]) ∧ JAt (fun _ => True) w' v (jMap [(s_geo_bounding_box, jMap ([(f, jBox o5 o1 o2 o4 o3)] ++ jT s_type (o6) ++ jT s_validation_method (o7) ++ jY s_ignore_unmapped (o8) ++ jT s_name (o9)))]) ∧ Ext w w' := by
  have tok0 := trivial
  have hblt := hbq.lt
  have H1 := Lib.hid h1
  have H2 := Lib.hid h2
  have H3 := Lib.hid h3
  have H4 := Lib.hid h4
  have H5 := Lib.hid h5
  have H6 := Lib.hid h6
  have H7 := Lib.hid h7
  have H8 := Lib.hid h8
  have H9 := Lib.hid h9
  clear h1 h2 h3 h4 h5 h6 h7 h8 h9
  have hc0 := ((hbq.alloc (.map #[] 0)).alloc (.map #[] 0)).cell 0 _ rfl
  have hc1 := ((hbq.alloc (.map #[] 0)).alloc (.map #[] 0)).cell 1 _ rfl
  have hc2 := ((hbq.alloc (.map #[] 0)).alloc (.map #[] 0)).cell 2 _ rfl
  have hc3 := ((hbq.alloc (.map #[] 0)).alloc (.map #[] 0)).cell 3 _ rfl
  have hc4 := ((hbq.alloc (.map #[] 0)).alloc (.map #[] 0)).cell 4 _ rfl
  have hc5 := ((hbq.alloc (.map #[] 0)).alloc (.map #[] 0)).cell 5 _ rfl
  have hc6 := ((hbq.alloc (.map #[] 0)).alloc (.map #[] 0)).cell 6 _ rfl
  have hc7 := ((hbq.alloc (.map #[] 0)).alloc (.map #[] 0)).cell 7 _ rfl
  have hc8 := ((hbq.alloc (.map #[] 0)).alloc (.map #[] 0)).cell 8 _ rfl
  have hc9 := ((hbq.alloc (.map #[] 0)).alloc (.map #[] 0)).cell 9 _ rfl
  have hn1 := CornAt.test H1.out
  have hu1 := CornAt.guard H1.out
  have hn2 := CornAt.test H2.out
  have hu2 := CornAt.guard H2.out
  have hn3 := CornAt.test H3.out
  have hu3 := CornAt.guard H3.out
  have hn4 := CornAt.test H4.out
  have hu4 := CornAt.guard H4.out
  have hn5 := FV.test H5.out
  have hu5 := FV.guard H5.out
  go_enter Try.func42, Try.ntmps42
  go_upto_if 17 with (first
    | (at_mapUpdate; have _t := tok0; clear _t tok0; refine wp_put _ rfl _ _ _ 105 rfl 20 Try.underlying105 w.heap.size [] rfl ((MapAt.at (by simp)).alloc _) (by simp [maxLen]) s_geo_bounding_box rfl (by decide) _ rfl ?_; intro w1 hm hg
       have hx1 : Ext w w1 := ext_put (ext_alloc (ext_alloc (ext_refl _) _) _) hg (by omega)
       have hl1 : MapAt w1 (w.heap.size + 1) [] := (MapAt.at (by simp)).grown hg (someNe (by omega))
       have hlt0 := hm.lt
       have hlt1 := hl1.lt
       have hb1 := hbq.ext hx1
       have hb1a := hb1.alloc (.map #[] 0)
       have hbl1 := hb1.lt
       have hc0 := hb1a.cell 0 _ rfl; have hc1 := hb1a.cell 1 _ rfl; have hc2 := hb1a.cell 2 _ rfl; have hc3 := hb1a.cell 3 _ rfl; have hc4 := hb1a.cell 4 _ rfl; have hc5 := hb1a.cell 5 _ rfl; have hc6 := hb1a.cell 6 _ rfl; have hc7 := hb1a.cell 7 _ rfl; have hc8 := hb1a.cell 8 _ rfl; have hc9 := hb1a.cell 9 _ rfl
       clear hg)
    | fail)
  have hxa : Ext w (w1.alloc (.map #[] 0)) := ext_alloc hx1 _
  have hm0 : MapAt (w1.alloc (.map #[] 0)) w.heap.size [(s_geo_bounding_box, .iface 105 (.map (some (w.heap.size + 1))))] := hm.alloc _
  have hm1 : MapAt (w1.alloc (.map #[] 0)) (w.heap.size + 1) [] := hl1.alloc _
  have hm2 : MapAt (w1.alloc (.map #[] 0)) w1.heap.size [] := MapAt.at rfl
  have hq2 := hm2.lt
  have hs1 := hx1.sz
  have hP0 : PJ (fun b => b < w.heap.size) (w1.alloc (.map #[] 0)) [] ([] : List (ByteArray × J)) := PJ.nil _ _
  go_cut [] (fun wc => Ext w wc ∧ w1.heap.size < wc.heap.size ∧ MapAt wc w.heap.size [(s_geo_bounding_box, .iface 105 (.map (some (w.heap.size + 1))))] ∧ MapAt wc (w.heap.size + 1) [] ∧ ∃ rp, rp.length ≤ 4 ∧ MapAt wc w1.heap.size rp ∧ ∃ pj, jBox o5 o1 o2 o4 o3 = jMap pj ∧ PJ (fun b => b < w.heap.size) wc rp pj)
  case first =>
    cases o5 with
    | some t5 =>
      simp only [Option.isSome_some]
      clear hn5 hu5
      obtain ⟨ty, xx, hv, hJJ⟩ := H5.out
      subst hv
      go_wp2_with (at_mapUpdate; refine wp_put _ rfl _ _ _ 105 rfl 20 Try.underlying105 w1.heap.size [] rfl hm2 (by simp [maxLen]) s_wkt rfl (by decide) _ rfl ?_; intro wn hnn hgn)
      go_meet
      case rel =>
        have hxn := ext_put hxa hgn (by omega)
        exact ⟨hxn, hnn.lt, hm0.grown hgn (someNe (by omega)), hm1.grown hgn (someNe (by omega)), [(s_wkt, .iface ty xx)], by simp, hnn, [(s_wkt, jOf t5)], rfl, ⟨rfl, by simp only [List.map_cons, List.map_nil, JsAt]; exact ⟨JAt.no (w := w) (hJJ w), trivial⟩⟩⟩
    | none =>
      simp only [Option.isSome_none]
      go_upto_if 27 with fail
      go_cut [] (fun wc => Ext w wc ∧ w1.heap.size < wc.heap.size ∧ MapAt wc w.heap.size [(s_geo_bounding_box, .iface 105 (.map (some (w.heap.size + 1))))] ∧ MapAt wc (w.heap.size + 1) [] ∧ ∃ rp, rp.length ≤ 1 ∧ MapAt wc w1.heap.size rp ∧ PJ (fun b => b < w.heap.size) wc rp (jC s_top_left o1))
      case first =>
        cases o1 with
        | none =>
          simp only [Option.isSome_none]
          go_wp2_with fail
          go_meet
          case rel =>
            refine ⟨hxa, hq2, hm0, hm1, [], by simp, hm2, ?_⟩
            rw [show jC s_top_left none = [] from rfl]
            exact hP0
        | some jc =>
          simp only [Option.isSome_some]
          clear hn1 hu1
          obtain ⟨ty, xx, hv, hJJ⟩ := H1.out
          subst hv
          have HJJ := Lib.hid hJJ
          clear hJJ
          go_wp2_with (at_mapUpdate; refine wp_put _ rfl _ _ _ 105 rfl 20 Try.underlying105 w1.heap.size [] rfl hm2 (by simp [maxLen]) s_top_left rfl (by decide) _ rfl ?_; intro wn hnn hgn)
          go_meet
          case rel =>
            have hxn := ext_put hxa hgn (by omega)
            refine ⟨hxn, hnn.lt, hm0.grown hgn (someNe (by omega)), hm1.grown hgn (someNe (by omega)), _, ?_, hnn, ?_⟩
            · rw [List.length_append]; exact Nat.succ_le_succ (by simp)
            · rw [show jC s_top_left (some jc) = [(s_top_left, jc)] from rfl]
              exact PJ.snoc (rp := []) (pj := []) (hP0.keep (fun _ h _ => h) (keeps_grown hgn (fun b hb e => by simp only [Option.some.injEq] at e; omega))) (JAt.ext hxn HJJ.out)
      case rest =>
        obtain ⟨hxc, hszc, hm0c, hm1c, rp, hr, hnc, hpc⟩ := hcut
        have hbc := hbq.ext hxc
        have hc0 := hbc.cell 0 _ rfl
        have hc1 := hbc.cell 1 _ rfl
        have hc2 := hbc.cell 2 _ rfl
        have hc3 := hbc.cell 3 _ rfl
        have hc4 := hbc.cell 4 _ rfl
        have hc5 := hbc.cell 5 _ rfl
        have hc6 := hbc.cell 6 _ rfl
        have hc7 := hbc.cell 7 _ rfl
        have hc8 := hbc.cell 8 _ rfl
        have hc9 := hbc.cell 9 _ rfl
        go_upto_if 37 with fail
        go_cut [] (fun wc => Ext w wc ∧ w1.heap.size < wc.heap.size ∧ MapAt wc w.heap.size [(s_geo_bounding_box, .iface 105 (.map (some (w.heap.size + 1))))] ∧ MapAt wc (w.heap.size + 1) [] ∧ ∃ rp, rp.length ≤ 2 ∧ MapAt wc w1.heap.size rp ∧ PJ (fun b => b < w.heap.size) wc rp (jC s_top_left o1 ++ jC s_top_right o2))
        case first =>
          cases o2 with
          | none =>
            simp only [Option.isSome_none]
            go_wp2_with fail
            go_meet
            case rel =>
              refine ⟨hxc, hszc, hm0c, hm1c, rp, Nat.le_succ_of_le hr, hnc, ?_⟩
              rw [show jC s_top_right none = [] from rfl, List.append_nil]
              exact hpc
          | some jc =>
            simp only [Option.isSome_some]
            clear hn2 hu2
            obtain ⟨ty, xx, hv, hJJ⟩ := H2.out
            subst hv
            have HJJ := Lib.hid hJJ
            clear hJJ
            go_wp2_with (at_mapUpdate; refine wp_put _ rfl _ _ _ 105 rfl 20 Try.underlying105 w1.heap.size rp rfl hnc (Nat.lt_of_le_of_lt hr (by decide)) s_top_right rfl (by decide) _ rfl ?_; intro wn hnn hgn)
            go_meet
            case rel =>
              have hxn := ext_put hxc hgn (by omega)
              refine ⟨hxn, hnn.lt, hm0c.grown hgn (someNe (by omega)), hm1c.grown hgn (someNe (by omega)), _, ?_, hnn, ?_⟩
              · rw [List.length_append]; exact Nat.succ_le_succ (by exact hr)
              · rw [show jC s_top_right (some jc) = [(s_top_right, jc)] from rfl]
                exact PJ.snoc (hpc.keep (fun _ h _ => h) (keeps_grown hgn (fun b hb e => by simp only [Option.some.injEq] at e; omega))) (JAt.ext hxn HJJ.out)
        case rest =>
          obtain ⟨hxc, hszc, hm0c, hm1c, rp, hr, hnc, hpc⟩ := hcut
          have hbc := hbq.ext hxc
          have hc0 := hbc.cell 0 _ rfl
          have hc1 := hbc.cell 1 _ rfl
          have hc2 := hbc.cell 2 _ rfl
          have hc3 := hbc.cell 3 _ rfl
          have hc4 := hbc.cell 4 _ rfl
          have hc5 := hbc.cell 5 _ rfl
          have hc6 := hbc.cell 6 _ rfl
          have hc7 := hbc.cell 7 _ rfl
          have hc8 := hbc.cell 8 _ rfl
          have hc9 := hbc.cell 9 _ rfl
          go_upto_if 47 with fail
          go_cut [] (fun wc => Ext w wc ∧ w1.heap.size < wc.heap.size ∧ MapAt wc w.heap.size [(s_geo_bounding_box, .iface 105 (.map (some (w.heap.size + 1))))] ∧ MapAt wc (w.heap.size + 1) [] ∧ ∃ rp, rp.length ≤ 3 ∧ MapAt wc w1.heap.size rp ∧ PJ (fun b => b < w.heap.size) wc rp (jC s_top_left o1 ++ jC s_top_right o2 ++ jC s_bottom_left o4))
          case first =>
            cases o4 with
            | none =>
              simp only [Option.isSome_none]
              go_wp2_with fail
              go_meet
              case rel =>
                refine ⟨hxc, hszc, hm0c, hm1c, rp, Nat.le_succ_of_le hr, hnc, ?_⟩
                rw [show jC s_bottom_left none = [] from rfl, List.append_nil]
                exact hpc
            | some jc =>
              simp only [Option.isSome_some]
              clear hn4 hu4
              obtain ⟨ty, xx, hv, hJJ⟩ := H4.out
              subst hv
              have HJJ := Lib.hid hJJ
              clear hJJ
              go_wp2_with (at_mapUpdate; refine wp_put _ rfl _ _ _ 105 rfl 20 Try.underlying105 w1.heap.size rp rfl hnc (Nat.lt_of_le_of_lt hr (by decide)) s_bottom_left rfl (by decide) _ rfl ?_; intro wn hnn hgn)
              go_meet
              case rel =>
                have hxn := ext_put hxc hgn (by omega)
                refine ⟨hxn, hnn.lt, hm0c.grown hgn (someNe (by omega)), hm1c.grown hgn (someNe (by omega)), _, ?_, hnn, ?_⟩
                · rw [List.length_append]; exact Nat.succ_le_succ (by exact hr)
                · rw [show jC s_bottom_left (some jc) = [(s_bottom_left, jc)] from rfl]
                  exact PJ.snoc (hpc.keep (fun _ h _ => h) (keeps_grown hgn (fun b hb e => by simp only [Option.some.injEq] at e; omega))) (JAt.ext hxn HJJ.out)
          case rest =>
            obtain ⟨hxc, hszc, hm0c, hm1c, rp, hr, hnc, hpc⟩ := hcut
            have hbc := hbq.ext hxc
            have hc0 := hbc.cell 0 _ rfl
            have hc1 := hbc.cell 1 _ rfl
            have hc2 := hbc.cell 2 _ rfl
            have hc3 := hbc.cell 3 _ rfl
            have hc4 := hbc.cell 4 _ rfl
            have hc5 := hbc.cell 5 _ rfl
            have hc6 := hbc.cell 6 _ rfl
            have hc7 := hbc.cell 7 _ rfl
            have hc8 := hbc.cell 8 _ rfl
            have hc9 := hbc.cell 9 _ rfl
            go_upto_if 57 with fail
            go_cut [] (fun wc => Ext w wc ∧ w1.heap.size < wc.heap.size ∧ MapAt wc w.heap.size [(s_geo_bounding_box, .iface 105 (.map (some (w.heap.size + 1))))] ∧ MapAt wc (w.heap.size + 1) [] ∧ ∃ rp, rp.length ≤ 4 ∧ MapAt wc w1.heap.size rp ∧ PJ (fun b => b < w.heap.size) wc rp (jC s_top_left o1 ++ jC s_top_right o2 ++ jC s_bottom_left o4 ++ jC s_bottom_right o3))
            case first =>
              cases o3 with
              | none =>
                simp only [Option.isSome_none]
                go_wp2_with fail
                go_meet
                case rel =>
                  refine ⟨hxc, hszc, hm0c, hm1c, rp, Nat.le_succ_of_le hr, hnc, ?_⟩
                  rw [show jC s_bottom_right none = [] from rfl, List.append_nil]
                  exact hpc
              | some jc =>
                simp only [Option.isSome_some]
                clear hn3 hu3
                obtain ⟨ty, xx, hv, hJJ⟩ := H3.out
                subst hv
                have HJJ := Lib.hid hJJ
                clear hJJ
                go_wp2_with (at_mapUpdate; refine wp_put _ rfl _ _ _ 105 rfl 20 Try.underlying105 w1.heap.size rp rfl hnc (Nat.lt_of_le_of_lt hr (by decide)) s_bottom_right rfl (by decide) _ rfl ?_; intro wn hnn hgn)
                go_meet
                case rel =>
                  have hxn := ext_put hxc hgn (by omega)
                  refine ⟨hxn, hnn.lt, hm0c.grown hgn (someNe (by omega)), hm1c.grown hgn (someNe (by omega)), _, ?_, hnn, ?_⟩
                  · rw [List.length_append]; exact Nat.succ_le_succ (by exact hr)
                  · rw [show jC s_bottom_right (some jc) = [(s_bottom_right, jc)] from rfl]
                    exact PJ.snoc (hpc.keep (fun _ h _ => h) (keeps_grown hgn (fun b hb e => by simp only [Option.some.injEq] at e; omega))) (JAt.ext hxn HJJ.out)
            case rest =>
              obtain ⟨hxc, hszc, hm0c, hm1c, rp, hr, hnc, hpc⟩ := hcut
              have hbc := hbq.ext hxc
              have hc0 := hbc.cell 0 _ rfl
              have hc1 := hbc.cell 1 _ rfl
              have hc2 := hbc.cell 2 _ rfl
              have hc3 := hbc.cell 3 _ rfl
              have hc4 := hbc.cell 4 _ rfl
              have hc5 := hbc.cell 5 _ rfl
              have hc6 := hbc.cell 6 _ rfl
              have hc7 := hbc.cell 7 _ rfl
              have hc8 := hbc.cell 8 _ rfl
              have hc9 := hbc.cell 9 _ rfl
              go_wp2_with fail
              go_meet
              case rel => exact ⟨hxc, hszc, hm0c, hm1c, rp, hr, hnc, _, rfl, hpc⟩
  case rest =>
    obtain ⟨hxc, hszc, hm0c, hm1c, rp, hr, hnc, pj, hpj, hpc⟩ := hcut
    have hbc := hbq.ext hxc
    have hc0 := hbc.cell 0 _ rfl
    have hc1 := hbc.cell 1 _ rfl
    have hc2 := hbc.cell 2 _ rfl
    have hc3 := hbc.cell 3 _ rfl
    have hc4 := hbc.cell 4 _ rfl
    have hc5 := hbc.cell 5 _ rfl
    have hc6 := hbc.cell 6 _ rfl
    have hc7 := hbc.cell 7 _ rfl
    have hc8 := hbc.cell 8 _ rfl
    have hc9 := hbc.cell 9 _ rfl
    have hblc := hbc.lt
    go_upto_if 74 with (first
      | (at_mapUpdate; refine wp_put _ rfl _ _ _ 105 rfl 20 Try.underlying105 (w.heap.size + 1) [] rfl hm1c (by simp [maxLen]) f rfl hf_le _ rfl ?_; intro w2 hmf hgf
         have hx2 : Ext w w2 := ext_put hxc hgf (by omega)
         have hb2 := hbq.ext hx2
         have hc0 := hb2.cell 0 _ rfl; have hc1 := hb2.cell 1 _ rfl; have hc2 := hb2.cell 2 _ rfl; have hc3 := hb2.cell 3 _ rfl; have hc4 := hb2.cell 4 _ rfl; have hc5 := hb2.cell 5 _ rfl; have hc6 := hb2.cell 6 _ rfl; have hc7 := hb2.cell 7 _ rfl; have hc8 := hb2.cell 8 _ rfl; have hc9 := hb2.cell 9 _ rfl)
      | fail)
    have hx0 : Ext w w2 := hx2
    have hm0 : MapAt w2 w.heap.size [(s_geo_bounding_box, .iface 105 (.map (some (w.heap.size + 1))))] := hm0c.grown hgf (someNe (by omega))
    have hm1 := hmf
    have hne0 : w.heap.size ≠ w.heap.size + 1 := by omega
    have hbx : JAt (fun b => b ≠ w.heap.size ∧ b ≠ w.heap.size + 1) w2 (.iface 105 (.map (some w1.heap.size))) (jBox o5 o1 o2 o4 o3) := by
      rw [hpj]
      exact PJ.map ((hpc.keep (S' := (fun b => b ≠ w.heap.size ∧ b ≠ w.heap.size + 1)) (fun b hb _ => by omega) (keeps_grown hgf (fun b hb e => by simp only [Option.some.injEq] at e; omega)))) (hnc.grown hgf (someNe (by omega))) (by omega) (by have h8 := hpc.len; omega)
    have hp0 : PJ (fun b => b ≠ w.heap.size ∧ b ≠ w.heap.size + 1) w2 [(f, .iface 105 (.map (some w1.heap.size)))] ([(f, jBox o5 o1 o2 o4 o3)]) := ⟨rfl, by simp only [List.map_cons, List.map_nil, JsAt]; exact ⟨hbx, trivial⟩⟩
    go_cut [] (fun wc => Ext w wc ∧ MapAt wc w.heap.size [(s_geo_bounding_box, .iface 105 (.map (some (w.heap.size + 1))))] ∧ ∃ rp, rp.length ≤ 2 ∧ MapAt wc (w.heap.size + 1) rp ∧ PJ (fun b => b ≠ w.heap.size ∧ b ≠ w.heap.size + 1) wc rp ([(f, jBox o5 o1 o2 o4 o3)] ++ jT s_type (o6)))
    case first =>
      cases hE : v6.toList.isEmpty
      · have hE1 := jT_some (k := s_type) H6.out hE
        go_wp2_with (at_mapUpdate; refine wp_put _ rfl _ _ _ 105 rfl 20 Try.underlying105 (w.heap.size + 1) [(f, .iface 105 (.map (some w1.heap.size)))] rfl hm1 (by simp [maxLen]) s_type rfl (by decide) _ rfl ?_; intro wn hnn hgn)
        go_meet
        case rel =>
          have hxn := ext_put hx0 hgn (by omega)
          refine ⟨hxn, hm0.grown hgn (someNe hne0), _, ?_, hnn, ?_⟩
          · rw [List.length_append]; exact Nat.succ_le_succ (by simp)
          · rw [hE1]
            exact PJ.snoc (hp0.keep (fun _ h _ => h) (keeps_grown hgn (fun b hb e => by simp only [Option.some.injEq] at e; omega))) (by simp only [JAt]; rfl)
      · have hE1 := jT_none (k := s_type) H6.out hE
        go_wp2_with fail
        go_meet
        case rel =>
          refine ⟨hx0, hm0, [(f, .iface 105 (.map (some w1.heap.size)))], by simp, hm1, ?_⟩
          rw [hE1, List.append_nil]
          exact hp0
    case rest =>
      obtain ⟨hxc, hm0_0, rp, hr, hnc, hpc⟩ := hcut
      have hbc := hbq.ext hxc
      have hc0 := hbc.cell 0 _ rfl
      have hc1 := hbc.cell 1 _ rfl
      have hc2 := hbc.cell 2 _ rfl
      have hc3 := hbc.cell 3 _ rfl
      have hc4 := hbc.cell 4 _ rfl
      have hc5 := hbc.cell 5 _ rfl
      have hc6 := hbc.cell 6 _ rfl
      have hc7 := hbc.cell 7 _ rfl
      have hc8 := hbc.cell 8 _ rfl
      have hc9 := hbc.cell 9 _ rfl
      go_upto_if 85 with fail
      go_cut [] (fun wc => Ext w wc ∧ MapAt wc w.heap.size [(s_geo_bounding_box, .iface 105 (.map (some (w.heap.size + 1))))] ∧ ∃ rp, rp.length ≤ 3 ∧ MapAt wc (w.heap.size + 1) rp ∧ PJ (fun b => b ≠ w.heap.size ∧ b ≠ w.heap.size + 1) wc rp ([(f, jBox o5 o1 o2 o4 o3)] ++ jT s_type (o6) ++ jT s_validation_method (o7)))
      case first =>
        cases hE : v7.toList.isEmpty
        · have hE1 := jT_some (k := s_validation_method) H7.out hE
          go_wp2_with (at_mapUpdate; refine wp_put _ rfl _ _ _ 105 rfl 20 Try.underlying105 (w.heap.size + 1) rp rfl hnc (Nat.lt_of_le_of_lt hr (by decide)) s_validation_method rfl (by decide) _ rfl ?_; intro wn hnn hgn)
          go_meet
          case rel =>
            have hxn := ext_put hxc hgn (by omega)
            refine ⟨hxn, hm0_0.grown hgn (someNe hne0), _, ?_, hnn, ?_⟩
            · rw [List.length_append]; exact Nat.succ_le_succ (by exact hr)
            · rw [hE1]
              exact PJ.snoc (hpc.keep (fun _ h _ => h) (keeps_grown hgn (fun b hb e => by simp only [Option.some.injEq] at e; omega))) (by simp only [JAt]; rfl)
        · have hE1 := jT_none (k := s_validation_method) H7.out hE
          go_wp2_with fail
          go_meet
          case rel =>
            refine ⟨hxc, hm0_0, rp, Nat.le_succ_of_le hr, hnc, ?_⟩
            rw [hE1, List.append_nil]
            exact hpc
      case rest =>
        obtain ⟨hxc, hm0_1, rp, hr, hnc, hpc⟩ := hcut
        have hbc := hbq.ext hxc
        have hc0 := hbc.cell 0 _ rfl
        have hc1 := hbc.cell 1 _ rfl
        have hc2 := hbc.cell 2 _ rfl
        have hc3 := hbc.cell 3 _ rfl
        have hc4 := hbc.cell 4 _ rfl
        have hc5 := hbc.cell 5 _ rfl
        have hc6 := hbc.cell 6 _ rfl
        have hc7 := hbc.cell 7 _ rfl
        have hc8 := hbc.cell 8 _ rfl
        have hc9 := hbc.cell 9 _ rfl
        go_upto_if 96 with fail
        go_cut [] (fun wc => Ext w wc ∧ MapAt wc w.heap.size [(s_geo_bounding_box, .iface 105 (.map (some (w.heap.size + 1))))] ∧ ∃ rp, rp.length ≤ 4 ∧ MapAt wc (w.heap.size + 1) rp ∧ PJ (fun b => b ≠ w.heap.size ∧ b ≠ w.heap.size + 1) wc rp ([(f, jBox o5 o1 o2 o4 o3)] ++ jT s_type (o6) ++ jT s_validation_method (o7) ++ jY s_ignore_unmapped (o8)))
        case first =>
          cases o8 with
          | none =>
            have hv : v8 = none := H8.out
            subst hv
            go_wp2_with fail
            go_meet
            case rel =>
              refine ⟨hxc, hm0_1, rp, Nat.le_succ_of_le hr, hnc, ?_⟩
              rw [show jY s_ignore_unmapped none = [] from rfl, List.append_nil]
              exact hpc
          | some t8 =>
            obtain ⟨cc, hv, hSc, hcc⟩ := H8.out
            subst hv
            have hcc := hxc.cell hcc
            go_wp2_with (at_mapUpdate; refine wp_put _ rfl _ _ _ 105 rfl 20 Try.underlying105 (w.heap.size + 1) rp rfl hnc (Nat.lt_of_le_of_lt hr (by decide)) s_ignore_unmapped rfl (by decide) _ rfl ?_; intro wn hnn hgn)
            go_meet
            case rel =>
              have hxn := ext_put hxc hgn (by omega)
              refine ⟨hxn, hm0_1.grown hgn (someNe hne0), _, ?_, hnn, ?_⟩
              · rw [List.length_append]; exact Nat.succ_le_succ (by exact hr)
              · rw [show jY s_ignore_unmapped (some t8) = [(s_ignore_unmapped, .yes t8.yes)] from rfl]
                exact PJ.snoc (hpc.keep (fun _ h _ => h) (keeps_grown hgn (fun b hb e => by simp only [Option.some.injEq] at e; omega))) (by simp only [JAt]; rfl)
        case rest =>
          obtain ⟨hxc, hm0_2, rp, hr, hnc, hpc⟩ := hcut
          have hbc := hbq.ext hxc
          have hc0 := hbc.cell 0 _ rfl
          have hc1 := hbc.cell 1 _ rfl
          have hc2 := hbc.cell 2 _ rfl
          have hc3 := hbc.cell 3 _ rfl
          have hc4 := hbc.cell 4 _ rfl
          have hc5 := hbc.cell 5 _ rfl
          have hc6 := hbc.cell 6 _ rfl
          have hc7 := hbc.cell 7 _ rfl
          have hc8 := hbc.cell 8 _ rfl
          have hc9 := hbc.cell 9 _ rfl
          go_upto_if 109 with fail
          go_cut [] (fun wc => Ext w wc ∧ MapAt wc w.heap.size [(s_geo_bounding_box, .iface 105 (.map (some (w.heap.size + 1))))] ∧ ∃ rp, rp.length ≤ 5 ∧ MapAt wc (w.heap.size + 1) rp ∧ PJ (fun b => b ≠ w.heap.size ∧ b ≠ w.heap.size + 1) wc rp ([(f, jBox o5 o1 o2 o4 o3)] ++ jT s_type (o6) ++ jT s_validation_method (o7) ++ jY s_ignore_unmapped (o8) ++ jT s_name (o9)))
          case first =>
            cases hE : v9.toList.isEmpty
            · have hE1 := jT_some (k := s_name) H9.out hE
              go_wp2_with (at_mapUpdate; refine wp_put _ rfl _ _ _ 105 rfl 20 Try.underlying105 (w.heap.size + 1) rp rfl hnc (Nat.lt_of_le_of_lt hr (by decide)) s_name rfl (by decide) _ rfl ?_; intro wn hnn hgn)
              go_meet
              case rel =>
                have hxn := ext_put hxc hgn (by omega)
                refine ⟨hxn, hm0_2.grown hgn (someNe hne0), _, ?_, hnn, ?_⟩
                · rw [List.length_append]; exact Nat.succ_le_succ (by exact hr)
                · rw [hE1]
                  exact PJ.snoc (hpc.keep (fun _ h _ => h) (keeps_grown hgn (fun b hb e => by simp only [Option.some.injEq] at e; omega))) (by simp only [JAt]; rfl)
            · have hE1 := jT_none (k := s_name) H9.out hE
              go_wp2_with fail
              go_meet
              case rel =>
                refine ⟨hxc, hm0_2, rp, Nat.le_succ_of_le hr, hnc, ?_⟩
                rw [hE1, List.append_nil]
                exact hpc
          case rest =>
            obtain ⟨hxc, hm0_3, rp, hr, hnc, hpc⟩ := hcut
            have hbc := hbq.ext hxc
            have hc0 := hbc.cell 0 _ rfl
            have hc1 := hbc.cell 1 _ rfl
            have hc2 := hbc.cell 2 _ rfl
            have hc3 := hbc.cell 3 _ rfl
            have hc4 := hbc.cell 4 _ rfl
            have hc5 := hbc.cell 5 _ rfl
            have hc6 := hbc.cell 6 _ rfl
            have hc7 := hbc.cell 7 _ rfl
            have hc8 := hbc.cell 8 _ rfl
            have hc9 := hbc.cell 9 _ rfl
            go_wp2_with fail
            go_ret2
            refine ⟨_, rfl, ?_, hxc⟩
            exact jMap_one hm0_3 trivial (hpc.wide.map hnc trivial (by have := hpc.len; omega))
end Go.Proofs.Ytfngaoicoecncaa
