/-
  What the builder of a query (GeoDistance) makes of its settings.
-/
import Derived.Test.YtdjojnlejkljdaaGd
namespace Go.Proofs.Ytdjojnlejkljdaa
open Go.RowKit

set_option maxRecDepth 20000 in
set_option maxHeartbeats 4000000 in
theorem geoDistance_src {S : Nat → Prop} (w : World) (bq : Nat) (f : ByteArray) (hf_le : f.size ≤ maxLen) (v1 : ByteArray) (o1 : Option T) (h1 : v1 = fT o1) (fa : Nat) (fo : Nat) (v4 : ByteArray) (o4 : Option T) (h4 : v4 = fT o4) (v5 : ByteArray) (o5 : Option T) (h5 : v5 = fT o5) (v6 : ByteArray) (o6 : Option T) (h6 : v6 = fT o6) (hbq : Box w bq #[.string f, .string v1, .float .f64 fa, .float .f64 fo, .string v4, .string v5, .string v6] 157) :
    Calls Try.prog 82 #[.pointer (some ⟨bq, 0, none⟩)] w fun r w' => ∃ v, r = .returned (.tuple #[v, .nilIface]) ∧ JAt (fun _ => True) w' v (jMap [(s_geo_distance, jMap (jPt f (fT (o4)) fa fo ++ jT s_distance (o1) ++ jT s_distance_type (o5) ++ jT s_name (o6)))]) ∧ Ext w w' := by
  have tok0 := trivial
  have hblt := hbq.lt
  have H1 := Lib.hid h1
  have H4 := Lib.hid h4
  have H5 := Lib.hid h5
  have H6 := Lib.hid h6
  clear h1 h4 h5 h6
  have hc0 := hbq.cell 0 _ rfl
  have hc1 := hbq.cell 1 _ rfl
  have hc2 := hbq.cell 2 _ rfl
  have hc3 := hbq.cell 3 _ rfl
  have hc4 := hbq.cell 4 _ rfl
  have hc5 := hbq.cell 5 _ rfl
  have hc6 := hbq.cell 6 _ rfl
  go_enter Try.func82, Try.ntmps82
  go_upto_if 13 with fail
  have hx0 : Ext w ((w.alloc (.map #[] 0)).alloc (.map #[] 0)) := ext_alloc (ext_alloc (ext_refl _) _) _
  have hm0 : MapAt ((w.alloc (.map #[] 0)).alloc (.map #[] 0)) w.heap.size [] := (MapAt.at (by simp)).alloc _
  have hm1 : MapAt ((w.alloc (.map #[] 0)).alloc (.map #[] 0)) (w.heap.size + 1) [] := MapAt.at (by simp)
  have hz0 := hm0.lt
  have hz1 := hm1.lt
  have hne0 : w.heap.size ≠ (w.heap.size + 1) := by omega
  have hw1 : w.heap.size ≤ (w.heap.size + 1) := by have := hx0.sz; omega
  have hp0 : PJ (fun b => b ≠ w.heap.size ∧ b ≠ w.heap.size + 1) ((w.alloc (.map #[] 0)).alloc (.map #[] 0)) [] (([] : List (ByteArray × J))) := PJ.nil _ _
  go_cut [] (fun wc => Ext w wc ∧ MapAt wc w.heap.size [] ∧ ∃ rp, rp.length ≤ 1 ∧ MapAt wc (w.heap.size + 1) rp ∧ PJ (fun b => b ≠ w.heap.size ∧ b ≠ w.heap.size + 1) wc rp (jPt f (fT (o4)) fa fo))
  case first =>
    cases hE : v4.toList.isEmpty
    · skip
      go_upto_region 4 with fail
      refine wp_region_order (fun (w' : World) => w'.cell? ⟨bq, 0, none⟩ = some (.string f) ∧ w'.cell? ⟨bq, 4, none⟩ = some (.string v4)) [0, 1, 2, 3, 4, 5, 6, 7, 8, 9] [0, 1, 2, 3, 4, 5, 6, 7, 8, 9, 10] (by kernel_rfl) (by kernel_rfl) (fun d _ _ _ _ h => by cases d <;> exact h) (by kernel_rfl) ?_
      have hbw : Box ((w.alloc (.map #[] 0)).alloc (.map #[] 0)) bq #[.string f, .string v1, .float .f64 fa, .float .f64 fo, .string v4, .string v5, .string v6] 157 := (hbq.alloc _).alloc _
      have hS : (fun (w' : World) => w'.cell? ⟨bq, 0, none⟩ = some (.string f) ∧ w'.cell? ⟨bq, 4, none⟩ = some (.string v4)) (((w.alloc (.map #[] 0)).alloc (.map #[] 0))).drew := ⟨hbw.drew.cell 0 _ rfl, hbw.drew.cell 4 _ rfl⟩
      iterate 10 (apply ord_held rfl rfl (by assumption) rfl; (focus ((intro w' hS'); go_simp; (try with_reducible rfl))); (try simp only [Act.put, List.setIfInBounds_toArray, List.set_cons_zero, List.set_cons_succ]))
      apply ord_last rfl rfl rfl (by kernel_rfl)
      intro K hK
      refine op_put _ _ _ _ 149 rfl 20 Try.underlying149 (w.heap.size + 1) [] rfl hm1.drew (by simp [maxLen]) f rfl hf_le _ rfl ?_
      intro wn hnn hgn
      refine hK _ _ ?_
      clear hK K hS
      refine ord_end ?_
      go_wp2_with fail
      go_meet
      case rel =>
        have hxn := ext_put (ext_drew hx0) hgn (by omega)
        refine ⟨hxn, hm0.drew.grown hgn (someNe hne0), [(f, .iface 9 (.string v4))], by simp, hnn, ?_⟩
        rw [← H4.out, jPt_text hE]
        exact ⟨rfl, by simp [JsAt, JAt]⟩
    · skip
      have tkP1 := trivial
      have tkP2 := trivial
      have hbw := ((hbq.alloc (.map #[] 0)).alloc (.map #[] 0)).alloc (.map #[] 0)
      have hc0 := hbw.cell 0 _ rfl
      have hc2 := hbw.cell 2 _ rfl
      have hc3 := hbw.cell 3 _ rfl
      go_wp2_with (first
        | (at_mapUpdate; have _t := tkP1; clear _t tkP1; refine wp_put _ rfl _ _ _ 149 rfl 20 Try.underlying149 (w.heap.size + 2) [] rfl (MapAt.at (by simp)) (by simp [maxLen]) s_lat rfl (by decide) _ rfl ?_; intro wa hma hga
           have hxa : Ext w wa := ext_put (ext_alloc hx0 _) hga (by omega)
           have hm0a := (hm0.alloc (.map #[] 0)).grown hga (someNe (by omega))
           have hm1a := (hm1.alloc (.map #[] 0)).grown hga (someNe (by omega))
           have hla := hma.lt
           have hla1 := hm1a.lt
           have hba := hbq.ext hxa; have hc0 := hba.cell 0 _ rfl; have hc1 := hba.cell 1 _ rfl; have hc2 := hba.cell 2 _ rfl; have hc3 := hba.cell 3 _ rfl; have hc4 := hba.cell 4 _ rfl; have hc5 := hba.cell 5 _ rfl; have hc6 := hba.cell 6 _ rfl)
        | (at_mapUpdate; have _t := tkP2; clear _t tkP2; refine wp_put _ rfl _ _ _ 149 rfl 20 Try.underlying149 (w.heap.size + 2) [(s_lat, .iface 22 (.float .f64 fa))] rfl hma (by simp [maxLen]) s_lon rfl (by decide) _ rfl ?_; intro wb hmb hgb
           have hxb : Ext w wb := ext_put hxa hgb (by omega)
           have hm0b := hm0a.grown hgb (someNe (by omega))
           have hm1b := hm1a.grown hgb (someNe (by omega))
           have hlb1 := hm1b.lt
           have hbb := hbq.ext hxb; have hc0 := hbb.cell 0 _ rfl; have hc1 := hbb.cell 1 _ rfl; have hc2 := hbb.cell 2 _ rfl; have hc3 := hbb.cell 3 _ rfl; have hc4 := hbb.cell 4 _ rfl; have hc5 := hbb.cell 5 _ rfl; have hc6 := hbb.cell 6 _ rfl)
        | (at_mapUpdate; refine wp_put _ rfl _ _ _ 149 rfl 20 Try.underlying149 (w.heap.size + 1) [] rfl hm1b (by simp [maxLen]) f rfl hf_le _ rfl ?_; intro wn hnn hgn)
        | fail)
      go_meet
      case rel =>
        have hxn := ext_put hxb hgn (by omega)
        have hJm : JAt (fun b => b ≠ w.heap.size ∧ b ≠ w.heap.size + 1) wn (.iface 149 (.map (some (w.heap.size + 2)))) (jMap [(s_lat, .num fa), (s_lon, .num fo)]) := PJ.map (rp := [(s_lat, .iface 22 (.float .f64 fa)), (s_lon, .iface 22 (.float .f64 fo))]) ⟨rfl, by simp [JsAt, JAt]⟩ (hmb.grown hgn (someNe (by omega))) (by omega) (by simp)
        refine ⟨hxn, hm0b.grown hgn (someNe hne0), [(f, .iface 149 (.map (some (w.heap.size + 2))))], by simp, hnn, ?_⟩
        rw [← H4.out, jPt_nums hE]
        exact ⟨rfl, by simp only [List.map_cons, List.map_nil, JsAt]; exact ⟨hJm, trivial⟩⟩
  case rest =>
    obtain ⟨hxc, hm0_0, rp, hr, hnc, hpc⟩ := hcut
    have hbc := hbq.ext hxc
    have hc0 := hbc.cell 0 _ rfl
    have hc1 := hbc.cell 1 _ rfl
    have hc2 := hbc.cell 2 _ rfl
    have hc3 := hbc.cell 3 _ rfl
    have hc4 := hbc.cell 4 _ rfl
    have hc5 := hbc.cell 5 _ rfl
    have hc6 := hbc.cell 6 _ rfl
    go_upto_if 48 with fail
    go_cut [] (fun wc => Ext w wc ∧ MapAt wc w.heap.size [] ∧ ∃ rp, rp.length ≤ 2 ∧ MapAt wc (w.heap.size + 1) rp ∧ PJ (fun b => b ≠ w.heap.size ∧ b ≠ w.heap.size + 1) wc rp (jPt f (fT (o4)) fa fo ++ jT s_distance (o1)))
    case first =>
      cases hE : v1.toList.isEmpty
      · have hE1 := jT_some (k := s_distance) H1.out hE
        go_wp2_with (at_mapUpdate; refine wp_put _ rfl _ _ _ 149 rfl 20 Try.underlying149 (w.heap.size + 1) rp rfl hnc (Nat.lt_of_le_of_lt hr (by decide)) s_distance rfl (by decide) _ rfl ?_; intro wn hnn hgn)
        go_meet
        case rel =>
          have hxn := ext_put hxc hgn (by omega)
          refine ⟨hxn, hm0_0.grown hgn (someNe hne0), _, ?_, hnn, ?_⟩
          · rw [List.length_append]; exact Nat.succ_le_succ (by exact hr)
          · rw [hE1]
            exact PJ.snoc (hpc.keep (fun _ h _ => h) (keeps_grown hgn (fun b hb e => by simp only [Option.some.injEq] at e; omega))) (by simp only [JAt]; rfl)
      · have hE1 := jT_none (k := s_distance) H1.out hE
        go_wp2_with fail
        go_meet
        case rel =>
          refine ⟨hxc, hm0_0, rp, Nat.le_succ_of_le hr, hnc, ?_⟩
          rw [hE1, List.append_nil]
          exact hpc
    case rest =>
      obtain ⟨hxc, hm0_1, rp, hr, hnc, hpc⟩ := hcut
      have hbc := hbq.ext hxc
      have hc0 := hbc.cell 0 _ rfl
      have hc1 := hbc.cell 1 _ rfl
      have hc2 := hbc.cell 2 _ rfl
      have hc3 := hbc.cell 3 _ rfl
      have hc4 := hbc.cell 4 _ rfl
      have hc5 := hbc.cell 5 _ rfl
      have hc6 := hbc.cell 6 _ rfl
      go_upto_if 59 with fail
      go_cut [] (fun wc => Ext w wc ∧ MapAt wc w.heap.size [] ∧ ∃ rp, rp.length ≤ 3 ∧ MapAt wc (w.heap.size + 1) rp ∧ PJ (fun b => b ≠ w.heap.size ∧ b ≠ w.heap.size + 1) wc rp (jPt f (fT (o4)) fa fo ++ jT s_distance (o1) ++ jT s_distance_type (o5)))
      case first =>
        cases hE : v5.toList.isEmpty
        · have hE1 := jT_some (k := s_distance_type) H5.out hE
          go_wp2_with (at_mapUpdate; refine wp_put _ rfl _ _ _ 149 rfl 20 Try.underlying149 (w.heap.size + 1) rp rfl hnc (Nat.lt_of_le_of_lt hr (by decide)) s_distance_type rfl (by decide) _ rfl ?_; intro wn hnn hgn)
          go_meet
          case rel =>
            have hxn := ext_put hxc hgn (by omega)
            refine ⟨hxn, hm0_1.grown hgn (someNe hne0), _, ?_, hnn, ?_⟩
            · rw [List.length_append]; exact Nat.succ_le_succ (by exact hr)
            · rw [hE1]
              exact PJ.snoc (hpc.keep (fun _ h _ => h) (keeps_grown hgn (fun b hb e => by simp only [Option.some.injEq] at e; omega))) (by simp only [JAt]; rfl)
        · have hE1 := jT_none (k := s_distance_type) H5.out hE
          go_wp2_with fail
          go_meet
          case rel =>
            refine ⟨hxc, hm0_1, rp, Nat.le_succ_of_le hr, hnc, ?_⟩
            rw [hE1, List.append_nil]
            exact hpc
      case rest =>
        obtain ⟨hxc, hm0_2, rp, hr, hnc, hpc⟩ := hcut
        have hbc := hbq.ext hxc
        have hc0 := hbc.cell 0 _ rfl
        have hc1 := hbc.cell 1 _ rfl
        have hc2 := hbc.cell 2 _ rfl
        have hc3 := hbc.cell 3 _ rfl
        have hc4 := hbc.cell 4 _ rfl
        have hc5 := hbc.cell 5 _ rfl
        have hc6 := hbc.cell 6 _ rfl
        go_upto_if 70 with fail
        go_cut [] (fun wc => Ext w wc ∧ MapAt wc w.heap.size [] ∧ ∃ rp, rp.length ≤ 4 ∧ MapAt wc (w.heap.size + 1) rp ∧ PJ (fun b => b ≠ w.heap.size ∧ b ≠ w.heap.size + 1) wc rp (jPt f (fT (o4)) fa fo ++ jT s_distance (o1) ++ jT s_distance_type (o5) ++ jT s_name (o6)))
        case first =>
          cases hE : v6.toList.isEmpty
          · have hE1 := jT_some (k := s_name) H6.out hE
            go_wp2_with (at_mapUpdate; refine wp_put _ rfl _ _ _ 149 rfl 20 Try.underlying149 (w.heap.size + 1) rp rfl hnc (Nat.lt_of_le_of_lt hr (by decide)) s_name rfl (by decide) _ rfl ?_; intro wn hnn hgn)
            go_meet
            case rel =>
              have hxn := ext_put hxc hgn (by omega)
              refine ⟨hxn, hm0_2.grown hgn (someNe hne0), _, ?_, hnn, ?_⟩
              · rw [List.length_append]; exact Nat.succ_le_succ (by exact hr)
              · rw [hE1]
                exact PJ.snoc (hpc.keep (fun _ h _ => h) (keeps_grown hgn (fun b hb e => by simp only [Option.some.injEq] at e; omega))) (by simp only [JAt]; rfl)
          · have hE1 := jT_none (k := s_name) H6.out hE
            go_wp2_with fail
            go_meet
            case rel =>
              refine ⟨hxc, hm0_2, rp, Nat.le_succ_of_le hr, hnc, ?_⟩
              rw [hE1, List.append_nil]
              exact hpc
        case rest =>
          obtain ⟨hxc, hm0_3, rp, hr, hnc, hpc⟩ := hcut
          have hbc := hbq.ext hxc
          have hc0 := hbc.cell 0 _ rfl
          have hc1 := hbc.cell 1 _ rfl
          have hc2 := hbc.cell 2 _ rfl
          have hc3 := hbc.cell 3 _ rfl
          have hc4 := hbc.cell 4 _ rfl
          have hc5 := hbc.cell 5 _ rfl
          have hc6 := hbc.cell 6 _ rfl
          go_wp2_with (first
            | (at_mapUpdate; refine wp_put _ rfl _ _ _ 149 rfl 20 Try.underlying149 w.heap.size [] rfl hm0_3 (by simp [maxLen]) s_geo_distance rfl (by decide) _ rfl ?_; intro wt0 hmt0 hgt
               have hxt0 := ext_put hxc hgt (by omega)
               have hnt0 := hnc.grown hgt (someNe (by omega))
               have hpt0 := hpc.keep (S' := (fun b => b ≠ w.heap.size ∧ b ≠ w.heap.size + 1)) (fun _ h _ => h) (keeps_grown hgt (fun b hb e => by simp only [Option.some.injEq] at e; omega))
               have hbt := hbq.ext hxt0
               have hc0 := hbt.cell 0 _ rfl
               have hc1 := hbt.cell 1 _ rfl
               have hc2 := hbt.cell 2 _ rfl
               have hc3 := hbt.cell 3 _ rfl
               have hc4 := hbt.cell 4 _ rfl
               have hc5 := hbt.cell 5 _ rfl
               have hc6 := hbt.cell 6 _ rfl
               clear hgt hbt))
          go_ret2
          refine ⟨_, rfl, ?_, hxt0⟩
          exact jMap_one hmt0 trivial (hpt0.wide.map hnt0 trivial (by have := hpc.len; omega))
end Go.Proofs.Ytdjojnlejkljdaa
