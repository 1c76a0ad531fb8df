/-
  What the builder of a query (Term) makes of its settings.
-/
import Derived.Test.YtocfoheckgdonaaDoorNm
namespace Go.Proofs.YtocfoheckgdonaaDoor
open Go.RowKit

set_option maxRecDepth 20000 in
set_option maxHeartbeats 4000000 in
theorem term_src {S : Nat → Prop} (w : World) (bq : Nat) (f : ByteArray) (hf_le : f.size ≤ maxLen) (gty : TypeId) (gx : Value) (g : J) (hg : JAt (fun b => b < w.heap.size) w (.iface gty gx) g) (v2 : Option Addr) (o2 : Option T) (h2 : FN S w v2 o2) (v3 : Option Addr) (o3 : Option T) (h3 : FY S w v3 o3) (v4 : ByteArray) (o4 : Option T) (h4 : v4 = fT o4) (hbq : Box w bq #[.string f, .iface gty gx, .pointer v2, .pointer v3, .string v4] 115) :
    Calls Tryd.prog 66 #[.pointer (some ⟨bq, 0, none⟩)] w fun r w' => ∃ v, r = .returned (.tuple #[v, .nilIface]) ∧ JAt (fun _ => True) w' v (jMap [(s_term, jMap [(f, jShort (g) ([(s_value, g)]) (jN s_boost (o2) ++ jY s_case_insensitive (o3) ++ jT s_name (o4)))])]) ∧ Ext w w' := by
  have tok0 := trivial
  have hblt := hbq.lt
  have H2 := Lib.hid h2
  have H3 := Lib.hid h3
  have H4 := Lib.hid h4
  clear h2 h3 h4
  have Hg := Lib.hid hg
  clear hg
  cases o2 with
  | none =>
    have hv2 : v2 = none := H2.out
    subst hv2
    cases o3 with
    | none =>
      have hv3 : v3 = none := H3.out
      subst hv3
      cases hE4 : v4.toList.isEmpty
      · skip
        go_enter Tryd.func66, Tryd.ntmps66
        go_upto_if 50 with (first
          | (at_mapUpdate; have _t := tok0; refine wp_put _ rfl _ _ _ 101 rfl 20 Tryd.underlying101 w.heap.size [] rfl ((MapAt.at (by simp)).alloc _) (by simp [maxLen]) s_term rfl (by decide) _ rfl ?_; intro w1 hm hg; clear tok0
             have hx1 : Ext w w1 := ext_put (ext_alloc (ext_alloc (ext_refl _) _) _) hg (by omega)
             have hl0_1 := hm
             have hs0_1 := hl0_1.lt
             have hl1_1 : MapAt w1 (w.heap.size + 1) [] := (MapAt.at (by simp)).grown hg (someNe (by omega))
             have hs1_1 := hl1_1.lt
             have hb1 := hbq.ext hx1
             have hq1 := hb1.lt
             have hc0 := hb1.cell 0 _ rfl
             have hc1 := hb1.cell 1 _ rfl
             have hc2 := hb1.cell 2 _ rfl
             have hc3 := hb1.cell 3 _ rfl
             have hc4 := hb1.cell 4 _ rfl
             clear hg hm)
          | (at_mapUpdate; refine wp_put _ rfl _ _ _ 101 rfl 20 Tryd.underlying101 w1.heap.size [] rfl (MapAt.at (by simp)) (by simp [maxLen]) s_value rfl (by decide) _ rfl ?_; intro w2 hm hg
             have hx2 : Ext w w2 := ext_put (ext_alloc (hx1) _) hg (by omega)
             have hl0_2 : MapAt w2 w.heap.size [(s_term, .iface 101 (.map (some (w.heap.size + 1))))] := ((hl0_1).alloc _).grown hg (someNe (by omega))
             have hs0_2 := hl0_2.lt
             have hl1_2 : MapAt w2 (w.heap.size + 1) [] := ((hl1_1).alloc _).grown hg (someNe (by omega))
             have hs1_2 := hl1_2.lt
             have hl2_2 := hm
             have hs2_2 := hl2_2.lt
             have hb2 := hbq.ext hx2
             have hc0 := hb2.cell 0 _ rfl
             have hc1 := hb2.cell 1 _ rfl
             have hc2 := hb2.cell 2 _ rfl
             have hc3 := hb2.cell 3 _ rfl
             have hc4 := hb2.cell 4 _ rfl
             clear hg hm hl0_1 hl1_1)
          | fail)
        have hx0 : Ext w w2 := hx2
        have hm0 : MapAt w2 w.heap.size [(s_term, .iface 101 (.map (some (w.heap.size + 1))))] := hl0_2
        have hm1 : MapAt w2 (w.heap.size + 1) [] := hl1_2
        have hm2 : MapAt w2 w1.heap.size [(s_value, .iface gty gx)] := hl2_2
        have hz0 := hm0.lt
        have hz1 := hm1.lt
        have hz2 := hm2.lt
        have hne0 : w.heap.size ≠ w1.heap.size := by omega
        have hne1 : (w.heap.size + 1) ≠ w1.heap.size := by omega
        have hw2 : w.heap.size ≤ w1.heap.size := by have := hx0.sz; omega
        have hp0 : PJ (fun b => b < w.heap.size) w2 [(s_value, .iface gty gx)] ([(s_value, g)]) := ⟨rfl, by simp only [List.map_cons, List.map_nil, JsAt]; exact ⟨(Hg.out.ext hx0), trivial⟩⟩
        go_cut [] (fun wc => Ext w wc ∧ MapAt wc w.heap.size [(s_term, .iface 101 (.map (some (w.heap.size + 1))))] ∧ MapAt wc (w.heap.size + 1) [] ∧ ∃ rp, rp.length ≤ 2 ∧ MapAt wc w1.heap.size rp ∧ PJ (fun b => b < w.heap.size) wc rp ([(s_value, g)] ++ jN s_boost (none)))
        case first =>
            go_wp2_with fail
            go_meet
            case rel =>
              refine ⟨hx0, hm0, hm1, [(s_value, .iface gty gx)], by simp, hm2, ?_⟩
              rw [show jN s_boost none = [] from rfl, List.append_nil]
              exact hp0
        case rest =>
          obtain ⟨hxc, hm0_0, hm1_0, rp, hr, hnc, hpc⟩ := hcut
          have hbc := hbq.ext hxc
          have hc0 := hbc.cell 0 _ rfl
          have hc1 := hbc.cell 1 _ rfl
          have hc2 := hbc.cell 2 _ rfl
          have hc3 := hbc.cell 3 _ rfl
          have hc4 := hbc.cell 4 _ rfl
          go_upto_if 63 with fail
          go_cut [] (fun wc => Ext w wc ∧ MapAt wc w.heap.size [(s_term, .iface 101 (.map (some (w.heap.size + 1))))] ∧ MapAt wc (w.heap.size + 1) [] ∧ ∃ rp, rp.length ≤ 3 ∧ MapAt wc w1.heap.size rp ∧ PJ (fun b => b < w.heap.size) wc rp ([(s_value, g)] ++ jN s_boost (none) ++ jY s_case_insensitive (none)))
          case first =>
              go_wp2_with fail
              go_meet
              case rel =>
                refine ⟨hxc, hm0_0, hm1_0, rp, Nat.le_succ_of_le hr, hnc, ?_⟩
                rw [show jY s_case_insensitive none = [] from rfl, List.append_nil]
                exact hpc
          case rest =>
            obtain ⟨hxc, hm0_1, hm1_1, rp, hr, hnc, hpc⟩ := hcut
            have hbc := hbq.ext hxc
            have hc0 := hbc.cell 0 _ rfl
            have hc1 := hbc.cell 1 _ rfl
            have hc2 := hbc.cell 2 _ rfl
            have hc3 := hbc.cell 3 _ rfl
            have hc4 := hbc.cell 4 _ rfl
            go_upto_if 76 with fail
            go_cut [] (fun wc => Ext w wc ∧ MapAt wc w.heap.size [(s_term, .iface 101 (.map (some (w.heap.size + 1))))] ∧ MapAt wc (w.heap.size + 1) [] ∧ ∃ rp, rp.length ≤ 4 ∧ MapAt wc w1.heap.size rp ∧ PJ (fun b => b < w.heap.size) wc rp ([(s_value, g)] ++ jN s_boost (none) ++ jY s_case_insensitive (none) ++ jT s_name (o4)))
            case first =>
                have hE1 := jT_some (k := s_name) H4.out hE4
                go_wp2_with (at_mapUpdate; refine wp_put _ rfl _ _ _ 101 rfl 20 Tryd.underlying101 w1.heap.size rp rfl hnc (Nat.lt_of_le_of_lt hr (by decide)) s_name rfl (by decide) _ rfl ?_; intro wn hnn hgn)
                go_meet
                case rel =>
                  have hxn := ext_put hxc hgn (by omega)
                  refine ⟨hxn, hm0_1.grown hgn (someNe hne0), hm1_1.grown hgn (someNe hne1), _, ?_, hnn, ?_⟩
                  · rw [List.length_append]; exact Nat.succ_le_succ (by exact hr)
                  · rw [hE1]
                    exact PJ.snoc (hpc.moveB hxc hxn) (by simp only [JAt]; rfl)
            case rest =>
              obtain ⟨hxc, hm0_2, hm1_2, rp, hr, hnc, hpc⟩ := hcut
              have hbc := hbq.ext hxc
              have hc0 := hbc.cell 0 _ rfl
              have hc1 := hbc.cell 1 _ rfl
              have hc2 := hbc.cell 2 _ rfl
              have hc3 := hbc.cell 3 _ rfl
              have hc4 := hbc.cell 4 _ rfl
              go_wp2_with (first
                | (at_mapUpdate; refine wp_put _ rfl _ _ _ 101 rfl 20 Tryd.underlying101 (w.heap.size + 1) [] rfl hm1_2 (by simp [maxLen]) f rfl hf_le _ rfl ?_; intro wt0 hmt0 hgt
                   have hxt0 := ext_put hxc hgt (by omega)
                   have ht0_0 := hm0_2.grown hgt (someNe (by omega))
                   have hnt0 := hnc.grown hgt (someNe (by omega))
                   have hbt := hbq.ext hxt0
                   have hc0 := hbt.cell 0 _ rfl
                   have hc1 := hbt.cell 1 _ rfl
                   have hc2 := hbt.cell 2 _ rfl
                   have hc3 := hbt.cell 3 _ rfl
                   have hc4 := hbt.cell 4 _ rfl
                   clear hgt hbt))
              go_ret2
              refine ⟨_, rfl, ?_, hxt0⟩
              rw [jShort_some (by rw [jT_some (k := s_name) H4.out hE4]; simp)]
              simp only [List.append_assoc] at hpc ⊢
              exact jMap_one ht0_0 trivial (jMap_one hmt0 trivial ((hpc.moveB hxc hxt0).wide.map hnt0 trivial (by have := hpc.len; omega)))
      · skip
        go_enter Tryd.func66, Tryd.ntmps66
        go_upto_region 5 with (first
          | (at_mapUpdate; have _t := tok0; refine wp_put _ rfl _ _ _ 101 rfl 20 Tryd.underlying101 w.heap.size [] rfl ((MapAt.at (by simp)).alloc _) (by simp [maxLen]) s_term rfl (by decide) _ rfl ?_; intro w1 hm hg; clear tok0
             have hx1 : Ext w w1 := ext_put (ext_alloc (ext_alloc (ext_refl _) _) _) hg (by omega)
             have hl0_1 := hm
             have hs0_1 := hl0_1.lt
             have hl1_1 : MapAt w1 (w.heap.size + 1) [] := (MapAt.at (by simp)).grown hg (someNe (by omega))
             have hs1_1 := hl1_1.lt
             have hb1 := hbq.ext hx1
             have hq1 := hb1.lt
             have hc0 := hb1.cell 0 _ rfl
             have hc1 := hb1.cell 1 _ rfl
             have hc2 := hb1.cell 2 _ rfl
             have hc3 := hb1.cell 3 _ rfl
             have hc4 := hb1.cell 4 _ rfl
             clear hg hm)
          | fail)
        refine wp_region_order (fun w' => w'.cell? ⟨bq, 0, none⟩ = some (.string f) ∧ w'.cell? ⟨bq, 1, none⟩ = some (.iface gty gx) ∧ w'.cell? ⟨bq, 2, none⟩ = some (.pointer none) ∧ w'.cell? ⟨bq, 3, none⟩ = some (.pointer none) ∧ w'.cell? ⟨bq, 4, none⟩ = some (.string v4)) [0, 1, 2, 3, 4, 5, 6, 7, 8] [0, 1, 2, 3, 4, 5, 6, 7, 8, 9] (by kernel_rfl) (by kernel_rfl) (fun d _ _ _ _ h => by cases d <;> exact h) (by kernel_rfl) ?_
        have hS : (fun w' => w'.cell? ⟨bq, 0, none⟩ = some (.string f) ∧ w'.cell? ⟨bq, 1, none⟩ = some (.iface gty gx) ∧ w'.cell? ⟨bq, 2, none⟩ = some (.pointer none) ∧ w'.cell? ⟨bq, 3, none⟩ = some (.pointer none) ∧ w'.cell? ⟨bq, 4, none⟩ = some (.string v4)) w1.drew := ⟨hc0, hc1, hc2, hc3, hc4⟩
        iterate 9 (apply ord_held rfl rfl (by assumption) rfl; (focus ((intro w' hS'); go_simp; (try with_reducible rfl))); (try simp only [Act.put, List.setIfInBounds_toArray, List.set_cons_zero, List.set_cons_succ]))
        apply ord_last rfl rfl rfl (by kernel_rfl)
        intro K hK
        refine op_put _ _ _ _ 101 rfl 20 Tryd.underlying101 (w.heap.size + 1) [] rfl hl1_1.drew (by simp [maxLen]) f rfl hf_le _ rfl ?_
        intro w2 hm2 hg2
        refine hK _ _ ?_
        clear hK K
        refine ord_end ?_
        have hx2 : Ext w w2 := ext_put (ext_drew hx1) hg2 (by omega)
        have hm0 := hl0_1.drew.grown hg2 (someNe (by omega))
        go_wp2_with fail
        go_ret2
        refine ⟨_, rfl, ?_, hx2⟩
        have hJe : jMap [(s_term, jMap [(f, jShort (g) ([(s_value, g)]) (jN s_boost (none) ++ jY s_case_insensitive (none) ++ jT s_name (o4)))])] = jMap [(s_term, jMap [(f, g)])] := by
          unfold jShort
          rw [if_pos (by simp [jN, jY, jT_none (k := s_name) H4.out hE4])]
        try simp only [List.append_assoc] at hJe
        try simp only [List.append_assoc]
        refine (congrArg (JAt (fun _ => True) w2 _) hJe).mpr ?_
        exact jMap_one hm0 trivial (jMap_one hm2 trivial ((Hg.out.ext hx2).to fun _ _ _ => trivial))
    | some t3 =>
      obtain ⟨cc3, hv3, hSc3, hcc3⟩ := H3.out
      subst hv3
      go_enter Tryd.func66, Tryd.ntmps66
      go_upto_if 50 with (first
        | (at_mapUpdate; have _t := tok0; refine wp_put _ rfl _ _ _ 101 rfl 20 Tryd.underlying101 w.heap.size [] rfl ((MapAt.at (by simp)).alloc _) (by simp [maxLen]) s_term rfl (by decide) _ rfl ?_; intro w1 hm hg; clear tok0
           have hx1 : Ext w w1 := ext_put (ext_alloc (ext_alloc (ext_refl _) _) _) hg (by omega)
           have hl0_1 := hm
           have hs0_1 := hl0_1.lt
           have hl1_1 : MapAt w1 (w.heap.size + 1) [] := (MapAt.at (by simp)).grown hg (someNe (by omega))
           have hs1_1 := hl1_1.lt
           have hb1 := hbq.ext hx1
           have hq1 := hb1.lt
           have hc0 := hb1.cell 0 _ rfl
           have hc1 := hb1.cell 1 _ rfl
           have hc2 := hb1.cell 2 _ rfl
           have hc3 := hb1.cell 3 _ rfl
           have hc4 := hb1.cell 4 _ rfl
           clear hg hm)
        | (at_mapUpdate; refine wp_put _ rfl _ _ _ 101 rfl 20 Tryd.underlying101 w1.heap.size [] rfl (MapAt.at (by simp)) (by simp [maxLen]) s_value rfl (by decide) _ rfl ?_; intro w2 hm hg
           have hx2 : Ext w w2 := ext_put (ext_alloc (hx1) _) hg (by omega)
           have hl0_2 : MapAt w2 w.heap.size [(s_term, .iface 101 (.map (some (w.heap.size + 1))))] := ((hl0_1).alloc _).grown hg (someNe (by omega))
           have hs0_2 := hl0_2.lt
           have hl1_2 : MapAt w2 (w.heap.size + 1) [] := ((hl1_1).alloc _).grown hg (someNe (by omega))
           have hs1_2 := hl1_2.lt
           have hl2_2 := hm
           have hs2_2 := hl2_2.lt
           have hb2 := hbq.ext hx2
           have hc0 := hb2.cell 0 _ rfl
           have hc1 := hb2.cell 1 _ rfl
           have hc2 := hb2.cell 2 _ rfl
           have hc3 := hb2.cell 3 _ rfl
           have hc4 := hb2.cell 4 _ rfl
           clear hg hm hl0_1 hl1_1)
        | fail)
      have hx0 : Ext w w2 := hx2
      have hm0 : MapAt w2 w.heap.size [(s_term, .iface 101 (.map (some (w.heap.size + 1))))] := hl0_2
      have hm1 : MapAt w2 (w.heap.size + 1) [] := hl1_2
      have hm2 : MapAt w2 w1.heap.size [(s_value, .iface gty gx)] := hl2_2
      have hz0 := hm0.lt
      have hz1 := hm1.lt
      have hz2 := hm2.lt
      have hne0 : w.heap.size ≠ w1.heap.size := by omega
      have hne1 : (w.heap.size + 1) ≠ w1.heap.size := by omega
      have hw2 : w.heap.size ≤ w1.heap.size := by have := hx0.sz; omega
      have hp0 : PJ (fun b => b < w.heap.size) w2 [(s_value, .iface gty gx)] ([(s_value, g)]) := ⟨rfl, by simp only [List.map_cons, List.map_nil, JsAt]; exact ⟨(Hg.out.ext hx0), trivial⟩⟩
      go_cut [] (fun wc => Ext w wc ∧ MapAt wc w.heap.size [(s_term, .iface 101 (.map (some (w.heap.size + 1))))] ∧ MapAt wc (w.heap.size + 1) [] ∧ ∃ rp, rp.length ≤ 2 ∧ MapAt wc w1.heap.size rp ∧ PJ (fun b => b < w.heap.size) wc rp ([(s_value, g)] ++ jN s_boost (none)))
      case first =>
          go_wp2_with fail
          go_meet
          case rel =>
            refine ⟨hx0, hm0, hm1, [(s_value, .iface gty gx)], by simp, hm2, ?_⟩
            rw [show jN s_boost none = [] from rfl, List.append_nil]
            exact hp0
      case rest =>
        obtain ⟨hxc, hm0_0, hm1_0, rp, hr, hnc, hpc⟩ := hcut
        have hbc := hbq.ext hxc
        have hc0 := hbc.cell 0 _ rfl
        have hc1 := hbc.cell 1 _ rfl
        have hc2 := hbc.cell 2 _ rfl
        have hc3 := hbc.cell 3 _ rfl
        have hc4 := hbc.cell 4 _ rfl
        go_upto_if 63 with fail
        go_cut [] (fun wc => Ext w wc ∧ MapAt wc w.heap.size [(s_term, .iface 101 (.map (some (w.heap.size + 1))))] ∧ MapAt wc (w.heap.size + 1) [] ∧ ∃ rp, rp.length ≤ 3 ∧ MapAt wc w1.heap.size rp ∧ PJ (fun b => b < w.heap.size) wc rp ([(s_value, g)] ++ jN s_boost (none) ++ jY s_case_insensitive (some t3)))
        case first =>
            have hcc := hxc.cell hcc3
            go_wp2_with (at_mapUpdate; refine wp_put _ rfl _ _ _ 101 rfl 20 Tryd.underlying101 w1.heap.size rp rfl hnc (Nat.lt_of_le_of_lt hr (by decide)) s_case_insensitive rfl (by decide) _ rfl ?_; intro wn hnn hgn)
            go_meet
            case rel =>
              have hxn := ext_put hxc hgn (by omega)
              refine ⟨hxn, hm0_0.grown hgn (someNe hne0), hm1_0.grown hgn (someNe hne1), _, ?_, hnn, ?_⟩
              · rw [List.length_append]; exact Nat.succ_le_succ (by exact hr)
              · rw [show jY s_case_insensitive (some t3) = [(s_case_insensitive, .yes t3.yes)] from rfl]
                exact PJ.snoc (hpc.moveB hxc hxn) (by simp only [JAt]; rfl)
        case rest =>
          obtain ⟨hxc, hm0_1, hm1_1, rp, hr, hnc, hpc⟩ := hcut
          have hbc := hbq.ext hxc
          have hc0 := hbc.cell 0 _ rfl
          have hc1 := hbc.cell 1 _ rfl
          have hc2 := hbc.cell 2 _ rfl
          have hc3 := hbc.cell 3 _ rfl
          have hc4 := hbc.cell 4 _ rfl
          go_upto_if 76 with fail
          go_cut [] (fun wc => Ext w wc ∧ MapAt wc w.heap.size [(s_term, .iface 101 (.map (some (w.heap.size + 1))))] ∧ MapAt wc (w.heap.size + 1) [] ∧ ∃ rp, rp.length ≤ 4 ∧ MapAt wc w1.heap.size rp ∧ PJ (fun b => b < w.heap.size) wc rp ([(s_value, g)] ++ jN s_boost (none) ++ jY s_case_insensitive (some t3) ++ jT s_name (o4)))
          case first =>
            cases hE : v4.toList.isEmpty
            · have hE1 := jT_some (k := s_name) H4.out hE
              go_wp2_with (at_mapUpdate; refine wp_put _ rfl _ _ _ 101 rfl 20 Tryd.underlying101 w1.heap.size rp rfl hnc (Nat.lt_of_le_of_lt hr (by decide)) s_name rfl (by decide) _ rfl ?_; intro wn hnn hgn)
              go_meet
              case rel =>
                have hxn := ext_put hxc hgn (by omega)
                refine ⟨hxn, hm0_1.grown hgn (someNe hne0), hm1_1.grown hgn (someNe hne1), _, ?_, hnn, ?_⟩
                · rw [List.length_append]; exact Nat.succ_le_succ (by exact hr)
                · rw [hE1]
                  exact PJ.snoc (hpc.moveB hxc hxn) (by simp only [JAt]; rfl)
            · have hE1 := jT_none (k := s_name) H4.out hE
              go_wp2_with fail
              go_meet
              case rel =>
                refine ⟨hxc, hm0_1, hm1_1, rp, Nat.le_succ_of_le hr, hnc, ?_⟩
                rw [hE1, List.append_nil]
                exact hpc
          case rest =>
            obtain ⟨hxc, hm0_2, hm1_2, rp, hr, hnc, hpc⟩ := hcut
            have hbc := hbq.ext hxc
            have hc0 := hbc.cell 0 _ rfl
            have hc1 := hbc.cell 1 _ rfl
            have hc2 := hbc.cell 2 _ rfl
            have hc3 := hbc.cell 3 _ rfl
            have hc4 := hbc.cell 4 _ rfl
            go_wp2_with (first
              | (at_mapUpdate; refine wp_put _ rfl _ _ _ 101 rfl 20 Tryd.underlying101 (w.heap.size + 1) [] rfl hm1_2 (by simp [maxLen]) f rfl hf_le _ rfl ?_; intro wt0 hmt0 hgt
                 have hxt0 := ext_put hxc hgt (by omega)
                 have ht0_0 := hm0_2.grown hgt (someNe (by omega))
                 have hnt0 := hnc.grown hgt (someNe (by omega))
                 have hbt := hbq.ext hxt0
                 have hc0 := hbt.cell 0 _ rfl
                 have hc1 := hbt.cell 1 _ rfl
                 have hc2 := hbt.cell 2 _ rfl
                 have hc3 := hbt.cell 3 _ rfl
                 have hc4 := hbt.cell 4 _ rfl
                 clear hgt hbt))
            go_ret2
            refine ⟨_, rfl, ?_, hxt0⟩
            rw [jShort_some (by simp [jY])]
            simp only [List.append_assoc] at hpc ⊢
            exact jMap_one ht0_0 trivial (jMap_one hmt0 trivial ((hpc.moveB hxc hxt0).wide.map hnt0 trivial (by have := hpc.len; omega)))
  | some t2 =>
    obtain ⟨cc2, hv2, hSc2, hcc2⟩ := H2.out
    subst hv2
    go_enter Tryd.func66, Tryd.ntmps66
    go_upto_if 50 with (first
      | (at_mapUpdate; have _t := tok0; refine wp_put _ rfl _ _ _ 101 rfl 20 Tryd.underlying101 w.heap.size [] rfl ((MapAt.at (by simp)).alloc _) (by simp [maxLen]) s_term rfl (by decide) _ rfl ?_; intro w1 hm hg; clear tok0
         have hx1 : Ext w w1 := ext_put (ext_alloc (ext_alloc (ext_refl _) _) _) hg (by omega)
         have hl0_1 := hm
         have hs0_1 := hl0_1.lt
         have hl1_1 : MapAt w1 (w.heap.size + 1) [] := (MapAt.at (by simp)).grown hg (someNe (by omega))
         have hs1_1 := hl1_1.lt
         have hb1 := hbq.ext hx1
         have hq1 := hb1.lt
         have hc0 := hb1.cell 0 _ rfl
         have hc1 := hb1.cell 1 _ rfl
         have hc2 := hb1.cell 2 _ rfl
         have hc3 := hb1.cell 3 _ rfl
         have hc4 := hb1.cell 4 _ rfl
         clear hg hm)
      | (at_mapUpdate; refine wp_put _ rfl _ _ _ 101 rfl 20 Tryd.underlying101 w1.heap.size [] rfl (MapAt.at (by simp)) (by simp [maxLen]) s_value rfl (by decide) _ rfl ?_; intro w2 hm hg
         have hx2 : Ext w w2 := ext_put (ext_alloc (hx1) _) hg (by omega)
         have hl0_2 : MapAt w2 w.heap.size [(s_term, .iface 101 (.map (some (w.heap.size + 1))))] := ((hl0_1).alloc _).grown hg (someNe (by omega))
         have hs0_2 := hl0_2.lt
         have hl1_2 : MapAt w2 (w.heap.size + 1) [] := ((hl1_1).alloc _).grown hg (someNe (by omega))
         have hs1_2 := hl1_2.lt
         have hl2_2 := hm
         have hs2_2 := hl2_2.lt
         have hb2 := hbq.ext hx2
         have hc0 := hb2.cell 0 _ rfl
         have hc1 := hb2.cell 1 _ rfl
         have hc2 := hb2.cell 2 _ rfl
         have hc3 := hb2.cell 3 _ rfl
         have hc4 := hb2.cell 4 _ rfl
         clear hg hm hl0_1 hl1_1)
      | fail)
    have hx0 : Ext w w2 := hx2
    have hm0 : MapAt w2 w.heap.size [(s_term, .iface 101 (.map (some (w.heap.size + 1))))] := hl0_2
    have hm1 : MapAt w2 (w.heap.size + 1) [] := hl1_2
    have hm2 : MapAt w2 w1.heap.size [(s_value, .iface gty gx)] := hl2_2
    have hz0 := hm0.lt
    have hz1 := hm1.lt
    have hz2 := hm2.lt
    have hne0 : w.heap.size ≠ w1.heap.size := by omega
    have hne1 : (w.heap.size + 1) ≠ w1.heap.size := by omega
    have hw2 : w.heap.size ≤ w1.heap.size := by have := hx0.sz; omega
    have hp0 : PJ (fun b => b < w.heap.size) w2 [(s_value, .iface gty gx)] ([(s_value, g)]) := ⟨rfl, by simp only [List.map_cons, List.map_nil, JsAt]; exact ⟨(Hg.out.ext hx0), trivial⟩⟩
    go_cut [] (fun wc => Ext w wc ∧ MapAt wc w.heap.size [(s_term, .iface 101 (.map (some (w.heap.size + 1))))] ∧ MapAt wc (w.heap.size + 1) [] ∧ ∃ rp, rp.length ≤ 2 ∧ MapAt wc w1.heap.size rp ∧ PJ (fun b => b < w.heap.size) wc rp ([(s_value, g)] ++ jN s_boost (some t2)))
    case first =>
        have hcc := hx0.cell hcc2
        go_wp2_with (at_mapUpdate; refine wp_put _ rfl _ _ _ 101 rfl 20 Tryd.underlying101 w1.heap.size [(s_value, .iface gty gx)] rfl hm2 (by simp [maxLen]) s_boost rfl (by decide) _ rfl ?_; intro wn hnn hgn)
        go_meet
        case rel =>
          have hxn := ext_put hx0 hgn (by omega)
          refine ⟨hxn, hm0.grown hgn (someNe hne0), hm1.grown hgn (someNe hne1), _, ?_, hnn, ?_⟩
          · rw [List.length_append]; exact Nat.succ_le_succ (by simp)
          · rw [show jN s_boost (some t2) = [(s_boost, .num t2.num)] from rfl]
            exact PJ.snoc (hp0.moveB hx0 hxn) (by simp only [JAt]; rfl)
    case rest =>
      obtain ⟨hxc, hm0_0, hm1_0, rp, hr, hnc, hpc⟩ := hcut
      have hbc := hbq.ext hxc
      have hc0 := hbc.cell 0 _ rfl
      have hc1 := hbc.cell 1 _ rfl
      have hc2 := hbc.cell 2 _ rfl
      have hc3 := hbc.cell 3 _ rfl
      have hc4 := hbc.cell 4 _ rfl
      go_upto_if 63 with fail
      go_cut [] (fun wc => Ext w wc ∧ MapAt wc w.heap.size [(s_term, .iface 101 (.map (some (w.heap.size + 1))))] ∧ MapAt wc (w.heap.size + 1) [] ∧ ∃ rp, rp.length ≤ 3 ∧ MapAt wc w1.heap.size rp ∧ PJ (fun b => b < w.heap.size) wc rp ([(s_value, g)] ++ jN s_boost (some t2) ++ jY s_case_insensitive (o3)))
      case first =>
        cases o3 with
        | none =>
          have hv : v3 = none := H3.out
          subst hv
          go_wp2_with fail
          go_meet
          case rel =>
            refine ⟨hxc, hm0_0, hm1_0, rp, Nat.le_succ_of_le hr, hnc, ?_⟩
            rw [show jY s_case_insensitive none = [] from rfl, List.append_nil]
            exact hpc
        | some t3 =>
          obtain ⟨cc, hv, hSc, hcc⟩ := H3.out
          subst hv
          have hcc := hxc.cell hcc
          go_wp2_with (at_mapUpdate; refine wp_put _ rfl _ _ _ 101 rfl 20 Tryd.underlying101 w1.heap.size rp rfl hnc (Nat.lt_of_le_of_lt hr (by decide)) s_case_insensitive rfl (by decide) _ rfl ?_; intro wn hnn hgn)
          go_meet
          case rel =>
            have hxn := ext_put hxc hgn (by omega)
            refine ⟨hxn, hm0_0.grown hgn (someNe hne0), hm1_0.grown hgn (someNe hne1), _, ?_, hnn, ?_⟩
            · rw [List.length_append]; exact Nat.succ_le_succ (by exact hr)
            · rw [show jY s_case_insensitive (some t3) = [(s_case_insensitive, .yes t3.yes)] from rfl]
              exact PJ.snoc (hpc.moveB hxc hxn) (by simp only [JAt]; rfl)
      case rest =>
        obtain ⟨hxc, hm0_1, hm1_1, rp, hr, hnc, hpc⟩ := hcut
        have hbc := hbq.ext hxc
        have hc0 := hbc.cell 0 _ rfl
        have hc1 := hbc.cell 1 _ rfl
        have hc2 := hbc.cell 2 _ rfl
        have hc3 := hbc.cell 3 _ rfl
        have hc4 := hbc.cell 4 _ rfl
        go_upto_if 76 with fail
        go_cut [] (fun wc => Ext w wc ∧ MapAt wc w.heap.size [(s_term, .iface 101 (.map (some (w.heap.size + 1))))] ∧ MapAt wc (w.heap.size + 1) [] ∧ ∃ rp, rp.length ≤ 4 ∧ MapAt wc w1.heap.size rp ∧ PJ (fun b => b < w.heap.size) wc rp ([(s_value, g)] ++ jN s_boost (some t2) ++ jY s_case_insensitive (o3) ++ jT s_name (o4)))
        case first =>
          cases hE : v4.toList.isEmpty
          · have hE1 := jT_some (k := s_name) H4.out hE
            go_wp2_with (at_mapUpdate; refine wp_put _ rfl _ _ _ 101 rfl 20 Tryd.underlying101 w1.heap.size rp rfl hnc (Nat.lt_of_le_of_lt hr (by decide)) s_name rfl (by decide) _ rfl ?_; intro wn hnn hgn)
            go_meet
            case rel =>
              have hxn := ext_put hxc hgn (by omega)
              refine ⟨hxn, hm0_1.grown hgn (someNe hne0), hm1_1.grown hgn (someNe hne1), _, ?_, hnn, ?_⟩
              · rw [List.length_append]; exact Nat.succ_le_succ (by exact hr)
              · rw [hE1]
                exact PJ.snoc (hpc.moveB hxc hxn) (by simp only [JAt]; rfl)
          · have hE1 := jT_none (k := s_name) H4.out hE
            go_wp2_with fail
            go_meet
            case rel =>
              refine ⟨hxc, hm0_1, hm1_1, rp, Nat.le_succ_of_le hr, hnc, ?_⟩
              rw [hE1, List.append_nil]
              exact hpc
        case rest =>
          obtain ⟨hxc, hm0_2, hm1_2, rp, hr, hnc, hpc⟩ := hcut
          have hbc := hbq.ext hxc
          have hc0 := hbc.cell 0 _ rfl
          have hc1 := hbc.cell 1 _ rfl
          have hc2 := hbc.cell 2 _ rfl
          have hc3 := hbc.cell 3 _ rfl
          have hc4 := hbc.cell 4 _ rfl
          go_wp2_with (first
            | (at_mapUpdate; refine wp_put _ rfl _ _ _ 101 rfl 20 Tryd.underlying101 (w.heap.size + 1) [] rfl hm1_2 (by simp [maxLen]) f rfl hf_le _ rfl ?_; intro wt0 hmt0 hgt
               have hxt0 := ext_put hxc hgt (by omega)
               have ht0_0 := hm0_2.grown hgt (someNe (by omega))
               have hnt0 := hnc.grown hgt (someNe (by omega))
               have hbt := hbq.ext hxt0
               have hc0 := hbt.cell 0 _ rfl
               have hc1 := hbt.cell 1 _ rfl
               have hc2 := hbt.cell 2 _ rfl
               have hc3 := hbt.cell 3 _ rfl
               have hc4 := hbt.cell 4 _ rfl
               clear hgt hbt))
          go_ret2
          refine ⟨_, rfl, ?_, hxt0⟩
          rw [jShort_some (by simp [jN])]
          simp only [List.append_assoc] at hpc ⊢
          exact jMap_one ht0_0 trivial (jMap_one hmt0 trivial ((hpc.moveB hxc hxt0).wide.map hnt0 trivial (by have := hpc.len; omega)))
end Go.Proofs.YtocfoheckgdonaaDoor
