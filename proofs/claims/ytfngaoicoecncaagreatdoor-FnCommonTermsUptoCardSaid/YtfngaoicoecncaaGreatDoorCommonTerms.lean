/-
  What the builder of a query (CommonTerms) makes of its settings.
-/
import Derived.Test.YtfngaoicoecncaaGreatDoorCm
namespace Go.Proofs.YtfngaoicoecncaaGreatDoor
open Go.RowKit

set_option maxRecDepth 20000 in
set_option maxHeartbeats 4000000 in
theorem commonTerms_src {S : Nat → Prop} (w : World) (bq : Nat) (f : ByteArray) (hf_le : f.size ≤ maxLen) (gty : TypeId) (gx : Value) (g : J) (hg : JAt (fun b => b < w.heap.size) w (.iface gty gx) g) (v3 : Option Addr) (o3 : Option T) (h3 : FN S w v3 o3) (v5 : ByteArray) (o5 : Option T) (h5 : v5 = fT o5) (v6 : ByteArray) (o6 : Option T) (h6 : v6 = fT o6) (v8 : ByteArray) (o8 : Option T) (h8 : v8 = fT o8) (v9 : ByteArray) (o9 : Option T) (h9 : v9 = fT o9) (v10 : ByteArray) (o10 : Option T) (h10 : v10 = fT o10) (v11 : Option Addr) (o11 : Option T) (h11 : FN S w v11 o11) (v12 : ByteArray) (o12 : Option T) (h12 : v12 = fT o12) (hbq : Box w bq #[.nilIface, .string f, .iface gty gx, .pointer v3, .pointer none, .string v5, .string v6, .pointer none, .string v8, .string v9, .string v10, .pointer v11, .string v12] 106) :
    Calls Tryz.prog 39 #[.pointer (some ⟨bq, 0, none⟩)] w fun r w' => ∃ v, r = .returned (.tuple #[v, .nilIface]) ∧ JAt (fun _ => True) w' v (jMap [(s_common, jMap [(f, jMap ([(s_query, g)] ++ jN s_cutoff_frequency (o3) ++ jT s_high_freq_operator (o5) ++ jT s_low_freq_operator (o8) ++ jMM (o9) (o6) ++ jT s_analyzer (o10) ++ jN s_boost (o11) ++ jT s_name (o12)))])]) ∧ Ext w w' := by
  have tok0 := trivial
  have hblt := hbq.lt
  have H3 := Lib.hid h3
  have H5 := Lib.hid h5
  have H6 := Lib.hid h6
  have H8 := Lib.hid h8
  have H9 := Lib.hid h9
  have H10 := Lib.hid h10
  have H11 := Lib.hid h11
  have H12 := Lib.hid h12
  clear h3 h5 h6 h8 h9 h10 h11 h12
  have Hg := Lib.hid hg
  clear hg
  go_enter Tryz.func39, Tryz.ntmps39
  go_upto_if 30 with (first
    | (at_mapUpdate; have _t := tok0; refine wp_put _ rfl _ _ _ 109 rfl 20 Tryz.underlying109 w.heap.size [] rfl (((MapAt.at (by simp)).alloc _).alloc _) (by simp [maxLen]) s_common rfl (by decide) _ rfl ?_; intro w1 hm hg; clear tok0
       have hx1 : Ext w w1 := ext_put (ext_alloc (ext_alloc (ext_alloc (ext_refl _) _) _) _) hg (by omega)
       have hl0_1 := hm
       have hs0_1 := hl0_1.lt
       have hl1_1 : MapAt w1 (w.heap.size + 1) [] := ((MapAt.at (by simp)).alloc _).grown hg (someNe (by omega))
       have hs1_1 := hl1_1.lt
       have hl2_1 : MapAt w1 (w.heap.size + 2) [] := (MapAt.at (by simp)).grown hg (someNe (by omega))
       have hs2_1 := hl2_1.lt
       have hb1 := hbq.ext hx1
       have hc0 := hb1.cell 0 _ rfl
       have hc1 := hb1.cell 1 _ rfl
       have hc2 := hb1.cell 2 _ rfl
       have hc3 := hb1.cell 3 _ rfl
       have hc4 := hb1.cell 4 _ rfl
       have hc5 := hb1.cell 5 _ rfl
       have hc6 := hb1.cell 6 _ rfl
       have hc7 := hb1.cell 7 _ rfl
       have hc8 := hb1.cell 8 _ rfl
       have hc9 := hb1.cell 9 _ rfl
       have hc10 := hb1.cell 10 _ rfl
       have hc11 := hb1.cell 11 _ rfl
       have hc12 := hb1.cell 12 _ rfl
       clear hg hm)
    | (at_mapUpdate; refine wp_put _ rfl _ _ _ 109 rfl 20 Tryz.underlying109 (w.heap.size + 1) [] rfl (hl1_1) (by simp [maxLen]) f rfl hf_le _ rfl ?_; intro w2 hm hg
       have hx2 : Ext w w2 := ext_put (hx1) hg (by omega)
       have hl0_2 : MapAt w2 w.heap.size [(s_common, .iface 109 (.map (some (w.heap.size + 1))))] := (hl0_1).grown hg (someNe (by omega))
       have hs0_2 := hl0_2.lt
       have hl1_2 := hm
       have hs1_2 := hl1_2.lt
       have hl2_2 : MapAt w2 (w.heap.size + 2) [] := (hl2_1).grown hg (someNe (by omega))
       have hs2_2 := hl2_2.lt
       have hb2 := hbq.ext hx2
       have hc0 := hb2.cell 0 _ rfl
       have hc1 := hb2.cell 1 _ rfl
       have hc2 := hb2.cell 2 _ rfl
       have hc3 := hb2.cell 3 _ rfl
       have hc4 := hb2.cell 4 _ rfl
       have hc5 := hb2.cell 5 _ rfl
       have hc6 := hb2.cell 6 _ rfl
       have hc7 := hb2.cell 7 _ rfl
       have hc8 := hb2.cell 8 _ rfl
       have hc9 := hb2.cell 9 _ rfl
       have hc10 := hb2.cell 10 _ rfl
       have hc11 := hb2.cell 11 _ rfl
       have hc12 := hb2.cell 12 _ rfl
       clear hg hm hl0_1 hl1_1 hl2_1)
    | (at_mapUpdate; refine wp_put _ rfl _ _ _ 109 rfl 20 Tryz.underlying109 (w.heap.size + 2) [] rfl (hl2_2) (by simp [maxLen]) s_query rfl (by decide) _ rfl ?_; intro w3 hm hg
       have hx3 : Ext w w3 := ext_put (hx2) hg (by omega)
       have hl0_3 : MapAt w3 w.heap.size [(s_common, .iface 109 (.map (some (w.heap.size + 1))))] := (hl0_2).grown hg (someNe (by omega))
       have hs0_3 := hl0_3.lt
       have hl1_3 : MapAt w3 (w.heap.size + 1) [(f, .iface 109 (.map (some (w.heap.size + 2))))] := (hl1_2).grown hg (someNe (by omega))
       have hs1_3 := hl1_3.lt
       have hl2_3 := hm
       have hs2_3 := hl2_3.lt
       have hb3 := hbq.ext hx3
       have hc0 := hb3.cell 0 _ rfl
       have hc1 := hb3.cell 1 _ rfl
       have hc2 := hb3.cell 2 _ rfl
       have hc3 := hb3.cell 3 _ rfl
       have hc4 := hb3.cell 4 _ rfl
       have hc5 := hb3.cell 5 _ rfl
       have hc6 := hb3.cell 6 _ rfl
       have hc7 := hb3.cell 7 _ rfl
       have hc8 := hb3.cell 8 _ rfl
       have hc9 := hb3.cell 9 _ rfl
       have hc10 := hb3.cell 10 _ rfl
       have hc11 := hb3.cell 11 _ rfl
       have hc12 := hb3.cell 12 _ rfl
       clear hg hm hl0_2 hl1_2 hl2_2)
    | fail)
  have hx0 : Ext w w3 := hx3
  have hm0 : MapAt w3 w.heap.size [(s_common, .iface 109 (.map (some (w.heap.size + 1))))] := hl0_3
  have hm1 : MapAt w3 (w.heap.size + 1) [(f, .iface 109 (.map (some (w.heap.size + 2))))] := hl1_3
  have hm2 : MapAt w3 (w.heap.size + 2) [(s_query, .iface gty gx)] := hl2_3
  have hz0 := hm0.lt
  have hz1 := hm1.lt
  have hz2 := hm2.lt
  have hne0 : w.heap.size ≠ (w.heap.size + 2) := by omega
  have hne1 : (w.heap.size + 1) ≠ (w.heap.size + 2) := by omega
  have hw2 : w.heap.size ≤ (w.heap.size + 2) := by have := hx0.sz; omega
  have hp0 : PJ (fun b => b ≠ w.heap.size ∧ b ≠ w.heap.size + 1 ∧ b ≠ w.heap.size + 2) w3 [(s_query, .iface gty gx)] ([(s_query, g)]) := ⟨rfl, by simp only [List.map_cons, List.map_nil, JsAt]; exact ⟨((Hg.out.ext hx0).to (fun b hb _ => by omega)), trivial⟩⟩
  go_cut [] (fun wc => Ext w wc ∧ MapAt wc w.heap.size [(s_common, .iface 109 (.map (some (w.heap.size + 1))))] ∧ MapAt wc (w.heap.size + 1) [(f, .iface 109 (.map (some (w.heap.size + 2))))] ∧ ∃ rp, rp.length ≤ 2 ∧ MapAt wc (w.heap.size + 2) rp ∧ PJ (fun b => b ≠ w.heap.size ∧ b ≠ w.heap.size + 1 ∧ b ≠ w.heap.size + 2) wc rp ([(s_query, g)] ++ jN s_cutoff_frequency (o3)))
  case first => as_aux_lemma =>
    cases o3 with
    | none =>
      have hv : v3 = none := H3.out
      subst hv
      go_wp2_with fail
      go_meet
      case rel =>
        refine ⟨hx0, hm0, hm1, [(s_query, .iface gty gx)], by simp, hm2, ?_⟩
        rw [show jN s_cutoff_frequency none = [] from rfl, List.append_nil]
        exact hp0
    | some t3 =>
      obtain ⟨cc, hv, hSc, hcc⟩ := H3.out
      subst hv
      have hcc := hx0.cell hcc
      go_wp2_with (at_mapUpdate; refine wp_put _ rfl _ _ _ 109 rfl 20 Tryz.underlying109 (w.heap.size + 2) [(s_query, .iface gty gx)] rfl hm2 (by simp [maxLen]) s_cutoff_frequency rfl (by decide) _ rfl ?_; intro wn hnn hgn)
      go_meet
      case rel =>
        have hxn := ext_put hx0 hgn (by omega)
        refine ⟨hxn, hm0.grown hgn (someNe hne0), hm1.grown hgn (someNe hne1), _, ?_, hnn, ?_⟩
        · rw [List.length_append]; exact Nat.succ_le_succ (by simp)
        · rw [show jN s_cutoff_frequency (some t3) = [(s_cutoff_frequency, .num t3.num)] from rfl]
          exact PJ.snoc (hp0.keep (fun _ h _ => h) (keeps_grown hgn (fun b hb e => by simp only [Option.some.injEq] at e; omega))) (by simp only [JAt]; rfl)
  case rest =>
    obtain ⟨hxc, hm0_0, hm1_0, rp, hr, hnc, hpc⟩ := hcut
    have hbc := hbq.ext hxc
    have hc0 := hbc.cell 0 _ rfl
    have hc1 := hbc.cell 1 _ rfl
    have hc2 := hbc.cell 2 _ rfl
    have hc3 := hbc.cell 3 _ rfl
    have hc4 := hbc.cell 4 _ rfl
    have hc5 := hbc.cell 5 _ rfl
    have hc6 := hbc.cell 6 _ rfl
    have hc7 := hbc.cell 7 _ rfl
    have hc8 := hbc.cell 8 _ rfl
    have hc9 := hbc.cell 9 _ rfl
    have hc10 := hbc.cell 10 _ rfl
    have hc11 := hbc.cell 11 _ rfl
    have hc12 := hbc.cell 12 _ rfl
    go_upto_if 56 with fail
    go_cut [] (fun wc => Ext w wc ∧ MapAt wc w.heap.size [(s_common, .iface 109 (.map (some (w.heap.size + 1))))] ∧ MapAt wc (w.heap.size + 1) [(f, .iface 109 (.map (some (w.heap.size + 2))))] ∧ ∃ rp, rp.length ≤ 3 ∧ MapAt wc (w.heap.size + 2) rp ∧ PJ (fun b => b ≠ w.heap.size ∧ b ≠ w.heap.size + 1 ∧ b ≠ w.heap.size + 2) wc rp ([(s_query, g)] ++ jN s_cutoff_frequency (o3) ++ jT s_high_freq_operator (o5)))
    case first => as_aux_lemma =>
      cases hE : v5.toList.isEmpty
      · have hE1 := jT_some (k := s_high_freq_operator) H5.out hE
        go_wp2_with (at_mapUpdate; refine wp_put _ rfl _ _ _ 109 rfl 20 Tryz.underlying109 (w.heap.size + 2) rp rfl hnc (Nat.lt_of_le_of_lt hr (by decide)) s_high_freq_operator rfl (by decide) _ rfl ?_; intro wn hnn hgn)
        go_meet
        case rel =>
          have hxn := ext_put hxc hgn (by omega)
          refine ⟨hxn, hm0_0.grown hgn (someNe hne0), hm1_0.grown hgn (someNe hne1), _, ?_, hnn, ?_⟩
          · rw [List.length_append]; exact Nat.succ_le_succ (by exact hr)
          · rw [hE1]
            exact PJ.snoc (hpc.keep (fun _ h _ => h) (keeps_grown hgn (fun b hb e => by simp only [Option.some.injEq] at e; omega))) (by simp only [JAt]; rfl)
      · have hE1 := jT_none (k := s_high_freq_operator) H5.out hE
        go_wp2_with fail
        go_meet
        case rel =>
          refine ⟨hxc, hm0_0, hm1_0, rp, Nat.le_succ_of_le hr, hnc, ?_⟩
          rw [hE1, List.append_nil]
          exact hpc
    case rest => as_aux_lemma =>
      obtain ⟨hxc, hm0_1, hm1_1, rp, hr, hnc, hpc⟩ := hcut
      have hbc := hbq.ext hxc
      have hc0 := hbc.cell 0 _ rfl
      have hc1 := hbc.cell 1 _ rfl
      have hc2 := hbc.cell 2 _ rfl
      have hc3 := hbc.cell 3 _ rfl
      have hc4 := hbc.cell 4 _ rfl
      have hc5 := hbc.cell 5 _ rfl
      have hc6 := hbc.cell 6 _ rfl
      have hc7 := hbc.cell 7 _ rfl
      have hc8 := hbc.cell 8 _ rfl
      have hc9 := hbc.cell 9 _ rfl
      have hc10 := hbc.cell 10 _ rfl
      have hc11 := hbc.cell 11 _ rfl
      have hc12 := hbc.cell 12 _ rfl
      go_upto_if 80 with fail
      go_cut [] (fun wc => Ext w wc ∧ MapAt wc w.heap.size [(s_common, .iface 109 (.map (some (w.heap.size + 1))))] ∧ MapAt wc (w.heap.size + 1) [(f, .iface 109 (.map (some (w.heap.size + 2))))] ∧ ∃ rp, rp.length ≤ 4 ∧ MapAt wc (w.heap.size + 2) rp ∧ PJ (fun b => b ≠ w.heap.size ∧ b ≠ w.heap.size + 1 ∧ b ≠ w.heap.size + 2) wc rp ([(s_query, g)] ++ jN s_cutoff_frequency (o3) ++ jT s_high_freq_operator (o5) ++ jT s_low_freq_operator (o8)))
      case first => as_aux_lemma =>
        cases hE : v8.toList.isEmpty
        · have hE1 := jT_some (k := s_low_freq_operator) H8.out hE
          go_wp2_with (at_mapUpdate; refine wp_put _ rfl _ _ _ 109 rfl 20 Tryz.underlying109 (w.heap.size + 2) rp rfl hnc (Nat.lt_of_le_of_lt hr (by decide)) s_low_freq_operator rfl (by decide) _ rfl ?_; intro wn hnn hgn)
          go_meet
          case rel =>
            have hxn := ext_put hxc hgn (by omega)
            refine ⟨hxn, hm0_1.grown hgn (someNe hne0), hm1_1.grown hgn (someNe hne1), _, ?_, hnn, ?_⟩
            · rw [List.length_append]; exact Nat.succ_le_succ (by exact hr)
            · rw [hE1]
              exact PJ.snoc (hpc.keep (fun _ h _ => h) (keeps_grown hgn (fun b hb e => by simp only [Option.some.injEq] at e; omega))) (by simp only [JAt]; rfl)
        · have hE1 := jT_none (k := s_low_freq_operator) H8.out hE
          go_wp2_with fail
          go_meet
          case rel =>
            refine ⟨hxc, hm0_1, hm1_1, rp, Nat.le_succ_of_le hr, hnc, ?_⟩
            rw [hE1, List.append_nil]
            exact hpc
      case rest => as_aux_lemma =>
        obtain ⟨hxc, hm0_2, hm1_2, rp, hr, hnc, hpc⟩ := hcut
        have hbc := hbq.ext hxc
        have hc0 := hbc.cell 0 _ rfl
        have hc1 := hbc.cell 1 _ rfl
        have hc2 := hbc.cell 2 _ rfl
        have hc3 := hbc.cell 3 _ rfl
        have hc4 := hbc.cell 4 _ rfl
        have hc5 := hbc.cell 5 _ rfl
        have hc6 := hbc.cell 6 _ rfl
        have hc7 := hbc.cell 7 _ rfl
        have hc8 := hbc.cell 8 _ rfl
        have hc9 := hbc.cell 9 _ rfl
        have hc10 := hbc.cell 10 _ rfl
        have hc11 := hbc.cell 11 _ rfl
        have hc12 := hbc.cell 12 _ rfl
        go_upto_region 17 with fail
        go_cut [98] (fun sM wy => sM = .bool (!(v9.toList.isEmpty && v6.toList.isEmpty)) ∧ wy = wc)
        case first =>
          cases hE9 : v9.toList.isEmpty
          · cases hE6 : v6.toList.isEmpty
            · go_wp2_with fail
              go_meet
              case rel => exact ⟨by rw [hE9, hE6]; rfl, rfl⟩
            · go_wp2_with fail
              go_meet
              case rel => exact ⟨by rw [hE9, hE6]; rfl, rfl⟩
          · cases hE6 : v6.toList.isEmpty
            · go_wp2_with fail
              go_meet
              case rel => exact ⟨by rw [hE9, hE6]; rfl, rfl⟩
            · go_wp2_with fail
              go_meet
              case rel => exact ⟨by rw [hE9, hE6]; rfl, rfl⟩
        case rest =>
          obtain ⟨rfl, rfl⟩ := hcut
          go_upto_if 98 with fail
          go_cut [] (fun wc => Ext w wc ∧ MapAt wc w.heap.size [(s_common, .iface 109 (.map (some (w.heap.size + 1))))] ∧ MapAt wc (w.heap.size + 1) [(f, .iface 109 (.map (some (w.heap.size + 2))))] ∧ ∃ rp, rp.length ≤ 5 ∧ MapAt wc (w.heap.size + 2) rp ∧ PJ (fun b => b ≠ w.heap.size ∧ b ≠ w.heap.size + 1 ∧ b ≠ w.heap.size + 2) wc rp ([(s_query, g)] ++ jN s_cutoff_frequency (o3) ++ jT s_high_freq_operator (o5) ++ jT s_low_freq_operator (o8) ++ jMM (o9) (o6)))
          case first => as_aux_lemma =>
            cases hE9 : v9.toList.isEmpty
            · cases hE6 : v6.toList.isEmpty
              · skip
                have tkM0 := trivial
                have tkM1 := trivial
                simp only [hE9, hE6, Bool.and_self, Bool.and_true, Bool.true_and, Bool.and_false, Bool.false_and, Bool.not_true, Bool.not_false]
                have hbcl := hbc.lt
                have hc0 := (hbc.alloc (.map #[] 0)).cell 0 _ rfl
                have hc1 := (hbc.alloc (.map #[] 0)).cell 1 _ rfl
                have hc2 := (hbc.alloc (.map #[] 0)).cell 2 _ rfl
                have hc3 := (hbc.alloc (.map #[] 0)).cell 3 _ rfl
                have hc4 := (hbc.alloc (.map #[] 0)).cell 4 _ rfl
                have hc5 := (hbc.alloc (.map #[] 0)).cell 5 _ rfl
                have hc6 := (hbc.alloc (.map #[] 0)).cell 6 _ rfl
                have hc7 := (hbc.alloc (.map #[] 0)).cell 7 _ rfl
                have hc8 := (hbc.alloc (.map #[] 0)).cell 8 _ rfl
                have hc9 := (hbc.alloc (.map #[] 0)).cell 9 _ rfl
                have hc10 := (hbc.alloc (.map #[] 0)).cell 10 _ rfl
                have hc11 := (hbc.alloc (.map #[] 0)).cell 11 _ rfl
                have hc12 := (hbc.alloc (.map #[] 0)).cell 12 _ rfl
                have hnlt := hnc.lt
                go_wp2_with (first
                  | (at_mapUpdate; have _t := tkM0; clear _t tkM0; refine wp_put _ rfl _ _ _ 109 rfl 20 Tryz.underlying109 wc.heap.size [] rfl (MapAt.at rfl) (by simp [maxLen]) s_low_freq rfl (by decide) _ rfl ?_; intro wm0 hma0 hga0
                     have hxm0 : Ext wc wm0 := ext_put (ext_alloc (ext_refl wc) _) hga0 (Nat.le_refl _)
                     have hnm0 := MapAt.ext hnc hxm0
                     have hlm0 := hma0.lt
                     have hbm0 := hbc.ext hxm0
                     have hc0 := hbm0.cell 0 _ rfl
                     have hc1 := hbm0.cell 1 _ rfl
                     have hc2 := hbm0.cell 2 _ rfl
                     have hc3 := hbm0.cell 3 _ rfl
                     have hc4 := hbm0.cell 4 _ rfl
                     have hc5 := hbm0.cell 5 _ rfl
                     have hc6 := hbm0.cell 6 _ rfl
                     have hc7 := hbm0.cell 7 _ rfl
                     have hc8 := hbm0.cell 8 _ rfl
                     have hc9 := hbm0.cell 9 _ rfl
                     have hc10 := hbm0.cell 10 _ rfl
                     have hc11 := hbm0.cell 11 _ rfl
                     have hc12 := hbm0.cell 12 _ rfl)
                  | (at_mapUpdate; have _t := tkM1; clear _t tkM1; refine wp_put _ rfl _ _ _ 109 rfl 20 Tryz.underlying109 wc.heap.size [(s_low_freq, .iface 9 (.string v9))] rfl (hma0) (by simp [maxLen]) s_high_freq rfl (by decide) _ rfl ?_; intro wm1 hma1 hga1
                     have hxm1 : Ext wc wm1 := ext_put (hxm0) hga1 (Nat.le_refl _)
                     have hnm1 := MapAt.ext hnc hxm1
                     have hlm1 := hma1.lt
                     have hbm1 := hbc.ext hxm1
                     have hc0 := hbm1.cell 0 _ rfl
                     have hc1 := hbm1.cell 1 _ rfl
                     have hc2 := hbm1.cell 2 _ rfl
                     have hc3 := hbm1.cell 3 _ rfl
                     have hc4 := hbm1.cell 4 _ rfl
                     have hc5 := hbm1.cell 5 _ rfl
                     have hc6 := hbm1.cell 6 _ rfl
                     have hc7 := hbm1.cell 7 _ rfl
                     have hc8 := hbm1.cell 8 _ rfl
                     have hc9 := hbm1.cell 9 _ rfl
                     have hc10 := hbm1.cell 10 _ rfl
                     have hc11 := hbm1.cell 11 _ rfl
                     have hc12 := hbm1.cell 12 _ rfl)
                  | (at_mapUpdate; refine wp_put _ rfl _ _ _ 109 rfl 20 Tryz.underlying109 (w.heap.size + 2) rp rfl hnm1 (Nat.lt_of_le_of_lt hr (by decide)) s_minimum_should_match rfl (by decide) _ rfl ?_; intro wn hnn hgn)
                  | fail)
                go_meet
                case rel =>
                  have hxw := ext_trans hxc hxm1
                  have hxs := hxc.sz
                  have hxn := ext_put hxw hgn (by omega)
                  have hJm : JAt (fun b => b ≠ w.heap.size ∧ b ≠ w.heap.size + 1 ∧ b ≠ w.heap.size + 2) wn (.iface 109 (.map (some wc.heap.size))) (jMap [(s_low_freq, .str v9), (s_high_freq, .str v6)]) := PJ.map (rp := [(s_low_freq, .iface 9 (.string v9)), (s_high_freq, .iface 9 (.string v6))]) ⟨rfl, by simp [JsAt, JAt]⟩ (hma1.grown hgn (someNe (by omega))) (by omega) (by simp)
                  refine ⟨hxn, (hm0_2.ext hxm1).grown hgn (someNe hne0), (hm1_2.ext hxm1).grown hgn (someNe hne1), _, ?_, hnn, ?_⟩
                  · rw [List.length_append]; exact Nat.succ_le_succ (by exact hr)
                  · rw [jMM_both (H9.out) (H6.out) hE9 hE6]
                    exact PJ.snoc ((hpc.keep (S' := (fun b => b ≠ w.heap.size ∧ b ≠ w.heap.size + 1 ∧ b ≠ w.heap.size + 2)) (fun _ h _ => h) (Ext.keeps hxm1 _)).keep (fun _ h _ => h) (keeps_grown hgn (fun b hb e => by simp only [Option.some.injEq] at e; omega))) hJm
              · skip
                have tkM0 := trivial
                simp only [hE9, hE6, Bool.and_self, Bool.and_true, Bool.true_and, Bool.and_false, Bool.false_and, Bool.not_true, Bool.not_false]
                have hbcl := hbc.lt
                have hc0 := (hbc.alloc (.map #[] 0)).cell 0 _ rfl
                have hc1 := (hbc.alloc (.map #[] 0)).cell 1 _ rfl
                have hc2 := (hbc.alloc (.map #[] 0)).cell 2 _ rfl
                have hc3 := (hbc.alloc (.map #[] 0)).cell 3 _ rfl
                have hc4 := (hbc.alloc (.map #[] 0)).cell 4 _ rfl
                have hc5 := (hbc.alloc (.map #[] 0)).cell 5 _ rfl
                have hc6 := (hbc.alloc (.map #[] 0)).cell 6 _ rfl
                have hc7 := (hbc.alloc (.map #[] 0)).cell 7 _ rfl
                have hc8 := (hbc.alloc (.map #[] 0)).cell 8 _ rfl
                have hc9 := (hbc.alloc (.map #[] 0)).cell 9 _ rfl
                have hc10 := (hbc.alloc (.map #[] 0)).cell 10 _ rfl
                have hc11 := (hbc.alloc (.map #[] 0)).cell 11 _ rfl
                have hc12 := (hbc.alloc (.map #[] 0)).cell 12 _ rfl
                have hnlt := hnc.lt
                go_wp2_with (first
                  | (at_mapUpdate; have _t := tkM0; clear _t tkM0; refine wp_put _ rfl _ _ _ 109 rfl 20 Tryz.underlying109 wc.heap.size [] rfl (MapAt.at rfl) (by simp [maxLen]) s_low_freq rfl (by decide) _ rfl ?_; intro wm0 hma0 hga0
                     have hxm0 : Ext wc wm0 := ext_put (ext_alloc (ext_refl wc) _) hga0 (Nat.le_refl _)
                     have hnm0 := MapAt.ext hnc hxm0
                     have hlm0 := hma0.lt
                     have hbm0 := hbc.ext hxm0
                     have hc0 := hbm0.cell 0 _ rfl
                     have hc1 := hbm0.cell 1 _ rfl
                     have hc2 := hbm0.cell 2 _ rfl
                     have hc3 := hbm0.cell 3 _ rfl
                     have hc4 := hbm0.cell 4 _ rfl
                     have hc5 := hbm0.cell 5 _ rfl
                     have hc6 := hbm0.cell 6 _ rfl
                     have hc7 := hbm0.cell 7 _ rfl
                     have hc8 := hbm0.cell 8 _ rfl
                     have hc9 := hbm0.cell 9 _ rfl
                     have hc10 := hbm0.cell 10 _ rfl
                     have hc11 := hbm0.cell 11 _ rfl
                     have hc12 := hbm0.cell 12 _ rfl)
                  | (at_mapUpdate; refine wp_put _ rfl _ _ _ 109 rfl 20 Tryz.underlying109 (w.heap.size + 2) rp rfl hnm0 (Nat.lt_of_le_of_lt hr (by decide)) s_minimum_should_match rfl (by decide) _ rfl ?_; intro wn hnn hgn)
                  | fail)
                go_meet
                case rel =>
                  have hxw := ext_trans hxc hxm0
                  have hxs := hxc.sz
                  have hxn := ext_put hxw hgn (by omega)
                  have hJm : JAt (fun b => b ≠ w.heap.size ∧ b ≠ w.heap.size + 1 ∧ b ≠ w.heap.size + 2) wn (.iface 109 (.map (some wc.heap.size))) (jMap [(s_low_freq, .str v9)]) := PJ.map (rp := [(s_low_freq, .iface 9 (.string v9))]) ⟨rfl, by simp [JsAt, JAt]⟩ (hma0.grown hgn (someNe (by omega))) (by omega) (by simp)
                  refine ⟨hxn, (hm0_2.ext hxm0).grown hgn (someNe hne0), (hm1_2.ext hxm0).grown hgn (someNe hne1), _, ?_, hnn, ?_⟩
                  · rw [List.length_append]; exact Nat.succ_le_succ (by exact hr)
                  · rw [jMM_low (H9.out) (H6.out) hE9 hE6]
                    exact PJ.snoc ((hpc.keep (S' := (fun b => b ≠ w.heap.size ∧ b ≠ w.heap.size + 1 ∧ b ≠ w.heap.size + 2)) (fun _ h _ => h) (Ext.keeps hxm0 _)).keep (fun _ h _ => h) (keeps_grown hgn (fun b hb e => by simp only [Option.some.injEq] at e; omega))) hJm
            · cases hE6 : v6.toList.isEmpty
              · skip
                have tkM0 := trivial
                simp only [hE9, hE6, Bool.and_self, Bool.and_true, Bool.true_and, Bool.and_false, Bool.false_and, Bool.not_true, Bool.not_false]
                have hbcl := hbc.lt
                have hc0 := (hbc.alloc (.map #[] 0)).cell 0 _ rfl
                have hc1 := (hbc.alloc (.map #[] 0)).cell 1 _ rfl
                have hc2 := (hbc.alloc (.map #[] 0)).cell 2 _ rfl
                have hc3 := (hbc.alloc (.map #[] 0)).cell 3 _ rfl
                have hc4 := (hbc.alloc (.map #[] 0)).cell 4 _ rfl
                have hc5 := (hbc.alloc (.map #[] 0)).cell 5 _ rfl
                have hc6 := (hbc.alloc (.map #[] 0)).cell 6 _ rfl
                have hc7 := (hbc.alloc (.map #[] 0)).cell 7 _ rfl
                have hc8 := (hbc.alloc (.map #[] 0)).cell 8 _ rfl
                have hc9 := (hbc.alloc (.map #[] 0)).cell 9 _ rfl
                have hc10 := (hbc.alloc (.map #[] 0)).cell 10 _ rfl
                have hc11 := (hbc.alloc (.map #[] 0)).cell 11 _ rfl
                have hc12 := (hbc.alloc (.map #[] 0)).cell 12 _ rfl
                have hnlt := hnc.lt
                go_wp2_with (first
                  | (at_mapUpdate; have _t := tkM0; clear _t tkM0; refine wp_put _ rfl _ _ _ 109 rfl 20 Tryz.underlying109 wc.heap.size [] rfl (MapAt.at rfl) (by simp [maxLen]) s_high_freq rfl (by decide) _ rfl ?_; intro wm0 hma0 hga0
                     have hxm0 : Ext wc wm0 := ext_put (ext_alloc (ext_refl wc) _) hga0 (Nat.le_refl _)
                     have hnm0 := MapAt.ext hnc hxm0
                     have hlm0 := hma0.lt
                     have hbm0 := hbc.ext hxm0
                     have hc0 := hbm0.cell 0 _ rfl
                     have hc1 := hbm0.cell 1 _ rfl
                     have hc2 := hbm0.cell 2 _ rfl
                     have hc3 := hbm0.cell 3 _ rfl
                     have hc4 := hbm0.cell 4 _ rfl
                     have hc5 := hbm0.cell 5 _ rfl
                     have hc6 := hbm0.cell 6 _ rfl
                     have hc7 := hbm0.cell 7 _ rfl
                     have hc8 := hbm0.cell 8 _ rfl
                     have hc9 := hbm0.cell 9 _ rfl
                     have hc10 := hbm0.cell 10 _ rfl
                     have hc11 := hbm0.cell 11 _ rfl
                     have hc12 := hbm0.cell 12 _ rfl)
                  | (at_mapUpdate; refine wp_put _ rfl _ _ _ 109 rfl 20 Tryz.underlying109 (w.heap.size + 2) rp rfl hnm0 (Nat.lt_of_le_of_lt hr (by decide)) s_minimum_should_match rfl (by decide) _ rfl ?_; intro wn hnn hgn)
                  | fail)
                go_meet
                case rel =>
                  have hxw := ext_trans hxc hxm0
                  have hxs := hxc.sz
                  have hxn := ext_put hxw hgn (by omega)
                  have hJm : JAt (fun b => b ≠ w.heap.size ∧ b ≠ w.heap.size + 1 ∧ b ≠ w.heap.size + 2) wn (.iface 109 (.map (some wc.heap.size))) (jMap [(s_high_freq, .str v6)]) := PJ.map (rp := [(s_high_freq, .iface 9 (.string v6))]) ⟨rfl, by simp [JsAt, JAt]⟩ (hma0.grown hgn (someNe (by omega))) (by omega) (by simp)
                  refine ⟨hxn, (hm0_2.ext hxm0).grown hgn (someNe hne0), (hm1_2.ext hxm0).grown hgn (someNe hne1), _, ?_, hnn, ?_⟩
                  · rw [List.length_append]; exact Nat.succ_le_succ (by exact hr)
                  · rw [jMM_high (H9.out) (H6.out) hE9 hE6]
                    exact PJ.snoc ((hpc.keep (S' := (fun b => b ≠ w.heap.size ∧ b ≠ w.heap.size + 1 ∧ b ≠ w.heap.size + 2)) (fun _ h _ => h) (Ext.keeps hxm0 _)).keep (fun _ h _ => h) (keeps_grown hgn (fun b hb e => by simp only [Option.some.injEq] at e; omega))) hJm
              · have hE1 := jMM_none (H9.out) (H6.out) hE9 hE6
                simp only [hE9, hE6, Bool.and_self, Bool.not_true]
                go_wp2_with fail
                go_meet
                case rel =>
                  refine ⟨hxc, hm0_2, hm1_2, rp, Nat.le_succ_of_le hr, hnc, ?_⟩
                  rw [hE1, List.append_nil]
                  exact hpc
          case rest => as_aux_lemma =>
            obtain ⟨hxc, hm0_3, hm1_3, rp, hr, hnc, hpc⟩ := hcut
            have hbc := hbq.ext hxc
            have hc0 := hbc.cell 0 _ rfl
            have hc1 := hbc.cell 1 _ rfl
            have hc2 := hbc.cell 2 _ rfl
            have hc3 := hbc.cell 3 _ rfl
            have hc4 := hbc.cell 4 _ rfl
            have hc5 := hbc.cell 5 _ rfl
            have hc6 := hbc.cell 6 _ rfl
            have hc7 := hbc.cell 7 _ rfl
            have hc8 := hbc.cell 8 _ rfl
            have hc9 := hbc.cell 9 _ rfl
            have hc10 := hbc.cell 10 _ rfl
            have hc11 := hbc.cell 11 _ rfl
            have hc12 := hbc.cell 12 _ rfl
            go_upto_if 129 with fail
            go_cut [] (fun wc => Ext w wc ∧ MapAt wc w.heap.size [(s_common, .iface 109 (.map (some (w.heap.size + 1))))] ∧ MapAt wc (w.heap.size + 1) [(f, .iface 109 (.map (some (w.heap.size + 2))))] ∧ ∃ rp, rp.length ≤ 6 ∧ MapAt wc (w.heap.size + 2) rp ∧ PJ (fun b => b ≠ w.heap.size ∧ b ≠ w.heap.size + 1 ∧ b ≠ w.heap.size + 2) wc rp ([(s_query, g)] ++ jN s_cutoff_frequency (o3) ++ jT s_high_freq_operator (o5) ++ jT s_low_freq_operator (o8) ++ jMM (o9) (o6) ++ jT s_analyzer (o10)))
            case first => as_aux_lemma =>
              cases hE : v10.toList.isEmpty
              · have hE1 := jT_some (k := s_analyzer) H10.out hE
                go_wp2_with (at_mapUpdate; refine wp_put _ rfl _ _ _ 109 rfl 20 Tryz.underlying109 (w.heap.size + 2) rp rfl hnc (Nat.lt_of_le_of_lt hr (by decide)) s_analyzer rfl (by decide) _ rfl ?_; intro wn hnn hgn)
                go_meet
                case rel =>
                  have hxn := ext_put hxc hgn (by omega)
                  refine ⟨hxn, hm0_3.grown hgn (someNe hne0), hm1_3.grown hgn (someNe hne1), _, ?_, hnn, ?_⟩
                  · rw [List.length_append]; exact Nat.succ_le_succ (by exact hr)
                  · rw [hE1]
                    exact PJ.snoc (hpc.keep (fun _ h _ => h) (keeps_grown hgn (fun b hb e => by simp only [Option.some.injEq] at e; omega))) (by simp only [JAt]; rfl)
              · have hE1 := jT_none (k := s_analyzer) H10.out hE
                go_wp2_with fail
                go_meet
                case rel =>
                  refine ⟨hxc, hm0_3, hm1_3, rp, Nat.le_succ_of_le hr, hnc, ?_⟩
                  rw [hE1, List.append_nil]
                  exact hpc
            case rest => as_aux_lemma =>
              obtain ⟨hxc, hm0_4, hm1_4, rp, hr, hnc, hpc⟩ := hcut
              have hbc := hbq.ext hxc
              have hc0 := hbc.cell 0 _ rfl
              have hc1 := hbc.cell 1 _ rfl
              have hc2 := hbc.cell 2 _ rfl
              have hc3 := hbc.cell 3 _ rfl
              have hc4 := hbc.cell 4 _ rfl
              have hc5 := hbc.cell 5 _ rfl
              have hc6 := hbc.cell 6 _ rfl
              have hc7 := hbc.cell 7 _ rfl
              have hc8 := hbc.cell 8 _ rfl
              have hc9 := hbc.cell 9 _ rfl
              have hc10 := hbc.cell 10 _ rfl
              have hc11 := hbc.cell 11 _ rfl
              have hc12 := hbc.cell 12 _ rfl
              go_upto_if 140 with fail
              go_cut [] (fun wc => Ext w wc ∧ MapAt wc w.heap.size [(s_common, .iface 109 (.map (some (w.heap.size + 1))))] ∧ MapAt wc (w.heap.size + 1) [(f, .iface 109 (.map (some (w.heap.size + 2))))] ∧ ∃ rp, rp.length ≤ 7 ∧ MapAt wc (w.heap.size + 2) rp ∧ PJ (fun b => b ≠ w.heap.size ∧ b ≠ w.heap.size + 1 ∧ b ≠ w.heap.size + 2) wc rp ([(s_query, g)] ++ jN s_cutoff_frequency (o3) ++ jT s_high_freq_operator (o5) ++ jT s_low_freq_operator (o8) ++ jMM (o9) (o6) ++ jT s_analyzer (o10) ++ jN s_boost (o11)))
              case first => as_aux_lemma =>
                cases o11 with
                | none =>
                  have hv : v11 = none := H11.out
                  subst hv
                  go_wp2_with fail
                  go_meet
                  case rel =>
                    refine ⟨hxc, hm0_4, hm1_4, rp, Nat.le_succ_of_le hr, hnc, ?_⟩
                    rw [show jN s_boost none = [] from rfl, List.append_nil]
                    exact hpc
                | some t11 =>
                  obtain ⟨cc, hv, hSc, hcc⟩ := H11.out
                  subst hv
                  have hcc := hxc.cell hcc
                  go_wp2_with (at_mapUpdate; refine wp_put _ rfl _ _ _ 109 rfl 20 Tryz.underlying109 (w.heap.size + 2) rp rfl hnc (Nat.lt_of_le_of_lt hr (by decide)) s_boost rfl (by decide) _ rfl ?_; intro wn hnn hgn)
                  go_meet
                  case rel =>
                    have hxn := ext_put hxc hgn (by omega)
                    refine ⟨hxn, hm0_4.grown hgn (someNe hne0), hm1_4.grown hgn (someNe hne1), _, ?_, hnn, ?_⟩
                    · rw [List.length_append]; exact Nat.succ_le_succ (by exact hr)
                    · rw [show jN s_boost (some t11) = [(s_boost, .num t11.num)] from rfl]
                      exact PJ.snoc (hpc.keep (fun _ h _ => h) (keeps_grown hgn (fun b hb e => by simp only [Option.some.injEq] at e; omega))) (by simp only [JAt]; rfl)
              case rest => as_aux_lemma =>
                obtain ⟨hxc, hm0_5, hm1_5, rp, hr, hnc, hpc⟩ := hcut
                have hbc := hbq.ext hxc
                have hc0 := hbc.cell 0 _ rfl
                have hc1 := hbc.cell 1 _ rfl
                have hc2 := hbc.cell 2 _ rfl
                have hc3 := hbc.cell 3 _ rfl
                have hc4 := hbc.cell 4 _ rfl
                have hc5 := hbc.cell 5 _ rfl
                have hc6 := hbc.cell 6 _ rfl
                have hc7 := hbc.cell 7 _ rfl
                have hc8 := hbc.cell 8 _ rfl
                have hc9 := hbc.cell 9 _ rfl
                have hc10 := hbc.cell 10 _ rfl
                have hc11 := hbc.cell 11 _ rfl
                have hc12 := hbc.cell 12 _ rfl
                go_upto_if 153 with fail
                go_cut [] (fun wc => Ext w wc ∧ MapAt wc w.heap.size [(s_common, .iface 109 (.map (some (w.heap.size + 1))))] ∧ MapAt wc (w.heap.size + 1) [(f, .iface 109 (.map (some (w.heap.size + 2))))] ∧ ∃ rp, rp.length ≤ 8 ∧ MapAt wc (w.heap.size + 2) rp ∧ PJ (fun b => b ≠ w.heap.size ∧ b ≠ w.heap.size + 1 ∧ b ≠ w.heap.size + 2) wc rp ([(s_query, g)] ++ jN s_cutoff_frequency (o3) ++ jT s_high_freq_operator (o5) ++ jT s_low_freq_operator (o8) ++ jMM (o9) (o6) ++ jT s_analyzer (o10) ++ jN s_boost (o11) ++ jT s_name (o12)))
                case first => as_aux_lemma =>
                  cases hE : v12.toList.isEmpty
                  · have hE1 := jT_some (k := s_name) H12.out hE
                    go_wp2_with (at_mapUpdate; refine wp_put _ rfl _ _ _ 109 rfl 20 Tryz.underlying109 (w.heap.size + 2) rp rfl hnc (Nat.lt_of_le_of_lt hr (by decide)) s_name rfl (by decide) _ rfl ?_; intro wn hnn hgn)
                    go_meet
                    case rel =>
                      have hxn := ext_put hxc hgn (by omega)
                      refine ⟨hxn, hm0_5.grown hgn (someNe hne0), hm1_5.grown hgn (someNe hne1), _, ?_, hnn, ?_⟩
                      · rw [List.length_append]; exact Nat.succ_le_succ (by exact hr)
                      · rw [hE1]
                        exact PJ.snoc (hpc.keep (fun _ h _ => h) (keeps_grown hgn (fun b hb e => by simp only [Option.some.injEq] at e; omega))) (by simp only [JAt]; rfl)
                  · have hE1 := jT_none (k := s_name) H12.out hE
                    go_wp2_with fail
                    go_meet
                    case rel =>
                      refine ⟨hxc, hm0_5, hm1_5, rp, Nat.le_succ_of_le hr, hnc, ?_⟩
                      rw [hE1, List.append_nil]
                      exact hpc
                case rest => as_aux_lemma =>
                  obtain ⟨hxc, hm0_6, hm1_6, rp, hr, hnc, hpc⟩ := hcut
                  have hbc := hbq.ext hxc
                  have hc0 := hbc.cell 0 _ rfl
                  have hc1 := hbc.cell 1 _ rfl
                  have hc2 := hbc.cell 2 _ rfl
                  have hc3 := hbc.cell 3 _ rfl
                  have hc4 := hbc.cell 4 _ rfl
                  have hc5 := hbc.cell 5 _ rfl
                  have hc6 := hbc.cell 6 _ rfl
                  have hc7 := hbc.cell 7 _ rfl
                  have hc8 := hbc.cell 8 _ rfl
                  have hc9 := hbc.cell 9 _ rfl
                  have hc10 := hbc.cell 10 _ rfl
                  have hc11 := hbc.cell 11 _ rfl
                  have hc12 := hbc.cell 12 _ rfl
                  go_wp2_with fail
                  go_ret2
                  refine ⟨_, rfl, ?_, hxc⟩
                  exact jMap_one hm0_6 trivial (jMap_one hm1_6 trivial (hpc.wide.map hnc trivial (by have := hpc.len; omega)))
end Go.Proofs.YtfngaoicoecncaaGreatDoor
