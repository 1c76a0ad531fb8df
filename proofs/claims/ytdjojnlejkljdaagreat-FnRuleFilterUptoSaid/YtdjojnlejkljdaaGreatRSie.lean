/-
  How a filter of a rule of intervals is made.
-/
import Derived.Test.YtdjojnlejkljdaaGreatRu
namespace Go.Proofs.YtdjojnlejkljdaaGreat
open Go.RowKit

set_option maxRecDepth 20000 in
set_option maxHeartbeats 4000000 in
theorem rFil_src {S : Nat → Prop} (w : World) (bq : Nat) (v0 : Value) (o0 : Option J) (h0 : OptG S w v0 o0) (v1 : Value) (o1 : Option J) (h1 : OptG S w v1 o1) (v2 : Value) (o2 : Option J) (h2 : OptG S w v2 o2) (v3 : Value) (o3 : Option J) (h3 : OptG S w v3 o3) (v4 : Value) (o4 : Option J) (h4 : OptG S w v4 o4) (v5 : Value) (o5 : Option J) (h5 : OptG S w v5 o5) (v6 : Value) (o6 : Option J) (h6 : OptG S w v6 o6) (v7 : Value) (o7 : Option J) (h7 : OptG S w v7 o7) (hbq : Box w bq #[v0, v1, v2, v3, v4, v5, v6, v7, .pointer none] 160) :
    Calls Tryz.prog 141 #[.pointer (some ⟨bq, 0, none⟩)] w fun r w' => ∃ v, r = .returned (.tuple #[v, .nilIface]) ∧ JAt (fun b => w.heap.size ≤ b) w' v (jMap (jF s_before (o1) ++ jF s_after (o0) ++ jF s_contained_by (o2) ++ jF s_containing (o3) ++ jF s_overlapping (o4) ++ jF s_not_contained_by (o5) ++ jF s_not_containing (o6) ++ jF s_not_overlapping (o7))) ∧ Ext w w' := by
  have tok0 := trivial
  have hblt := hbq.lt
  have hn0 := OptG.test h0
  have hu0 := OptG.guard h0
  have H0 := Lib.hid h0
  clear h0
  have hn1 := OptG.test h1
  have hu1 := OptG.guard h1
  have H1 := Lib.hid h1
  clear h1
  have hn2 := OptG.test h2
  have hu2 := OptG.guard h2
  have H2 := Lib.hid h2
  clear h2
  have hn3 := OptG.test h3
  have hu3 := OptG.guard h3
  have H3 := Lib.hid h3
  clear h3
  have hn4 := OptG.test h4
  have hu4 := OptG.guard h4
  have H4 := Lib.hid h4
  clear h4
  have hn5 := OptG.test h5
  have hu5 := OptG.guard h5
  have H5 := Lib.hid h5
  clear h5
  have hn6 := OptG.test h6
  have hu6 := OptG.guard h6
  have H6 := Lib.hid h6
  clear h6
  have hn7 := OptG.test h7
  have hu7 := OptG.guard h7
  have H7 := Lib.hid h7
  clear h7
  have hc0 := hbq.cell 0 _ rfl
  have hc1 := hbq.cell 1 _ rfl
  have hc2 := hbq.cell 2 _ rfl
  have hc3 := hbq.cell 3 _ rfl
  have hc4 := hbq.cell 4 _ rfl
  have hc5 := hbq.cell 5 _ rfl
  have hc6 := hbq.cell 6 _ rfl
  have hc7 := hbq.cell 7 _ rfl
  have hc8 := hbq.cell 8 _ rfl
  go_enter Tryz.func141, Tryz.ntmps141
  go_upto_if 28 with fail
  have hx0 : Ext w (w.alloc (.map #[] 0)) := ext_alloc (ext_refl _) _
  have hm0 : MapAt (w.alloc (.map #[] 0)) w.heap.size [] := MapAt.at (by simp)
  have hz0 := hm0.lt
  have hw0 : w.heap.size ≤ w.heap.size := by have := hx0.sz; omega
  have hp0 : PJ (fun b => w.heap.size < b) (w.alloc (.map #[] 0)) [] (([] : List (ByteArray × J))) := PJ.nil _ _
  go_cut [] (fun wc => Ext w wc ∧ ∃ rp, rp.length ≤ 1 ∧ MapAt wc w.heap.size rp ∧ PJ (fun b => w.heap.size < b) wc rp (jF s_before (o1)))
  case first => as_aux_lemma =>
    cases o1 with
    | none =>
      simp only [Option.isSome_none]
      go_wp2_with fail
      go_meet
      case rel =>
        refine ⟨hx0, [], by simp, hm0, ?_⟩
        rw [show jF s_before none = [] from rfl]
        exact hp0
    | some jf =>
      simp only [Option.isSome_some]
      obtain ⟨qty, qx, qf, hv, hqm, hqm2, hqC⟩ := H1.out
      subst hv
      have HQC := Lib.hid hqC
      clear hqC
      have hsn := hm0.lt
      go_wp2_with (first
        | ((with_reducible show Calls _ qf _ _ _); refine (HQC.out _ (Ext.keeps (ext_trans hx0 (by (repeat (first | exact ext_refl _ | assumption | refine ext_alloc ?_ _ | refine ext_drew ?_ | refine ext_set ?_ (by simp) _ | refine ext_trans ?_ (by assumption))))) _) (Ext.sz (ext_trans hx0 (by (repeat (first | exact ext_refl _ | assumption | refine ext_alloc ?_ _ | refine ext_drew ?_ | refine ext_set ?_ (by simp) _ | refine ext_trans ?_ (by assumption))))))).mono ?_; rintro r ws ⟨jty, jx, rfl, hJs, hxs⟩
           have hxt : Ext w ws := ext_trans hx0 (ext_trans (by (repeat (first | exact ext_refl _ | assumption | refine ext_alloc ?_ _ | refine ext_drew ?_ | refine ext_set ?_ (by simp) _ | refine ext_trans ?_ (by assumption)))) hxs)
           have hnt := MapAt.ext hm0 (ext_trans (by (repeat (first | exact ext_refl _ | assumption | refine ext_alloc ?_ _ | refine ext_drew ?_ | refine ext_set ?_ (by simp) _ | refine ext_trans ?_ (by assumption)))) hxs)
           have hpt := hp0.keep (S' := (fun b => w.heap.size < b)) (fun _ h _ => h) (Ext.keeps (ext_trans (by (repeat (first | exact ext_refl _ | assumption | refine ext_alloc ?_ _ | refine ext_drew ?_ | refine ext_set ?_ (by simp) _ | refine ext_trans ?_ (by assumption)))) hxs) _)
           have hJs := hJs.to (S' := (fun b => w.heap.size < b)) (fun b hb _ => by (try simp at hb); omega)
           have hbs := hbq.ext hxt
           have hc0 := hbs.cell 0 _ rfl
           have hc1 := hbs.cell 1 _ rfl
           have hc2 := hbs.cell 2 _ rfl
           have hc3 := hbs.cell 3 _ rfl
           have hc4 := hbs.cell 4 _ rfl
           have hc5 := hbs.cell 5 _ rfl
           have hc6 := hbs.cell 6 _ rfl
           have hc7 := hbs.cell 7 _ rfl
           have hc8 := hbs.cell 8 _ rfl)
        | (at_mapUpdate; refine wp_put _ rfl _ _ _ 79 rfl 20 Tryz.underlying79 w.heap.size [] rfl hnt (by simp [maxLen]) s_before rfl (by decide) _ rfl ?_; intro wn hnn hgn)
        | fail)
      go_meet
      case rel =>
        have hxn := ext_put hxt hgn (by omega)
        refine ⟨hxn, _, ?_, hnn, ?_⟩
        · rw [List.length_append]; exact Nat.succ_le_succ (by simp)
        · rw [show jF s_before (some jf) = [(s_before, jf)] from rfl]
          have hk9 : Keeps (fun b => w.heap.size < b) ws wn := keeps_grown hgn (fun b hb e => by simp only [Option.some.injEq] at e; omega)
          exact PJ.snoc (hpt.keep (fun _ h _ => h) hk9) (JAt.keep (fun _ h _ => h) hk9 _ hJs)
  case rest =>
    obtain ⟨hxc, rp, hr, hnc, hpc⟩ := hcut
    have hbc := hbq.ext hxc
    have hc0 := hbc.cell 0 _ rfl
    have hc1 := hbc.cell 1 _ rfl
    have hc2 := hbc.cell 2 _ rfl
    have hc3 := hbc.cell 3 _ rfl
    have hc4 := hbc.cell 4 _ rfl
    have hc5 := hbc.cell 5 _ rfl
    have hc6 := hbc.cell 6 _ rfl
    have hc7 := hbc.cell 7 _ rfl
    have hc8 := hbc.cell 8 _ rfl
    go_upto_if 46 with fail
    go_cut [] (fun wc => Ext w wc ∧ ∃ rp, rp.length ≤ 2 ∧ MapAt wc w.heap.size rp ∧ PJ (fun b => w.heap.size < b) wc rp (jF s_before (o1) ++ jF s_after (o0)))
    case first => as_aux_lemma =>
      cases o0 with
      | none =>
        simp only [Option.isSome_none]
        go_wp2_with fail
        go_meet
        case rel =>
          refine ⟨hxc, rp, Nat.le_succ_of_le hr, hnc, ?_⟩
          rw [show jF s_after none = [] from rfl, List.append_nil]
          exact hpc
      | some jf =>
        simp only [Option.isSome_some]
        obtain ⟨qty, qx, qf, hv, hqm, hqm2, hqC⟩ := H0.out
        subst hv
        have HQC := Lib.hid hqC
        clear hqC
        have hsn := hnc.lt
        go_wp2_with (first
          | ((with_reducible show Calls _ qf _ _ _); refine (HQC.out _ (Ext.keeps (ext_trans hxc (by (repeat (first | exact ext_refl _ | assumption | refine ext_alloc ?_ _ | refine ext_drew ?_ | refine ext_set ?_ (by simp) _ | refine ext_trans ?_ (by assumption))))) _) (Ext.sz (ext_trans hxc (by (repeat (first | exact ext_refl _ | assumption | refine ext_alloc ?_ _ | refine ext_drew ?_ | refine ext_set ?_ (by simp) _ | refine ext_trans ?_ (by assumption))))))).mono ?_; rintro r ws ⟨jty, jx, rfl, hJs, hxs⟩
             have hxt : Ext w ws := ext_trans hxc (ext_trans (by (repeat (first | exact ext_refl _ | assumption | refine ext_alloc ?_ _ | refine ext_drew ?_ | refine ext_set ?_ (by simp) _ | refine ext_trans ?_ (by assumption)))) hxs)
             have hnt := MapAt.ext hnc (ext_trans (by (repeat (first | exact ext_refl _ | assumption | refine ext_alloc ?_ _ | refine ext_drew ?_ | refine ext_set ?_ (by simp) _ | refine ext_trans ?_ (by assumption)))) hxs)
             have hpt := hpc.keep (S' := (fun b => w.heap.size < b)) (fun _ h _ => h) (Ext.keeps (ext_trans (by (repeat (first | exact ext_refl _ | assumption | refine ext_alloc ?_ _ | refine ext_drew ?_ | refine ext_set ?_ (by simp) _ | refine ext_trans ?_ (by assumption)))) hxs) _)
             have hJs := hJs.to (S' := (fun b => w.heap.size < b)) (fun b hb _ => by (try simp at hb); omega)
             have hbs := hbq.ext hxt
             have hc0 := hbs.cell 0 _ rfl
             have hc1 := hbs.cell 1 _ rfl
             have hc2 := hbs.cell 2 _ rfl
             have hc3 := hbs.cell 3 _ rfl
             have hc4 := hbs.cell 4 _ rfl
             have hc5 := hbs.cell 5 _ rfl
             have hc6 := hbs.cell 6 _ rfl
             have hc7 := hbs.cell 7 _ rfl
             have hc8 := hbs.cell 8 _ rfl)
          | (at_mapUpdate; refine wp_put _ rfl _ _ _ 79 rfl 20 Tryz.underlying79 w.heap.size rp rfl hnt (Nat.lt_of_le_of_lt hr (by decide)) s_after rfl (by decide) _ rfl ?_; intro wn hnn hgn)
          | fail)
        go_meet
        case rel =>
          have hxn := ext_put hxt hgn (by omega)
          refine ⟨hxn, _, ?_, hnn, ?_⟩
          · rw [List.length_append]; exact Nat.succ_le_succ (by exact hr)
          · rw [show jF s_after (some jf) = [(s_after, jf)] from rfl]
            have hk9 : Keeps (fun b => w.heap.size < b) ws wn := keeps_grown hgn (fun b hb e => by simp only [Option.some.injEq] at e; omega)
            exact PJ.snoc (hpt.keep (fun _ h _ => h) hk9) (JAt.keep (fun _ h _ => h) hk9 _ hJs)
    case rest =>
      obtain ⟨hxc, rp, hr, hnc, hpc⟩ := hcut
      have hbc := hbq.ext hxc
      have hc0 := hbc.cell 0 _ rfl
      have hc1 := hbc.cell 1 _ rfl
      have hc2 := hbc.cell 2 _ rfl
      have hc3 := hbc.cell 3 _ rfl
      have hc4 := hbc.cell 4 _ rfl
      have hc5 := hbc.cell 5 _ rfl
      have hc6 := hbc.cell 6 _ rfl
      have hc7 := hbc.cell 7 _ rfl
      have hc8 := hbc.cell 8 _ rfl
      go_upto_if 64 with fail
      go_cut [] (fun wc => Ext w wc ∧ ∃ rp, rp.length ≤ 3 ∧ MapAt wc w.heap.size rp ∧ PJ (fun b => w.heap.size < b) wc rp (jF s_before (o1) ++ jF s_after (o0) ++ jF s_contained_by (o2)))
      case first => as_aux_lemma =>
        cases o2 with
        | none =>
          simp only [Option.isSome_none]
          go_wp2_with fail
          go_meet
          case rel =>
            refine ⟨hxc, rp, Nat.le_succ_of_le hr, hnc, ?_⟩
            rw [show jF s_contained_by none = [] from rfl, List.append_nil]
            exact hpc
        | some jf =>
          simp only [Option.isSome_some]
          obtain ⟨qty, qx, qf, hv, hqm, hqm2, hqC⟩ := H2.out
          subst hv
          have HQC := Lib.hid hqC
          clear hqC
          have hsn := hnc.lt
          go_wp2_with (first
            | ((with_reducible show Calls _ qf _ _ _); refine (HQC.out _ (Ext.keeps (ext_trans hxc (by (repeat (first | exact ext_refl _ | assumption | refine ext_alloc ?_ _ | refine ext_drew ?_ | refine ext_set ?_ (by simp) _ | refine ext_trans ?_ (by assumption))))) _) (Ext.sz (ext_trans hxc (by (repeat (first | exact ext_refl _ | assumption | refine ext_alloc ?_ _ | refine ext_drew ?_ | refine ext_set ?_ (by simp) _ | refine ext_trans ?_ (by assumption))))))).mono ?_; rintro r ws ⟨jty, jx, rfl, hJs, hxs⟩
               have hxt : Ext w ws := ext_trans hxc (ext_trans (by (repeat (first | exact ext_refl _ | assumption | refine ext_alloc ?_ _ | refine ext_drew ?_ | refine ext_set ?_ (by simp) _ | refine ext_trans ?_ (by assumption)))) hxs)
               have hnt := MapAt.ext hnc (ext_trans (by (repeat (first | exact ext_refl _ | assumption | refine ext_alloc ?_ _ | refine ext_drew ?_ | refine ext_set ?_ (by simp) _ | refine ext_trans ?_ (by assumption)))) hxs)
               have hpt := hpc.keep (S' := (fun b => w.heap.size < b)) (fun _ h _ => h) (Ext.keeps (ext_trans (by (repeat (first | exact ext_refl _ | assumption | refine ext_alloc ?_ _ | refine ext_drew ?_ | refine ext_set ?_ (by simp) _ | refine ext_trans ?_ (by assumption)))) hxs) _)
               have hJs := hJs.to (S' := (fun b => w.heap.size < b)) (fun b hb _ => by (try simp at hb); omega)
               have hbs := hbq.ext hxt
               have hc0 := hbs.cell 0 _ rfl
               have hc1 := hbs.cell 1 _ rfl
               have hc2 := hbs.cell 2 _ rfl
               have hc3 := hbs.cell 3 _ rfl
               have hc4 := hbs.cell 4 _ rfl
               have hc5 := hbs.cell 5 _ rfl
               have hc6 := hbs.cell 6 _ rfl
               have hc7 := hbs.cell 7 _ rfl
               have hc8 := hbs.cell 8 _ rfl)
            | (at_mapUpdate; refine wp_put _ rfl _ _ _ 79 rfl 20 Tryz.underlying79 w.heap.size rp rfl hnt (Nat.lt_of_le_of_lt hr (by decide)) s_contained_by rfl (by decide) _ rfl ?_; intro wn hnn hgn)
            | fail)
          go_meet
          case rel =>
            have hxn := ext_put hxt hgn (by omega)
            refine ⟨hxn, _, ?_, hnn, ?_⟩
            · rw [List.length_append]; exact Nat.succ_le_succ (by exact hr)
            · rw [show jF s_contained_by (some jf) = [(s_contained_by, jf)] from rfl]
              have hk9 : Keeps (fun b => w.heap.size < b) ws wn := keeps_grown hgn (fun b hb e => by simp only [Option.some.injEq] at e; omega)
              exact PJ.snoc (hpt.keep (fun _ h _ => h) hk9) (JAt.keep (fun _ h _ => h) hk9 _ hJs)
      case rest =>
        obtain ⟨hxc, rp, hr, hnc, hpc⟩ := hcut
        have hbc := hbq.ext hxc
        have hc0 := hbc.cell 0 _ rfl
        have hc1 := hbc.cell 1 _ rfl
        have hc2 := hbc.cell 2 _ rfl
        have hc3 := hbc.cell 3 _ rfl
        have hc4 := hbc.cell 4 _ rfl
        have hc5 := hbc.cell 5 _ rfl
        have hc6 := hbc.cell 6 _ rfl
        have hc7 := hbc.cell 7 _ rfl
        have hc8 := hbc.cell 8 _ rfl
        go_upto_if 82 with fail
        go_cut [] (fun wc => Ext w wc ∧ ∃ rp, rp.length ≤ 4 ∧ MapAt wc w.heap.size rp ∧ PJ (fun b => w.heap.size < b) wc rp (jF s_before (o1) ++ jF s_after (o0) ++ jF s_contained_by (o2) ++ jF s_containing (o3)))
        case first => as_aux_lemma =>
          cases o3 with
          | none =>
            simp only [Option.isSome_none]
            go_wp2_with fail
            go_meet
            case rel =>
              refine ⟨hxc, rp, Nat.le_succ_of_le hr, hnc, ?_⟩
              rw [show jF s_containing none = [] from rfl, List.append_nil]
              exact hpc
          | some jf =>
            simp only [Option.isSome_some]
            obtain ⟨qty, qx, qf, hv, hqm, hqm2, hqC⟩ := H3.out
            subst hv
            have HQC := Lib.hid hqC
            clear hqC
            have hsn := hnc.lt
            go_wp2_with (first
              | ((with_reducible show Calls _ qf _ _ _); refine (HQC.out _ (Ext.keeps (ext_trans hxc (by (repeat (first | exact ext_refl _ | assumption | refine ext_alloc ?_ _ | refine ext_drew ?_ | refine ext_set ?_ (by simp) _ | refine ext_trans ?_ (by assumption))))) _) (Ext.sz (ext_trans hxc (by (repeat (first | exact ext_refl _ | assumption | refine ext_alloc ?_ _ | refine ext_drew ?_ | refine ext_set ?_ (by simp) _ | refine ext_trans ?_ (by assumption))))))).mono ?_; rintro r ws ⟨jty, jx, rfl, hJs, hxs⟩
                 have hxt : Ext w ws := ext_trans hxc (ext_trans (by (repeat (first | exact ext_refl _ | assumption | refine ext_alloc ?_ _ | refine ext_drew ?_ | refine ext_set ?_ (by simp) _ | refine ext_trans ?_ (by assumption)))) hxs)
                 have hnt := MapAt.ext hnc (ext_trans (by (repeat (first | exact ext_refl _ | assumption | refine ext_alloc ?_ _ | refine ext_drew ?_ | refine ext_set ?_ (by simp) _ | refine ext_trans ?_ (by assumption)))) hxs)
                 have hpt := hpc.keep (S' := (fun b => w.heap.size < b)) (fun _ h _ => h) (Ext.keeps (ext_trans (by (repeat (first | exact ext_refl _ | assumption | refine ext_alloc ?_ _ | refine ext_drew ?_ | refine ext_set ?_ (by simp) _ | refine ext_trans ?_ (by assumption)))) hxs) _)
                 have hJs := hJs.to (S' := (fun b => w.heap.size < b)) (fun b hb _ => by (try simp at hb); omega)
                 have hbs := hbq.ext hxt
                 have hc0 := hbs.cell 0 _ rfl
                 have hc1 := hbs.cell 1 _ rfl
                 have hc2 := hbs.cell 2 _ rfl
                 have hc3 := hbs.cell 3 _ rfl
                 have hc4 := hbs.cell 4 _ rfl
                 have hc5 := hbs.cell 5 _ rfl
                 have hc6 := hbs.cell 6 _ rfl
                 have hc7 := hbs.cell 7 _ rfl
                 have hc8 := hbs.cell 8 _ rfl)
              | (at_mapUpdate; refine wp_put _ rfl _ _ _ 79 rfl 20 Tryz.underlying79 w.heap.size rp rfl hnt (Nat.lt_of_le_of_lt hr (by decide)) s_containing rfl (by decide) _ rfl ?_; intro wn hnn hgn)
              | fail)
            go_meet
            case rel =>
              have hxn := ext_put hxt hgn (by omega)
              refine ⟨hxn, _, ?_, hnn, ?_⟩
              · rw [List.length_append]; exact Nat.succ_le_succ (by exact hr)
              · rw [show jF s_containing (some jf) = [(s_containing, jf)] from rfl]
                have hk9 : Keeps (fun b => w.heap.size < b) ws wn := keeps_grown hgn (fun b hb e => by simp only [Option.some.injEq] at e; omega)
                exact PJ.snoc (hpt.keep (fun _ h _ => h) hk9) (JAt.keep (fun _ h _ => h) hk9 _ hJs)
        case rest =>
          obtain ⟨hxc, rp, hr, hnc, hpc⟩ := hcut
          have hbc := hbq.ext hxc
          have hc0 := hbc.cell 0 _ rfl
          have hc1 := hbc.cell 1 _ rfl
          have hc2 := hbc.cell 2 _ rfl
          have hc3 := hbc.cell 3 _ rfl
          have hc4 := hbc.cell 4 _ rfl
          have hc5 := hbc.cell 5 _ rfl
          have hc6 := hbc.cell 6 _ rfl
          have hc7 := hbc.cell 7 _ rfl
          have hc8 := hbc.cell 8 _ rfl
          go_upto_if 100 with fail
          go_cut [] (fun wc => Ext w wc ∧ ∃ rp, rp.length ≤ 5 ∧ MapAt wc w.heap.size rp ∧ PJ (fun b => w.heap.size < b) wc rp (jF s_before (o1) ++ jF s_after (o0) ++ jF s_contained_by (o2) ++ jF s_containing (o3) ++ jF s_overlapping (o4)))
          case first => as_aux_lemma =>
            cases o4 with
            | none =>
              simp only [Option.isSome_none]
              go_wp2_with fail
              go_meet
              case rel =>
                refine ⟨hxc, rp, Nat.le_succ_of_le hr, hnc, ?_⟩
                rw [show jF s_overlapping none = [] from rfl, List.append_nil]
                exact hpc
            | some jf =>
              simp only [Option.isSome_some]
              obtain ⟨qty, qx, qf, hv, hqm, hqm2, hqC⟩ := H4.out
              subst hv
              have HQC := Lib.hid hqC
              clear hqC
              have hsn := hnc.lt
              go_wp2_with (first
                | ((with_reducible show Calls _ qf _ _ _); refine (HQC.out _ (Ext.keeps (ext_trans hxc (by (repeat (first | exact ext_refl _ | assumption | refine ext_alloc ?_ _ | refine ext_drew ?_ | refine ext_set ?_ (by simp) _ | refine ext_trans ?_ (by assumption))))) _) (Ext.sz (ext_trans hxc (by (repeat (first | exact ext_refl _ | assumption | refine ext_alloc ?_ _ | refine ext_drew ?_ | refine ext_set ?_ (by simp) _ | refine ext_trans ?_ (by assumption))))))).mono ?_; rintro r ws ⟨jty, jx, rfl, hJs, hxs⟩
                   have hxt : Ext w ws := ext_trans hxc (ext_trans (by (repeat (first | exact ext_refl _ | assumption | refine ext_alloc ?_ _ | refine ext_drew ?_ | refine ext_set ?_ (by simp) _ | refine ext_trans ?_ (by assumption)))) hxs)
                   have hnt := MapAt.ext hnc (ext_trans (by (repeat (first | exact ext_refl _ | assumption | refine ext_alloc ?_ _ | refine ext_drew ?_ | refine ext_set ?_ (by simp) _ | refine ext_trans ?_ (by assumption)))) hxs)
                   have hpt := hpc.keep (S' := (fun b => w.heap.size < b)) (fun _ h _ => h) (Ext.keeps (ext_trans (by (repeat (first | exact ext_refl _ | assumption | refine ext_alloc ?_ _ | refine ext_drew ?_ | refine ext_set ?_ (by simp) _ | refine ext_trans ?_ (by assumption)))) hxs) _)
                   have hJs := hJs.to (S' := (fun b => w.heap.size < b)) (fun b hb _ => by (try simp at hb); omega)
                   have hbs := hbq.ext hxt
                   have hc0 := hbs.cell 0 _ rfl
                   have hc1 := hbs.cell 1 _ rfl
                   have hc2 := hbs.cell 2 _ rfl
                   have hc3 := hbs.cell 3 _ rfl
                   have hc4 := hbs.cell 4 _ rfl
                   have hc5 := hbs.cell 5 _ rfl
                   have hc6 := hbs.cell 6 _ rfl
                   have hc7 := hbs.cell 7 _ rfl
                   have hc8 := hbs.cell 8 _ rfl)
                | (at_mapUpdate; refine wp_put _ rfl _ _ _ 79 rfl 20 Tryz.underlying79 w.heap.size rp rfl hnt (Nat.lt_of_le_of_lt hr (by decide)) s_overlapping rfl (by decide) _ rfl ?_; intro wn hnn hgn)
                | fail)
              go_meet
              case rel =>
                have hxn := ext_put hxt hgn (by omega)
                refine ⟨hxn, _, ?_, hnn, ?_⟩
                · rw [List.length_append]; exact Nat.succ_le_succ (by exact hr)
                · rw [show jF s_overlapping (some jf) = [(s_overlapping, jf)] from rfl]
                  have hk9 : Keeps (fun b => w.heap.size < b) ws wn := keeps_grown hgn (fun b hb e => by simp only [Option.some.injEq] at e; omega)
                  exact PJ.snoc (hpt.keep (fun _ h _ => h) hk9) (JAt.keep (fun _ h _ => h) hk9 _ hJs)
          case rest =>
            obtain ⟨hxc, rp, hr, hnc, hpc⟩ := hcut
            have hbc := hbq.ext hxc
            have hc0 := hbc.cell 0 _ rfl
            have hc1 := hbc.cell 1 _ rfl
            have hc2 := hbc.cell 2 _ rfl
            have hc3 := hbc.cell 3 _ rfl
            have hc4 := hbc.cell 4 _ rfl
            have hc5 := hbc.cell 5 _ rfl
            have hc6 := hbc.cell 6 _ rfl
            have hc7 := hbc.cell 7 _ rfl
            have hc8 := hbc.cell 8 _ rfl
            go_upto_if 118 with fail
            go_cut [] (fun wc => Ext w wc ∧ ∃ rp, rp.length ≤ 6 ∧ MapAt wc w.heap.size rp ∧ PJ (fun b => w.heap.size < b) wc rp (jF s_before (o1) ++ jF s_after (o0) ++ jF s_contained_by (o2) ++ jF s_containing (o3) ++ jF s_overlapping (o4) ++ jF s_not_contained_by (o5)))
            case first => as_aux_lemma =>
              cases o5 with
              | none =>
                simp only [Option.isSome_none]
                go_wp2_with fail
                go_meet
                case rel =>
                  refine ⟨hxc, rp, Nat.le_succ_of_le hr, hnc, ?_⟩
                  rw [show jF s_not_contained_by none = [] from rfl, List.append_nil]
                  exact hpc
              | some jf =>
                simp only [Option.isSome_some]
                obtain ⟨qty, qx, qf, hv, hqm, hqm2, hqC⟩ := H5.out
                subst hv
                have HQC := Lib.hid hqC
                clear hqC
                have hsn := hnc.lt
                go_wp2_with (first
                  | ((with_reducible show Calls _ qf _ _ _); refine (HQC.out _ (Ext.keeps (ext_trans hxc (by (repeat (first | exact ext_refl _ | assumption | refine ext_alloc ?_ _ | refine ext_drew ?_ | refine ext_set ?_ (by simp) _ | refine ext_trans ?_ (by assumption))))) _) (Ext.sz (ext_trans hxc (by (repeat (first | exact ext_refl _ | assumption | refine ext_alloc ?_ _ | refine ext_drew ?_ | refine ext_set ?_ (by simp) _ | refine ext_trans ?_ (by assumption))))))).mono ?_; rintro r ws ⟨jty, jx, rfl, hJs, hxs⟩
                     have hxt : Ext w ws := ext_trans hxc (ext_trans (by (repeat (first | exact ext_refl _ | assumption | refine ext_alloc ?_ _ | refine ext_drew ?_ | refine ext_set ?_ (by simp) _ | refine ext_trans ?_ (by assumption)))) hxs)
                     have hnt := MapAt.ext hnc (ext_trans (by (repeat (first | exact ext_refl _ | assumption | refine ext_alloc ?_ _ | refine ext_drew ?_ | refine ext_set ?_ (by simp) _ | refine ext_trans ?_ (by assumption)))) hxs)
                     have hpt := hpc.keep (S' := (fun b => w.heap.size < b)) (fun _ h _ => h) (Ext.keeps (ext_trans (by (repeat (first | exact ext_refl _ | assumption | refine ext_alloc ?_ _ | refine ext_drew ?_ | refine ext_set ?_ (by simp) _ | refine ext_trans ?_ (by assumption)))) hxs) _)
                     have hJs := hJs.to (S' := (fun b => w.heap.size < b)) (fun b hb _ => by (try simp at hb); omega)
                     have hbs := hbq.ext hxt
                     have hc0 := hbs.cell 0 _ rfl
                     have hc1 := hbs.cell 1 _ rfl
                     have hc2 := hbs.cell 2 _ rfl
                     have hc3 := hbs.cell 3 _ rfl
                     have hc4 := hbs.cell 4 _ rfl
                     have hc5 := hbs.cell 5 _ rfl
                     have hc6 := hbs.cell 6 _ rfl
                     have hc7 := hbs.cell 7 _ rfl
                     have hc8 := hbs.cell 8 _ rfl)
                  | (at_mapUpdate; refine wp_put _ rfl _ _ _ 79 rfl 20 Tryz.underlying79 w.heap.size rp rfl hnt (Nat.lt_of_le_of_lt hr (by decide)) s_not_contained_by rfl (by decide) _ rfl ?_; intro wn hnn hgn)
                  | fail)
                go_meet
                case rel =>
                  have hxn := ext_put hxt hgn (by omega)
                  refine ⟨hxn, _, ?_, hnn, ?_⟩
                  · rw [List.length_append]; exact Nat.succ_le_succ (by exact hr)
                  · rw [show jF s_not_contained_by (some jf) = [(s_not_contained_by, jf)] from rfl]
                    have hk9 : Keeps (fun b => w.heap.size < b) ws wn := keeps_grown hgn (fun b hb e => by simp only [Option.some.injEq] at e; omega)
                    exact PJ.snoc (hpt.keep (fun _ h _ => h) hk9) (JAt.keep (fun _ h _ => h) hk9 _ hJs)
            case rest =>
              obtain ⟨hxc, rp, hr, hnc, hpc⟩ := hcut
              have hbc := hbq.ext hxc
              have hc0 := hbc.cell 0 _ rfl
              have hc1 := hbc.cell 1 _ rfl
              have hc2 := hbc.cell 2 _ rfl
              have hc3 := hbc.cell 3 _ rfl
              have hc4 := hbc.cell 4 _ rfl
              have hc5 := hbc.cell 5 _ rfl
              have hc6 := hbc.cell 6 _ rfl
              have hc7 := hbc.cell 7 _ rfl
              have hc8 := hbc.cell 8 _ rfl
              go_upto_if 136 with fail
              go_cut [] (fun wc => Ext w wc ∧ ∃ rp, rp.length ≤ 7 ∧ MapAt wc w.heap.size rp ∧ PJ (fun b => w.heap.size < b) wc rp (jF s_before (o1) ++ jF s_after (o0) ++ jF s_contained_by (o2) ++ jF s_containing (o3) ++ jF s_overlapping (o4) ++ jF s_not_contained_by (o5) ++ jF s_not_containing (o6)))
              case first => as_aux_lemma =>
                cases o6 with
                | none =>
                  simp only [Option.isSome_none]
                  go_wp2_with fail
                  go_meet
                  case rel =>
                    refine ⟨hxc, rp, Nat.le_succ_of_le hr, hnc, ?_⟩
                    rw [show jF s_not_containing none = [] from rfl, List.append_nil]
                    exact hpc
                | some jf =>
                  simp only [Option.isSome_some]
                  obtain ⟨qty, qx, qf, hv, hqm, hqm2, hqC⟩ := H6.out
                  subst hv
                  have HQC := Lib.hid hqC
                  clear hqC
                  have hsn := hnc.lt
                  go_wp2_with (first
                    | ((with_reducible show Calls _ qf _ _ _); refine (HQC.out _ (Ext.keeps (ext_trans hxc (by (repeat (first | exact ext_refl _ | assumption | refine ext_alloc ?_ _ | refine ext_drew ?_ | refine ext_set ?_ (by simp) _ | refine ext_trans ?_ (by assumption))))) _) (Ext.sz (ext_trans hxc (by (repeat (first | exact ext_refl _ | assumption | refine ext_alloc ?_ _ | refine ext_drew ?_ | refine ext_set ?_ (by simp) _ | refine ext_trans ?_ (by assumption))))))).mono ?_; rintro r ws ⟨jty, jx, rfl, hJs, hxs⟩
                       have hxt : Ext w ws := ext_trans hxc (ext_trans (by (repeat (first | exact ext_refl _ | assumption | refine ext_alloc ?_ _ | refine ext_drew ?_ | refine ext_set ?_ (by simp) _ | refine ext_trans ?_ (by assumption)))) hxs)
                       have hnt := MapAt.ext hnc (ext_trans (by (repeat (first | exact ext_refl _ | assumption | refine ext_alloc ?_ _ | refine ext_drew ?_ | refine ext_set ?_ (by simp) _ | refine ext_trans ?_ (by assumption)))) hxs)
                       have hpt := hpc.keep (S' := (fun b => w.heap.size < b)) (fun _ h _ => h) (Ext.keeps (ext_trans (by (repeat (first | exact ext_refl _ | assumption | refine ext_alloc ?_ _ | refine ext_drew ?_ | refine ext_set ?_ (by simp) _ | refine ext_trans ?_ (by assumption)))) hxs) _)
                       have hJs := hJs.to (S' := (fun b => w.heap.size < b)) (fun b hb _ => by (try simp at hb); omega)
                       have hbs := hbq.ext hxt
                       have hc0 := hbs.cell 0 _ rfl
                       have hc1 := hbs.cell 1 _ rfl
                       have hc2 := hbs.cell 2 _ rfl
                       have hc3 := hbs.cell 3 _ rfl
                       have hc4 := hbs.cell 4 _ rfl
                       have hc5 := hbs.cell 5 _ rfl
                       have hc6 := hbs.cell 6 _ rfl
                       have hc7 := hbs.cell 7 _ rfl
                       have hc8 := hbs.cell 8 _ rfl)
                    | (at_mapUpdate; refine wp_put _ rfl _ _ _ 79 rfl 20 Tryz.underlying79 w.heap.size rp rfl hnt (Nat.lt_of_le_of_lt hr (by decide)) s_not_containing rfl (by decide) _ rfl ?_; intro wn hnn hgn)
                    | fail)
                  go_meet
                  case rel =>
                    have hxn := ext_put hxt hgn (by omega)
                    refine ⟨hxn, _, ?_, hnn, ?_⟩
                    · rw [List.length_append]; exact Nat.succ_le_succ (by exact hr)
                    · rw [show jF s_not_containing (some jf) = [(s_not_containing, jf)] from rfl]
                      have hk9 : Keeps (fun b => w.heap.size < b) ws wn := keeps_grown hgn (fun b hb e => by simp only [Option.some.injEq] at e; omega)
                      exact PJ.snoc (hpt.keep (fun _ h _ => h) hk9) (JAt.keep (fun _ h _ => h) hk9 _ hJs)
              case rest =>
                obtain ⟨hxc, rp, hr, hnc, hpc⟩ := hcut
                have hbc := hbq.ext hxc
                have hc0 := hbc.cell 0 _ rfl
                have hc1 := hbc.cell 1 _ rfl
                have hc2 := hbc.cell 2 _ rfl
                have hc3 := hbc.cell 3 _ rfl
                have hc4 := hbc.cell 4 _ rfl
                have hc5 := hbc.cell 5 _ rfl
                have hc6 := hbc.cell 6 _ rfl
                have hc7 := hbc.cell 7 _ rfl
                have hc8 := hbc.cell 8 _ rfl
                go_upto_if 154 with fail
                go_cut [] (fun wc => Ext w wc ∧ ∃ rp, rp.length ≤ 8 ∧ MapAt wc w.heap.size rp ∧ PJ (fun b => w.heap.size < b) wc rp (jF s_before (o1) ++ jF s_after (o0) ++ jF s_contained_by (o2) ++ jF s_containing (o3) ++ jF s_overlapping (o4) ++ jF s_not_contained_by (o5) ++ jF s_not_containing (o6) ++ jF s_not_overlapping (o7)))
                case first => as_aux_lemma =>
                  cases o7 with
                  | none =>
                    simp only [Option.isSome_none]
                    go_wp2_with fail
                    go_meet
                    case rel =>
                      refine ⟨hxc, rp, Nat.le_succ_of_le hr, hnc, ?_⟩
                      rw [show jF s_not_overlapping none = [] from rfl, List.append_nil]
                      exact hpc
                  | some jf =>
                    simp only [Option.isSome_some]
                    obtain ⟨qty, qx, qf, hv, hqm, hqm2, hqC⟩ := H7.out
                    subst hv
                    have HQC := Lib.hid hqC
                    clear hqC
                    have hsn := hnc.lt
                    go_wp2_with (first
                      | ((with_reducible show Calls _ qf _ _ _); refine (HQC.out _ (Ext.keeps (ext_trans hxc (by (repeat (first | exact ext_refl _ | assumption | refine ext_alloc ?_ _ | refine ext_drew ?_ | refine ext_set ?_ (by simp) _ | refine ext_trans ?_ (by assumption))))) _) (Ext.sz (ext_trans hxc (by (repeat (first | exact ext_refl _ | assumption | refine ext_alloc ?_ _ | refine ext_drew ?_ | refine ext_set ?_ (by simp) _ | refine ext_trans ?_ (by assumption))))))).mono ?_; rintro r ws ⟨jty, jx, rfl, hJs, hxs⟩
                         have hxt : Ext w ws := ext_trans hxc (ext_trans (by (repeat (first | exact ext_refl _ | assumption | refine ext_alloc ?_ _ | refine ext_drew ?_ | refine ext_set ?_ (by simp) _ | refine ext_trans ?_ (by assumption)))) hxs)
                         have hnt := MapAt.ext hnc (ext_trans (by (repeat (first | exact ext_refl _ | assumption | refine ext_alloc ?_ _ | refine ext_drew ?_ | refine ext_set ?_ (by simp) _ | refine ext_trans ?_ (by assumption)))) hxs)
                         have hpt := hpc.keep (S' := (fun b => w.heap.size < b)) (fun _ h _ => h) (Ext.keeps (ext_trans (by (repeat (first | exact ext_refl _ | assumption | refine ext_alloc ?_ _ | refine ext_drew ?_ | refine ext_set ?_ (by simp) _ | refine ext_trans ?_ (by assumption)))) hxs) _)
                         have hJs := hJs.to (S' := (fun b => w.heap.size < b)) (fun b hb _ => by (try simp at hb); omega)
                         have hbs := hbq.ext hxt
                         have hc0 := hbs.cell 0 _ rfl
                         have hc1 := hbs.cell 1 _ rfl
                         have hc2 := hbs.cell 2 _ rfl
                         have hc3 := hbs.cell 3 _ rfl
                         have hc4 := hbs.cell 4 _ rfl
                         have hc5 := hbs.cell 5 _ rfl
                         have hc6 := hbs.cell 6 _ rfl
                         have hc7 := hbs.cell 7 _ rfl
                         have hc8 := hbs.cell 8 _ rfl)
                      | (at_mapUpdate; refine wp_put _ rfl _ _ _ 79 rfl 20 Tryz.underlying79 w.heap.size rp rfl hnt (Nat.lt_of_le_of_lt hr (by decide)) s_not_overlapping rfl (by decide) _ rfl ?_; intro wn hnn hgn)
                      | fail)
                    go_meet
                    case rel =>
                      have hxn := ext_put hxt hgn (by omega)
                      refine ⟨hxn, _, ?_, hnn, ?_⟩
                      · rw [List.length_append]; exact Nat.succ_le_succ (by exact hr)
                      · rw [show jF s_not_overlapping (some jf) = [(s_not_overlapping, jf)] from rfl]
                        have hk9 : Keeps (fun b => w.heap.size < b) ws wn := keeps_grown hgn (fun b hb e => by simp only [Option.some.injEq] at e; omega)
                        exact PJ.snoc (hpt.keep (fun _ h _ => h) hk9) (JAt.keep (fun _ h _ => h) hk9 _ hJs)
                case rest =>
                  obtain ⟨hxc, rp, hr, hnc, hpc⟩ := hcut
                  have hbc := hbq.ext hxc
                  have hc0 := hbc.cell 0 _ rfl
                  have hc1 := hbc.cell 1 _ rfl
                  have hc2 := hbc.cell 2 _ rfl
                  have hc3 := hbc.cell 3 _ rfl
                  have hc4 := hbc.cell 4 _ rfl
                  have hc5 := hbc.cell 5 _ rfl
                  have hc6 := hbc.cell 6 _ rfl
                  have hc7 := hbc.cell 7 _ rfl
                  have hc8 := hbc.cell 8 _ rfl
                  go_wp2_with fail
                  go_ret2
                  refine ⟨_, rfl, ?_, hxc⟩
                  exact (hpc.keep (S' := fun b => w.heap.size ≤ b) (fun b hb _ => Nat.le_of_lt hb) (fun _ _ _ => rfl)).map hnc (Nat.le_refl _) (by have := hpc.len; omega)
end Go.Proofs.YtdjojnlejkljdaaGreat

namespace Go.Proofs.YtdjojnlejkljdaaGreat
open Go.RowKit

set_option maxRecDepth 20000 in
set_option maxHeartbeats 4000000 in
theorem sieve_any {S : Nat → Prop} (a : Option Addr) (n c : Nat) (ns : List ByteArray) (rs : List Rl) (w : World) (h : SievesAt S w a n c ns rs) (hR : ∀ r ∈ rs, Ruled r) :
    Calls Tryz.prog 73 #[.slice a n c] w fun r w' => ∃ b, r = .returned (.pointer (some ⟨b, 0, none⟩)) ∧ FilO (fun b => w.heap.size ≤ b) w' (some ⟨b, 0, none⟩) (some (jMap (jFilter (ns.zip (jRules rs))))) ∧ Ext w w' := by
  obtain ⟨hl, hnl, hnc, hcm, hnm, hrr⟩ := h
  unfold maxLen at hcm
  have HL := Lib.hid hl
  have HNL := Lib.hid hnl
  have HNM := Lib.hid hnm
  have HRR := Lib.hid hrr
  have HR := Lib.hid hR
  have hzl : (ns.zip (jRules rs)).length = n := by rw [List.length_zip, jRules_eq, List.length_map, hl, hnl]; omega
  have HZ := Lib.hid hzl
  clear hl hnl hnm hrr hR hzl
  go_enter Tryz.func73, Tryz.ntmps73
  go_wp2_with go_in
  go_loopw [10] (fun i wr => Ext w wr ∧ w.heap.size + 1 ≤ wr.heap.size ∧ ∃ (j : Nat) (v0 v1 v2 v3 v4 v5 v6 v7 : Value), j ≤ n ∧ i = .int .i64 j ∧ Box wr w.heap.size #[v0, v1, v2, v3, v4, v5, v6, v7, .pointer none] 160 ∧ OptG (fun q => w.heap.size < q) wr v0 (lastOf ((ns.zip (jRules rs)).take j) s_after) ∧ OptG (fun q => w.heap.size < q) wr v1 (lastOf ((ns.zip (jRules rs)).take j) s_before) ∧ OptG (fun q => w.heap.size < q) wr v2 (lastOf ((ns.zip (jRules rs)).take j) s_contained_by) ∧ OptG (fun q => w.heap.size < q) wr v3 (lastOf ((ns.zip (jRules rs)).take j) s_containing) ∧ OptG (fun q => w.heap.size < q) wr v4 (lastOf ((ns.zip (jRules rs)).take j) s_overlapping) ∧ OptG (fun q => w.heap.size < q) wr v5 (lastOf ((ns.zip (jRules rs)).take j) s_not_contained_by) ∧ OptG (fun q => w.heap.size < q) wr v6 (lastOf ((ns.zip (jRules rs)).take j) s_not_containing) ∧ OptG (fun q => w.heap.size < q) wr v7 (lastOf ((ns.zip (jRules rs)).take j) s_not_overlapping)) (fun i _ => n - (intOf i).toNat)
  case atStart => exact ⟨by (repeat (first | exact ext_refl _ | assumption | refine ext_alloc ?_ _ | refine ext_drew ?_ | refine ext_set ?_ (by simp) _ | refine ext_trans ?_ (by assumption))), by simp, 0, _, _, _, _, _, _, _, _, Nat.zero_le _, rfl, Box.at rfl _ _, rfl, rfl, rfl, rfl, rfl, rfl, rfl, rfl⟩
  case round =>
    obtain ⟨hx, hsz, j, v0, v1, v2, v3, v4, v5, v6, v7, hj, rfl, hbq, h0, h1, h2, h3, h4, h5, h6, h7⟩ := hrel
    have H0 := Lib.hid h0
    have H1 := Lib.hid h1
    have H2 := Lib.hid h2
    have H3 := Lib.hid h3
    have H4 := Lib.hid h4
    have H5 := Lib.hid h5
    have H6 := Lib.hid h6
    have H7 := Lib.hid h7
    clear h0 h1 h2 h3 h4 h5 h6 h7
    have hbql := hbq.lt
    by_cases hlt : j < n
    · obtain ⟨nm, hnm⟩ := some_of_lt HNL.out hlt
      obtain ⟨r0, hr0⟩ := some_of_lt HL.out hlt
      obtain ⟨b, off, rfl, -, hcn⟩ := HNM.out j nm hnm
      obtain ⟨b', off', e, hbe, -, hrc, hra⟩ := HRR.out.get hr0
      cases hbe
      rw [Nat.zero_add] at hrc
      obtain ⟨ek, ex, esa, esn, esc, eka, ekn, ekc, eva, evn, evc⟩ := e
      have z0 := hx.cell hcn
      obtain ⟨z1, z2, z3, z4, z5⟩ := RCells.ext hx hrc
      have hp : (ns.zip (jRules rs))[j]? = some (nm, jRule r0) := by
        rw [List.getElem?_zip_eq_some]
        exact ⟨hnm, by rw [jRules_eq, List.getElem?_map, hr0]; rfl⟩
      have HP := Lib.hid hp
      have hRu := Lib.hid (fun (w1 : World) (x : Ext w w1) => HR.out r0 (List.mem_of_getElem? hr0) S _ w1 (RuleAt.ext x hra))
      clear hp hnm hr0 hcn hra hrc
      have hsv : Box (wr.alloc (.cells #[.string nm, .int .i64 ek, .string ex, .slice esa esn esc, .slice eka ekn ekc, .slice eva evn evc] 46)) wr.heap.size #[.string nm, .int .i64 ek, .string ex, .slice esa esn esc, .slice eka ekn ekc, .slice eva evn evc] 46 := Box.at rfl _ _
      have hxs : Ext wr (wr.alloc (.cells #[.string nm, .int .i64 ek, .string ex, .slice esa esn esc, .slice eka ekn ekc, .slice eva evn evc] 46)) := ext_alloc (ext_refl _) _
      go_upto_region 6 with (go_at_call 22; refine (hRu.out _ (ext_trans hx hxs)).mono ?_; rintro r w2 ⟨q, rfl, hG, hx2⟩; obtain ⟨qty, qx, qf, rfl, hq1, hq2, hq3⟩ := id hG; clear hq1 hq2 hq3)
      have HG := Lib.hid (hG.to (S' := fun q => w.heap.size < q) (fun q hq _ => by simp at hq; omega))
      clear hG
      have hsv2 := hsv.ext hx2
      have s0 := hsv2.cell 0 _ rfl
      have hb2 := (hbq.ext hxs).ext hx2
      have hxt := ext_trans hx (ext_trans hxs hx2)
      have hst : wr.heap.size + 1 ≤ w2.heap.size := by have := hx2.sz; simp at this; omega
      have hbl2 := hb2.lt
      have hf0 := hb2.free 0
      have hc0 := hb2.cell 0 _ rfl
      have hf1 := hb2.free 1
      have hc1 := hb2.cell 1 _ rfl
      have hf2 := hb2.free 2
      have hc2 := hb2.cell 2 _ rfl
      have hf3 := hb2.free 3
      have hc3 := hb2.cell 3 _ rfl
      have hf4 := hb2.free 4
      have hc4 := hb2.cell 4 _ rfl
      have hf5 := hb2.free 5
      have hc5 := hb2.cell 5 _ rfl
      have hf6 := hb2.free 6
      have hc6 := hb2.cell 6 _ rfl
      have hf7 := hb2.free 7
      have hc7 := hb2.cell 7 _ rfl
      have hks : Keeps (fun q => w.heap.size < q) wr w2 := (ext_trans hxs hx2).keeps _
      have hss : wr.heap.size ≤ w2.heap.size := by omega
      cases he0 : nm.toList == [97, 102, 116, 101, 114]
      · have e0 : seq nm s_after = false := by rw [seq, show s_after.toList = [97, 102, 116, 101, 114] by rw [Lib.toList_data]]; exact he0
        cases he1 : nm.toList == [98, 101, 102, 111, 114, 101]
        · have e1 : seq nm s_before = false := by rw [seq, show s_before.toList = [98, 101, 102, 111, 114, 101] by rw [Lib.toList_data]]; exact he1
          cases he2 : nm.toList == [99, 111, 110, 116, 97, 105, 110, 101, 100, 95, 98, 121]
          · have e2 : seq nm s_contained_by = false := by rw [seq, show s_contained_by.toList = [99, 111, 110, 116, 97, 105, 110, 101, 100, 95, 98, 121] by rw [Lib.toList_data]]; exact he2
            cases he3 : nm.toList == [99, 111, 110, 116, 97, 105, 110, 105, 110, 103]
            · have e3 : seq nm s_containing = false := by rw [seq, show s_containing.toList = [99, 111, 110, 116, 97, 105, 110, 105, 110, 103] by rw [Lib.toList_data]]; exact he3
              cases he4 : nm.toList == [110, 111, 116, 95, 99, 111, 110, 116, 97, 105, 110, 101, 100, 95, 98, 121]
              · have e4 : seq nm s_not_contained_by = false := by rw [seq, show s_not_contained_by.toList = [110, 111, 116, 95, 99, 111, 110, 116, 97, 105, 110, 101, 100, 95, 98, 121] by rw [Lib.toList_data]]; exact he4
                cases he5 : nm.toList == [110, 111, 116, 95, 99, 111, 110, 116, 97, 105, 110, 105, 110, 103]
                · have e5 : seq nm s_not_containing = false := by rw [seq, show s_not_containing.toList = [110, 111, 116, 95, 99, 111, 110, 116, 97, 105, 110, 105, 110, 103] by rw [Lib.toList_data]]; exact he5
                  cases he6 : nm.toList == [110, 111, 116, 95, 111, 118, 101, 114, 108, 97, 112, 112, 105, 110, 103]
                  · have e6 : seq nm s_not_overlapping = false := by rw [seq, show s_not_overlapping.toList = [110, 111, 116, 95, 111, 118, 101, 114, 108, 97, 112, 112, 105, 110, 103] by rw [Lib.toList_data]]; exact he6
                    cases he7 : nm.toList == [111, 118, 101, 114, 108, 97, 112, 112, 105, 110, 103]
                    · have e7 : seq nm s_overlapping = false := by rw [seq, show s_overlapping.toList = [111, 118, 101, 114, 108, 97, 112, 112, 105, 110, 103] by rw [Lib.toList_data]]; exact he7
                      go_wp2_with go_in
                      go_roundw
                      case rel =>
                        repeat apply Exists.intro
                        refine And.intro ?_ rfl
                        exact ⟨hxt, by omega, j + 1, v0, v1, v2, v3, v4, v5, v6, v7, by omega, by go_num, hb2, by rw [lastJ HP.out, if_neg (by rw [e0]; decide)]; exact OptG.keep H0.out (fun _ h _ => h) hks hss, by rw [lastJ HP.out, if_neg (by rw [e1]; decide)]; exact OptG.keep H1.out (fun _ h _ => h) hks hss, by rw [lastJ HP.out, if_neg (by rw [e2]; decide)]; exact OptG.keep H2.out (fun _ h _ => h) hks hss, by rw [lastJ HP.out, if_neg (by rw [e3]; decide)]; exact OptG.keep H3.out (fun _ h _ => h) hks hss, by rw [lastJ HP.out, if_neg (by rw [e7]; decide)]; exact OptG.keep H4.out (fun _ h _ => h) hks hss, by rw [lastJ HP.out, if_neg (by rw [e4]; decide)]; exact OptG.keep H5.out (fun _ h _ => h) hks hss, by rw [lastJ HP.out, if_neg (by rw [e5]; decide)]; exact OptG.keep H6.out (fun _ h _ => h) hks hss, by rw [lastJ HP.out, if_neg (by rw [e6]; decide)]; exact OptG.keep H7.out (fun _ h _ => h) hks hss⟩
                      case measure => simp [intOf]; omega
                    · have e7 : seq nm s_overlapping = true := by rw [seq, show s_overlapping.toList = [111, 118, 101, 114, 108, 97, 112, 112, 105, 110, 103] by rw [Lib.toList_data]]; exact he7
                      obtain rfl : nm = s_overlapping := seq_iff.1 e7
                      go_wp2_with go_in
                      go_roundw
                      case rel =>
                        have hk3 : Keeps (fun q => w.heap.size < q) w2 (w2.setCell ⟨w.heap.size, 4, none⟩ (.iface qty qx)) := fun q hq _ => Below.heap_setCell _ _ _ _ (by simp <;> omega)
                        repeat apply Exists.intro
                        refine And.intro ?_ rfl
                        exact ⟨ext_set hxt (by simp) _, by simp; omega, j + 1, v0, v1, v2, v3, .iface qty qx, v5, v6, v7, by omega, by go_num, hb2.set 4 _, by rw [lastJ HP.out, if_neg (by rw [seq_false.2 (show s_overlapping ≠ s_after by decide)]; decide)]; exact OptG.keep (OptG.keep H0.out (fun _ h _ => h) hks hss) (fun _ h _ => h) hk3 (by simp), by rw [lastJ HP.out, if_neg (by rw [seq_false.2 (show s_overlapping ≠ s_before by decide)]; decide)]; exact OptG.keep (OptG.keep H1.out (fun _ h _ => h) hks hss) (fun _ h _ => h) hk3 (by simp), by rw [lastJ HP.out, if_neg (by rw [seq_false.2 (show s_overlapping ≠ s_contained_by by decide)]; decide)]; exact OptG.keep (OptG.keep H2.out (fun _ h _ => h) hks hss) (fun _ h _ => h) hk3 (by simp), by rw [lastJ HP.out, if_neg (by rw [seq_false.2 (show s_overlapping ≠ s_containing by decide)]; decide)]; exact OptG.keep (OptG.keep H3.out (fun _ h _ => h) hks hss) (fun _ h _ => h) hk3 (by simp), by rw [lastJ HP.out, if_pos (seq_self _)]; exact Gives.keep HG.out (fun _ h _ => h) hk3 (by simp), by rw [lastJ HP.out, if_neg (by rw [seq_false.2 (show s_overlapping ≠ s_not_contained_by by decide)]; decide)]; exact OptG.keep (OptG.keep H5.out (fun _ h _ => h) hks hss) (fun _ h _ => h) hk3 (by simp), by rw [lastJ HP.out, if_neg (by rw [seq_false.2 (show s_overlapping ≠ s_not_containing by decide)]; decide)]; exact OptG.keep (OptG.keep H6.out (fun _ h _ => h) hks hss) (fun _ h _ => h) hk3 (by simp), by rw [lastJ HP.out, if_neg (by rw [seq_false.2 (show s_overlapping ≠ s_not_overlapping by decide)]; decide)]; exact OptG.keep (OptG.keep H7.out (fun _ h _ => h) hks hss) (fun _ h _ => h) hk3 (by simp)⟩
                      case measure => simp [intOf]; omega
                  · have e6 : seq nm s_not_overlapping = true := by rw [seq, show s_not_overlapping.toList = [110, 111, 116, 95, 111, 118, 101, 114, 108, 97, 112, 112, 105, 110, 103] by rw [Lib.toList_data]]; exact he6
                    obtain rfl : nm = s_not_overlapping := seq_iff.1 e6
                    go_wp2_with go_in
                    go_roundw
                    case rel =>
                      have hk3 : Keeps (fun q => w.heap.size < q) w2 (w2.setCell ⟨w.heap.size, 7, none⟩ (.iface qty qx)) := fun q hq _ => Below.heap_setCell _ _ _ _ (by simp <;> omega)
                      repeat apply Exists.intro
                      refine And.intro ?_ rfl
                      exact ⟨ext_set hxt (by simp) _, by simp; omega, j + 1, v0, v1, v2, v3, v4, v5, v6, .iface qty qx, by omega, by go_num, hb2.set 7 _, by rw [lastJ HP.out, if_neg (by rw [seq_false.2 (show s_not_overlapping ≠ s_after by decide)]; decide)]; exact OptG.keep (OptG.keep H0.out (fun _ h _ => h) hks hss) (fun _ h _ => h) hk3 (by simp), by rw [lastJ HP.out, if_neg (by rw [seq_false.2 (show s_not_overlapping ≠ s_before by decide)]; decide)]; exact OptG.keep (OptG.keep H1.out (fun _ h _ => h) hks hss) (fun _ h _ => h) hk3 (by simp), by rw [lastJ HP.out, if_neg (by rw [seq_false.2 (show s_not_overlapping ≠ s_contained_by by decide)]; decide)]; exact OptG.keep (OptG.keep H2.out (fun _ h _ => h) hks hss) (fun _ h _ => h) hk3 (by simp), by rw [lastJ HP.out, if_neg (by rw [seq_false.2 (show s_not_overlapping ≠ s_containing by decide)]; decide)]; exact OptG.keep (OptG.keep H3.out (fun _ h _ => h) hks hss) (fun _ h _ => h) hk3 (by simp), by rw [lastJ HP.out, if_neg (by rw [seq_false.2 (show s_not_overlapping ≠ s_overlapping by decide)]; decide)]; exact OptG.keep (OptG.keep H4.out (fun _ h _ => h) hks hss) (fun _ h _ => h) hk3 (by simp), by rw [lastJ HP.out, if_neg (by rw [seq_false.2 (show s_not_overlapping ≠ s_not_contained_by by decide)]; decide)]; exact OptG.keep (OptG.keep H5.out (fun _ h _ => h) hks hss) (fun _ h _ => h) hk3 (by simp), by rw [lastJ HP.out, if_neg (by rw [seq_false.2 (show s_not_overlapping ≠ s_not_containing by decide)]; decide)]; exact OptG.keep (OptG.keep H6.out (fun _ h _ => h) hks hss) (fun _ h _ => h) hk3 (by simp), by rw [lastJ HP.out, if_pos (seq_self _)]; exact Gives.keep HG.out (fun _ h _ => h) hk3 (by simp)⟩
                    case measure => simp [intOf]; omega
                · have e5 : seq nm s_not_containing = true := by rw [seq, show s_not_containing.toList = [110, 111, 116, 95, 99, 111, 110, 116, 97, 105, 110, 105, 110, 103] by rw [Lib.toList_data]]; exact he5
                  obtain rfl : nm = s_not_containing := seq_iff.1 e5
                  go_wp2_with go_in
                  go_roundw
                  case rel =>
                    have hk3 : Keeps (fun q => w.heap.size < q) w2 (w2.setCell ⟨w.heap.size, 6, none⟩ (.iface qty qx)) := fun q hq _ => Below.heap_setCell _ _ _ _ (by simp <;> omega)
                    repeat apply Exists.intro
                    refine And.intro ?_ rfl
                    exact ⟨ext_set hxt (by simp) _, by simp; omega, j + 1, v0, v1, v2, v3, v4, v5, .iface qty qx, v7, by omega, by go_num, hb2.set 6 _, by rw [lastJ HP.out, if_neg (by rw [seq_false.2 (show s_not_containing ≠ s_after by decide)]; decide)]; exact OptG.keep (OptG.keep H0.out (fun _ h _ => h) hks hss) (fun _ h _ => h) hk3 (by simp), by rw [lastJ HP.out, if_neg (by rw [seq_false.2 (show s_not_containing ≠ s_before by decide)]; decide)]; exact OptG.keep (OptG.keep H1.out (fun _ h _ => h) hks hss) (fun _ h _ => h) hk3 (by simp), by rw [lastJ HP.out, if_neg (by rw [seq_false.2 (show s_not_containing ≠ s_contained_by by decide)]; decide)]; exact OptG.keep (OptG.keep H2.out (fun _ h _ => h) hks hss) (fun _ h _ => h) hk3 (by simp), by rw [lastJ HP.out, if_neg (by rw [seq_false.2 (show s_not_containing ≠ s_containing by decide)]; decide)]; exact OptG.keep (OptG.keep H3.out (fun _ h _ => h) hks hss) (fun _ h _ => h) hk3 (by simp), by rw [lastJ HP.out, if_neg (by rw [seq_false.2 (show s_not_containing ≠ s_overlapping by decide)]; decide)]; exact OptG.keep (OptG.keep H4.out (fun _ h _ => h) hks hss) (fun _ h _ => h) hk3 (by simp), by rw [lastJ HP.out, if_neg (by rw [seq_false.2 (show s_not_containing ≠ s_not_contained_by by decide)]; decide)]; exact OptG.keep (OptG.keep H5.out (fun _ h _ => h) hks hss) (fun _ h _ => h) hk3 (by simp), by rw [lastJ HP.out, if_pos (seq_self _)]; exact Gives.keep HG.out (fun _ h _ => h) hk3 (by simp), by rw [lastJ HP.out, if_neg (by rw [seq_false.2 (show s_not_containing ≠ s_not_overlapping by decide)]; decide)]; exact OptG.keep (OptG.keep H7.out (fun _ h _ => h) hks hss) (fun _ h _ => h) hk3 (by simp)⟩
                  case measure => simp [intOf]; omega
              · have e4 : seq nm s_not_contained_by = true := by rw [seq, show s_not_contained_by.toList = [110, 111, 116, 95, 99, 111, 110, 116, 97, 105, 110, 101, 100, 95, 98, 121] by rw [Lib.toList_data]]; exact he4
                obtain rfl : nm = s_not_contained_by := seq_iff.1 e4
                go_wp2_with go_in
                go_roundw
                case rel =>
                  have hk3 : Keeps (fun q => w.heap.size < q) w2 (w2.setCell ⟨w.heap.size, 5, none⟩ (.iface qty qx)) := fun q hq _ => Below.heap_setCell _ _ _ _ (by simp <;> omega)
                  repeat apply Exists.intro
                  refine And.intro ?_ rfl
                  exact ⟨ext_set hxt (by simp) _, by simp; omega, j + 1, v0, v1, v2, v3, v4, .iface qty qx, v6, v7, by omega, by go_num, hb2.set 5 _, by rw [lastJ HP.out, if_neg (by rw [seq_false.2 (show s_not_contained_by ≠ s_after by decide)]; decide)]; exact OptG.keep (OptG.keep H0.out (fun _ h _ => h) hks hss) (fun _ h _ => h) hk3 (by simp), by rw [lastJ HP.out, if_neg (by rw [seq_false.2 (show s_not_contained_by ≠ s_before by decide)]; decide)]; exact OptG.keep (OptG.keep H1.out (fun _ h _ => h) hks hss) (fun _ h _ => h) hk3 (by simp), by rw [lastJ HP.out, if_neg (by rw [seq_false.2 (show s_not_contained_by ≠ s_contained_by by decide)]; decide)]; exact OptG.keep (OptG.keep H2.out (fun _ h _ => h) hks hss) (fun _ h _ => h) hk3 (by simp), by rw [lastJ HP.out, if_neg (by rw [seq_false.2 (show s_not_contained_by ≠ s_containing by decide)]; decide)]; exact OptG.keep (OptG.keep H3.out (fun _ h _ => h) hks hss) (fun _ h _ => h) hk3 (by simp), by rw [lastJ HP.out, if_neg (by rw [seq_false.2 (show s_not_contained_by ≠ s_overlapping by decide)]; decide)]; exact OptG.keep (OptG.keep H4.out (fun _ h _ => h) hks hss) (fun _ h _ => h) hk3 (by simp), by rw [lastJ HP.out, if_pos (seq_self _)]; exact Gives.keep HG.out (fun _ h _ => h) hk3 (by simp), by rw [lastJ HP.out, if_neg (by rw [seq_false.2 (show s_not_contained_by ≠ s_not_containing by decide)]; decide)]; exact OptG.keep (OptG.keep H6.out (fun _ h _ => h) hks hss) (fun _ h _ => h) hk3 (by simp), by rw [lastJ HP.out, if_neg (by rw [seq_false.2 (show s_not_contained_by ≠ s_not_overlapping by decide)]; decide)]; exact OptG.keep (OptG.keep H7.out (fun _ h _ => h) hks hss) (fun _ h _ => h) hk3 (by simp)⟩
                case measure => simp [intOf]; omega
            · have e3 : seq nm s_containing = true := by rw [seq, show s_containing.toList = [99, 111, 110, 116, 97, 105, 110, 105, 110, 103] by rw [Lib.toList_data]]; exact he3
              obtain rfl : nm = s_containing := seq_iff.1 e3
              go_wp2_with go_in
              go_roundw
              case rel =>
                have hk3 : Keeps (fun q => w.heap.size < q) w2 (w2.setCell ⟨w.heap.size, 3, none⟩ (.iface qty qx)) := fun q hq _ => Below.heap_setCell _ _ _ _ (by simp <;> omega)
                repeat apply Exists.intro
                refine And.intro ?_ rfl
                exact ⟨ext_set hxt (by simp) _, by simp; omega, j + 1, v0, v1, v2, .iface qty qx, v4, v5, v6, v7, by omega, by go_num, hb2.set 3 _, by rw [lastJ HP.out, if_neg (by rw [seq_false.2 (show s_containing ≠ s_after by decide)]; decide)]; exact OptG.keep (OptG.keep H0.out (fun _ h _ => h) hks hss) (fun _ h _ => h) hk3 (by simp), by rw [lastJ HP.out, if_neg (by rw [seq_false.2 (show s_containing ≠ s_before by decide)]; decide)]; exact OptG.keep (OptG.keep H1.out (fun _ h _ => h) hks hss) (fun _ h _ => h) hk3 (by simp), by rw [lastJ HP.out, if_neg (by rw [seq_false.2 (show s_containing ≠ s_contained_by by decide)]; decide)]; exact OptG.keep (OptG.keep H2.out (fun _ h _ => h) hks hss) (fun _ h _ => h) hk3 (by simp), by rw [lastJ HP.out, if_pos (seq_self _)]; exact Gives.keep HG.out (fun _ h _ => h) hk3 (by simp), by rw [lastJ HP.out, if_neg (by rw [seq_false.2 (show s_containing ≠ s_overlapping by decide)]; decide)]; exact OptG.keep (OptG.keep H4.out (fun _ h _ => h) hks hss) (fun _ h _ => h) hk3 (by simp), by rw [lastJ HP.out, if_neg (by rw [seq_false.2 (show s_containing ≠ s_not_contained_by by decide)]; decide)]; exact OptG.keep (OptG.keep H5.out (fun _ h _ => h) hks hss) (fun _ h _ => h) hk3 (by simp), by rw [lastJ HP.out, if_neg (by rw [seq_false.2 (show s_containing ≠ s_not_containing by decide)]; decide)]; exact OptG.keep (OptG.keep H6.out (fun _ h _ => h) hks hss) (fun _ h _ => h) hk3 (by simp), by rw [lastJ HP.out, if_neg (by rw [seq_false.2 (show s_containing ≠ s_not_overlapping by decide)]; decide)]; exact OptG.keep (OptG.keep H7.out (fun _ h _ => h) hks hss) (fun _ h _ => h) hk3 (by simp)⟩
              case measure => simp [intOf]; omega
          · have e2 : seq nm s_contained_by = true := by rw [seq, show s_contained_by.toList = [99, 111, 110, 116, 97, 105, 110, 101, 100, 95, 98, 121] by rw [Lib.toList_data]]; exact he2
            obtain rfl : nm = s_contained_by := seq_iff.1 e2
            go_wp2_with go_in
            go_roundw
            case rel =>
              have hk3 : Keeps (fun q => w.heap.size < q) w2 (w2.setCell ⟨w.heap.size, 2, none⟩ (.iface qty qx)) := fun q hq _ => Below.heap_setCell _ _ _ _ (by simp <;> omega)
              repeat apply Exists.intro
              refine And.intro ?_ rfl
              exact ⟨ext_set hxt (by simp) _, by simp; omega, j + 1, v0, v1, .iface qty qx, v3, v4, v5, v6, v7, by omega, by go_num, hb2.set 2 _, by rw [lastJ HP.out, if_neg (by rw [seq_false.2 (show s_contained_by ≠ s_after by decide)]; decide)]; exact OptG.keep (OptG.keep H0.out (fun _ h _ => h) hks hss) (fun _ h _ => h) hk3 (by simp), by rw [lastJ HP.out, if_neg (by rw [seq_false.2 (show s_contained_by ≠ s_before by decide)]; decide)]; exact OptG.keep (OptG.keep H1.out (fun _ h _ => h) hks hss) (fun _ h _ => h) hk3 (by simp), by rw [lastJ HP.out, if_pos (seq_self _)]; exact Gives.keep HG.out (fun _ h _ => h) hk3 (by simp), by rw [lastJ HP.out, if_neg (by rw [seq_false.2 (show s_contained_by ≠ s_containing by decide)]; decide)]; exact OptG.keep (OptG.keep H3.out (fun _ h _ => h) hks hss) (fun _ h _ => h) hk3 (by simp), by rw [lastJ HP.out, if_neg (by rw [seq_false.2 (show s_contained_by ≠ s_overlapping by decide)]; decide)]; exact OptG.keep (OptG.keep H4.out (fun _ h _ => h) hks hss) (fun _ h _ => h) hk3 (by simp), by rw [lastJ HP.out, if_neg (by rw [seq_false.2 (show s_contained_by ≠ s_not_contained_by by decide)]; decide)]; exact OptG.keep (OptG.keep H5.out (fun _ h _ => h) hks hss) (fun _ h _ => h) hk3 (by simp), by rw [lastJ HP.out, if_neg (by rw [seq_false.2 (show s_contained_by ≠ s_not_containing by decide)]; decide)]; exact OptG.keep (OptG.keep H6.out (fun _ h _ => h) hks hss) (fun _ h _ => h) hk3 (by simp), by rw [lastJ HP.out, if_neg (by rw [seq_false.2 (show s_contained_by ≠ s_not_overlapping by decide)]; decide)]; exact OptG.keep (OptG.keep H7.out (fun _ h _ => h) hks hss) (fun _ h _ => h) hk3 (by simp)⟩
            case measure => simp [intOf]; omega
        · have e1 : seq nm s_before = true := by rw [seq, show s_before.toList = [98, 101, 102, 111, 114, 101] by rw [Lib.toList_data]]; exact he1
          obtain rfl : nm = s_before := seq_iff.1 e1
          go_wp2_with go_in
          go_roundw
          case rel =>
            have hk3 : Keeps (fun q => w.heap.size < q) w2 (w2.setCell ⟨w.heap.size, 1, none⟩ (.iface qty qx)) := fun q hq _ => Below.heap_setCell _ _ _ _ (by simp <;> omega)
            repeat apply Exists.intro
            refine And.intro ?_ rfl
            exact ⟨ext_set hxt (by simp) _, by simp; omega, j + 1, v0, .iface qty qx, v2, v3, v4, v5, v6, v7, by omega, by go_num, hb2.set 1 _, by rw [lastJ HP.out, if_neg (by rw [seq_false.2 (show s_before ≠ s_after by decide)]; decide)]; exact OptG.keep (OptG.keep H0.out (fun _ h _ => h) hks hss) (fun _ h _ => h) hk3 (by simp), by rw [lastJ HP.out, if_pos (seq_self _)]; exact Gives.keep HG.out (fun _ h _ => h) hk3 (by simp), by rw [lastJ HP.out, if_neg (by rw [seq_false.2 (show s_before ≠ s_contained_by by decide)]; decide)]; exact OptG.keep (OptG.keep H2.out (fun _ h _ => h) hks hss) (fun _ h _ => h) hk3 (by simp), by rw [lastJ HP.out, if_neg (by rw [seq_false.2 (show s_before ≠ s_containing by decide)]; decide)]; exact OptG.keep (OptG.keep H3.out (fun _ h _ => h) hks hss) (fun _ h _ => h) hk3 (by simp), by rw [lastJ HP.out, if_neg (by rw [seq_false.2 (show s_before ≠ s_overlapping by decide)]; decide)]; exact OptG.keep (OptG.keep H4.out (fun _ h _ => h) hks hss) (fun _ h _ => h) hk3 (by simp), by rw [lastJ HP.out, if_neg (by rw [seq_false.2 (show s_before ≠ s_not_contained_by by decide)]; decide)]; exact OptG.keep (OptG.keep H5.out (fun _ h _ => h) hks hss) (fun _ h _ => h) hk3 (by simp), by rw [lastJ HP.out, if_neg (by rw [seq_false.2 (show s_before ≠ s_not_containing by decide)]; decide)]; exact OptG.keep (OptG.keep H6.out (fun _ h _ => h) hks hss) (fun _ h _ => h) hk3 (by simp), by rw [lastJ HP.out, if_neg (by rw [seq_false.2 (show s_before ≠ s_not_overlapping by decide)]; decide)]; exact OptG.keep (OptG.keep H7.out (fun _ h _ => h) hks hss) (fun _ h _ => h) hk3 (by simp)⟩
          case measure => simp [intOf]; omega
      · have e0 : seq nm s_after = true := by rw [seq, show s_after.toList = [97, 102, 116, 101, 114] by rw [Lib.toList_data]]; exact he0
        obtain rfl : nm = s_after := seq_iff.1 e0
        go_wp2_with go_in
        go_roundw
        case rel =>
          have hk3 : Keeps (fun q => w.heap.size < q) w2 (w2.setCell ⟨w.heap.size, 0, none⟩ (.iface qty qx)) := fun q hq _ => Below.heap_setCell _ _ _ _ (by simp <;> omega)
          repeat apply Exists.intro
          refine And.intro ?_ rfl
          exact ⟨ext_set hxt (by simp) _, by simp; omega, j + 1, .iface qty qx, v1, v2, v3, v4, v5, v6, v7, by omega, by go_num, hb2.set 0 _, by rw [lastJ HP.out, if_pos (seq_self _)]; exact Gives.keep HG.out (fun _ h _ => h) hk3 (by simp), by rw [lastJ HP.out, if_neg (by rw [seq_false.2 (show s_after ≠ s_before by decide)]; decide)]; exact OptG.keep (OptG.keep H1.out (fun _ h _ => h) hks hss) (fun _ h _ => h) hk3 (by simp), by rw [lastJ HP.out, if_neg (by rw [seq_false.2 (show s_after ≠ s_contained_by by decide)]; decide)]; exact OptG.keep (OptG.keep H2.out (fun _ h _ => h) hks hss) (fun _ h _ => h) hk3 (by simp), by rw [lastJ HP.out, if_neg (by rw [seq_false.2 (show s_after ≠ s_containing by decide)]; decide)]; exact OptG.keep (OptG.keep H3.out (fun _ h _ => h) hks hss) (fun _ h _ => h) hk3 (by simp), by rw [lastJ HP.out, if_neg (by rw [seq_false.2 (show s_after ≠ s_overlapping by decide)]; decide)]; exact OptG.keep (OptG.keep H4.out (fun _ h _ => h) hks hss) (fun _ h _ => h) hk3 (by simp), by rw [lastJ HP.out, if_neg (by rw [seq_false.2 (show s_after ≠ s_not_contained_by by decide)]; decide)]; exact OptG.keep (OptG.keep H5.out (fun _ h _ => h) hks hss) (fun _ h _ => h) hk3 (by simp), by rw [lastJ HP.out, if_neg (by rw [seq_false.2 (show s_after ≠ s_not_containing by decide)]; decide)]; exact OptG.keep (OptG.keep H6.out (fun _ h _ => h) hks hss) (fun _ h _ => h) hk3 (by simp), by rw [lastJ HP.out, if_neg (by rw [seq_false.2 (show s_after ≠ s_not_overlapping by decide)]; decide)]; exact OptG.keep (OptG.keep H7.out (fun _ h _ => h) hks hss) (fun _ h _ => h) hk3 (by simp)⟩
        case measure => simp [intOf]; omega
    · have hfull : (ns.zip (jRules rs)).take j = ns.zip (jRules rs) := List.take_of_length_le (by have := HZ.out; omega)
      rw [hfull] at H0 H1 H2 H3 H4 H5 H6 H7
      go_wp2_with fail
      go_ret
      refine ⟨w.heap.size, rfl, ⟨w.heap.size, rfl, fun w' k hs => ?_⟩, hx⟩
      have hbq' : Box w' w.heap.size #[v0, v1, v2, v3, v4, v5, v6, v7, .pointer none] 160 := (k _ (Nat.le_refl _) hbq.lt).trans hbq
      refine (rFil_src (S := fun q => w.heap.size < q) w' w.heap.size v0 _ (OptG.keep H0.out (fun _ h _ => h) (fun q hq hl => k q (Nat.le_of_lt hq) hl) hs) v1 _ (OptG.keep H1.out (fun _ h _ => h) (fun q hq hl => k q (Nat.le_of_lt hq) hl) hs) v2 _ (OptG.keep H2.out (fun _ h _ => h) (fun q hq hl => k q (Nat.le_of_lt hq) hl) hs) v3 _ (OptG.keep H3.out (fun _ h _ => h) (fun q hq hl => k q (Nat.le_of_lt hq) hl) hs) v4 _ (OptG.keep H4.out (fun _ h _ => h) (fun q hq hl => k q (Nat.le_of_lt hq) hl) hs) v5 _ (OptG.keep H5.out (fun _ h _ => h) (fun q hq hl => k q (Nat.le_of_lt hq) hl) hs) v6 _ (OptG.keep H6.out (fun _ h _ => h) (fun q hq hl => k q (Nat.le_of_lt hq) hl) hs) v7 _ (OptG.keep H7.out (fun _ h _ => h) (fun q hq hl => k q (Nat.le_of_lt hq) hl) hs) hbq').mono ?_
      rintro r w'' ⟨v, rfl, hJ, hx'⟩
      rw [← jFilter_eq] at hJ
      obtain ⟨vx, rfl⟩ := jMap_iface hJ
      exact ⟨_, _, rfl, hJ, hx'⟩
end Go.Proofs.YtdjojnlejkljdaaGreat

