/-
  A span_near query has its clauses in order, and its settings: the statement FnSpanNear where what comes in is of bulk at most 1048576.
-/
import Derived.Test.YtpkkdmopcfcnkaaNm2
import Derived.Test.YtpkkdmopcfcnkaaQs
import Derived.Test.YtpkkdmopcfcnkaaQd
import Derived.Test.YtpkkdmopcfcnkaaLq
import Derived.Test.YtpkkdmopcfcnkaaZz
import Derived.Test.YtpkkdmopcfcnkaaRows
import Derived.Test.YtpkkdmopcfcnkaaOb
namespace Go.Proofs.Ytpkkdmopcfcnkaa
open Go.RowKit

set_option maxRecDepth 20000 in
set_option maxHeartbeats 4000000 in
theorem spanNear_src {S : Nat → Prop} (w : World) (bq : Nat) (ua : Option Addr) (un uc : Nat) (u : List J) (hu : QsAt S w ua un uc u) (hup : 0 < un) (hub : un ≤ 2147483647) (v1 : Option Addr) (o1 : Option T) (h1 : FW S w v1 o1) (v2 : Option Addr) (o2 : Option T) (h2 : FY S w v2 o2) (v3 : Option Addr) (o3 : Option T) (h3 : FN S w v3 o3) (v4 : ByteArray) (o4 : Option T) (h4 : v4 = fT o4) (hbq : Box w bq #[.slice ua un uc, .pointer v1, .pointer v2, .pointer v3, .string v4] 179) :
    Calls Try.prog 98 #[.pointer (some ⟨bq, 0, none⟩)] w fun r w' => ∃ v, r = .returned (.tuple #[v, .nilIface]) ∧ JAt (fun _ => True) w' v (jMap [(s_span_near, jMap ([(s_clauses, J.list u)] ++ jW s_slop (o1) ++ jY s_in_order (o2) ++ jN s_boost (o3) ++ jT s_query_name (o4)))]) ∧ Ext w w' := by
  have tok0 := trivial
  have hblt := hbq.lt
  have H1 := Lib.hid h1
  have H2 := Lib.hid h2
  have H3 := Lib.hid h3
  have H4 := Lib.hid h4
  clear h1 h2 h3 h4
  have Hu := Lib.hid hu
  clear hu
  have hc0 := ((hbq.alloc (.map #[] 0)).alloc (.map #[] 0)).cell 0 _ rfl
  have hc1 := ((hbq.alloc (.map #[] 0)).alloc (.map #[] 0)).cell 1 _ rfl
  have hc2 := ((hbq.alloc (.map #[] 0)).alloc (.map #[] 0)).cell 2 _ rfl
  have hc3 := ((hbq.alloc (.map #[] 0)).alloc (.map #[] 0)).cell 3 _ rfl
  have hc4 := ((hbq.alloc (.map #[] 0)).alloc (.map #[] 0)).cell 4 _ rfl
  go_enter Try.func98, Try.ntmps98
  go_wp2_with fail
  obtain ⟨qvs, hvl, hvc, hvm, hvcell, hvG⟩ := Hu.out.ext (show Ext w ((w.alloc (.map #[] 0)).alloc (.map #[] 0)) from ext_alloc (ext_alloc (ext_refl _) _) _)
  have HVL := Lib.hid hvl
  have HVC := Lib.hid hvcell
  have HVG := Lib.hid hvG
  clear hvl hvcell hvG
  go_loopw [6, 28] (fun v i wr => Ext ((w.alloc (.map #[] 0)).alloc (.map #[] 0)) wr ∧ ∃ (j : Nat) (us : List Value) (vv : Value), vv = v ∧ j ≤ un ∧ i = .int .i64 j ∧ us.length = j ∧ OwnAny wr ((w.alloc (.map #[] 0)).alloc (.map #[] 0)).heap.size vv us ∧ (∀ x ∈ us, x.oneCell' = true) ∧ JsAt (fun b => ((w.alloc (.map #[] 0)).alloc (.map #[] 0)).heap.size ≤ b ∧ vv.ownBlock ≠ some b) wr us (u.take j)) (fun _ i _ => un - (intOf i).toNat)
  case atStart => exact ⟨ext_refl _, 0, [], _, rfl, Nat.zero_le _, rfl, rfl, ⟨rfl, .inl ⟨rfl, rfl⟩⟩, fun x hx => by simp at hx, by simp [JsAt]⟩
  case round =>
    obtain ⟨hxr, j, us, vv, hve, hj, rfl, hul, hO, h1, hV⟩ := hrel
    subst hve
    have HO := Lib.hid hO
    have HV := Lib.hid hV
    have HUL := Lib.hid hul
    have H1 := Lib.hid h1
    clear hO hV hul h1
    by_cases hlt : j < un
    case pos =>
      obtain ⟨qq, hqq⟩ := some_of_lt HVL.out hlt
      obtain ⟨jj, hjj⟩ := some_of_lt (l := u) rfl (show j < u.length by have h2 := HVG.out.1; have h3 := HVL.out; omega)
      obtain ⟨qb, qo, hqa, -, hqc⟩ := HVC.out j qq hqq
      have hqc := hxr.cell hqc
      obtain ⟨qty, qx, qf, hqe, hqm, hqm2, hqC⟩ := (HVG.out.2 j qq jj hqq hjj).ext hxr
      have HT := Lib.hid hjj
      have HQC := Lib.hid hqC
      clear hqC hjj hqq
      subst hqe hqa
      have hszr := hxr.sz
      have tokB := trivial
      go_wp2_with (first
        | ((with_reducible show Calls _ qf _ _ _); refine (HQC.out _ (Ext.keeps (by (repeat (first | exact ext_refl _ | assumption | refine ext_alloc ?_ _ | refine ext_drew ?_ | refine ext_set ?_ (by simp) _ | refine ext_trans ?_ (by assumption)))) _) (Ext.sz (by (repeat (first | exact ext_refl _ | assumption | refine ext_alloc ?_ _ | refine ext_drew ?_ | refine ext_set ?_ (by simp) _ | refine ext_trans ?_ (by assumption)))))).mono ?_; rintro r w2 ⟨pty, px, rfl, hJ, hx2⟩
           have hx3 : Ext wr w2 := ext_trans (by (repeat (first | exact ext_refl _ | assumption | refine ext_alloc ?_ _ | refine ext_drew ?_ | refine ext_set ?_ (by simp) _ | refine ext_trans ?_ (by assumption)))) hx2
           have hJ := hJ.to (S' := fun b => wr.heap.size ≤ b) (fun b hb _ => by (try simp at hb); omega)
           have hxn : Ext w2 (w2.alloc (.cells #[.iface pty px] 20)) := ext_alloc (ext_refl _) _
           have hbn : Box (w2.alloc (.cells #[.iface pty px] 20)) w2.heap.size #[.iface pty px] 20 := Box.at rfl _ _
           have HJ := Lib.hid (hJ.ext hxn)
           clear hJ)
        | (at_builtin; have _t := tokB; clear _t tokB; refine list_append_any _ rfl _ _ rfl ((w.alloc (.map #[] 0)).alloc (.map #[] 0)).heap.size vv us rfl (HO.out.ext (ext_trans hx3 hxn)) w2.heap.size 0 1 [.iface pty px] (by simp) (fun u hu => by simp at hu; subst hu; rfl) rfl (fun i f hf => by
             cases i with
             | zero => simp at hf; subst hf; exact hbn.cell 0 _ rfl
             | succ i => simp at hf) (by have := HUL.out; simp; omega) (by have := (ext_trans hx3 hxn).sz; omega) ?_; intro g cap w4 hown hgrow hlies hglt)
        | fail)
      have hszn := (ext_trans hx3 hxn).sz
      have hblk : ∀ k, vv.ownBlock = some k → ((w.alloc (.map #[] 0)).alloc (.map #[] 0)).heap.size ≤ k ∧ k < wr.heap.size := fun k hk => World.ownsRow.lt HO.out k hk
      have hx5 : Ext ((w.alloc (.map #[] 0)).alloc (.map #[] 0)) w4 := ext_grown (ext_trans hxr (ext_trans hx3 hxn)) hgrow (fun k hk => (hblk k hk).1)
      have hne : ∀ b, (((w.alloc (.map #[] 0)).alloc (.map #[] 0)).heap.size ≤ b ∧ vv.ownBlock ≠ some b) → b < (w2.alloc (.cells #[.iface pty px] 20)).heap.size → ((w.alloc (.map #[] 0)).alloc (.map #[] 0)).heap.size ≤ b ∧ (Value.slice (some ⟨g, 0, none⟩) (us.length + 1) cap).ownBlock ≠ some b := fun b hb hl => ⟨hb.1, fun e => by
        simp only [Value.ownBlock, Option.some.injEq] at e
        subst e
        rcases hlies with hl2 | hl2
        · exact hb.2 hl2
        · omega⟩
      have hkp : Keeps (fun b => ((w.alloc (.map #[] 0)).alloc (.map #[] 0)).heap.size ≤ b ∧ vv.ownBlock ≠ some b) (w2.alloc (.cells #[.iface pty px] 20)) w4 := keeps_grown hgrow (fun b hb e => hb.2 e.symm)
      have hV5 := Lib.hid (JsAt.snoc (JsAt.keep hne hkp _ (HV.out.ext (ext_trans hx3 hxn))) (JAt.keep hne hkp _ (HJ.out.to (S' := fun b => ((w.alloc (.map #[] 0)).alloc (.map #[] 0)).heap.size ≤ b ∧ vv.ownBlock ≠ some b) (fun b hb _ => ⟨by omega, fun e => by have := (hblk b e).2; omega⟩))))
      have hown2 := Lib.hid hown
      clear hown hgrow hlies hne hkp hblk
      go_roundw
      case rel =>
        refine ⟨hx5, j + 1, us ++ [.iface pty px], _, rfl, by omega, by go_num, by simp [HUL.out], by simpa using hown2.out, ?_, ?_⟩
        · intro x hx
          rcases List.mem_append.1 hx with hx | hx
          · exact H1.out x hx
          · simp at hx; subst hx; rfl
        · rw [take_snoc HT.out]
          exact hV5.out
      case measure => simp [intOf]; omega
    have hfull : u.take j = u := List.take_of_length_le (by have h2 := HVG.out.1; have h3 := HVL.out; omega)
    have hulen : u.length = us.length := by have h2 := HVG.out.1; have h3 := HVL.out; have h4 := HUL.out; omega
    have hV := HV.out
    rw [hfull] at hV
    obtain ⟨la, lc, rfl, hq1, hq2, hq3⟩ := HO.out.cells (S := fun b => ((w.alloc (.map #[] 0)).alloc (.map #[] 0)).heap.size ≤ b) (fun b hb => (World.ownsRow.lt HO.out b hb).1)
    have hJl : JAt (fun b => ((w.alloc (.map #[] 0)).alloc (.map #[] 0)).heap.size ≤ b) wr (.iface 133 (.slice la us.length lc)) (.list u) := by
      simp only [JAt]
      exact ⟨_, _, _, us, rfl, by have := HUL.out; omega, hulen, hq1, hq2, hq3, JsAt.keep (fun b hb _ => hb.1) (fun _ _ _ => rfl) _ hV⟩
    clear hq3 hV HO HV H1
    have hxu : Ext w wr := ext_trans (ext_alloc (ext_alloc (ext_refl _) _) _) hxr
    have hl0_u : MapAt wr w.heap.size [] := MapAt.ext ((MapAt.at (by simp)).alloc _) hxr
    have hs0_u := hl0_u.lt
    have hl1_u : MapAt wr (w.heap.size + 1) [] := MapAt.ext (MapAt.at (by simp)) hxr
    have hs1_u := hl1_u.lt
    have HJu := Lib.hid (hJl.to (S' := (fun b => b ≠ w.heap.size ∧ b ≠ w.heap.size + 1)) (fun b hb _ => by (try simp at hb); omega))
    have hbu := hbq.ext hxu
    have hc0 := hbu.cell 0 _ rfl
    have hc1 := hbu.cell 1 _ rfl
    have hc2 := hbu.cell 2 _ rfl
    have hc3 := hbu.cell 3 _ rfl
    have hc4 := hbu.cell 4 _ rfl
    clear hJl hxr
    go_upto_if 53 with (first
      | (at_mapUpdate; have _t := tok0; refine wp_put _ rfl _ _ _ 162 rfl 20 Try.underlying162 (w.heap.size + 1) [] rfl (hl1_u) (by simp [maxLen]) s_clauses rfl (by decide) _ rfl ?_; intro w1 hm hg; clear tok0
         have hx1 : Ext w w1 := ext_put (hxu) hg (by omega)
         have hl0_1 : MapAt w1 w.heap.size [] := (hl0_u).grown hg (someNe (by omega))
         have hs0_1 := hl0_1.lt
         have hl1_1 := hm
         have hs1_1 := hl1_1.lt
         have HJu := Lib.hid (JAt.keep (S' := (fun b => b ≠ w.heap.size ∧ b ≠ w.heap.size + 1)) (fun _ h _ => h) (keeps_grown hg (fun b hb e => by simp only [Option.some.injEq] at e; omega)) _ HJu.out)
         have hb1 := hbq.ext hx1
         have hc0 := hb1.cell 0 _ rfl
         have hc1 := hb1.cell 1 _ rfl
         have hc2 := hb1.cell 2 _ rfl
         have hc3 := hb1.cell 3 _ rfl
         have hc4 := hb1.cell 4 _ rfl
         clear hg hm)
      | fail)
    have hx0 : Ext w w1 := hx1
    have hm0 : MapAt w1 w.heap.size [] := hl0_1
    have hm1 : MapAt w1 (w.heap.size + 1) [(s_clauses, .iface 133 (.slice la us.length lc))] := hl1_1
    have hz0 := hm0.lt
    have hz1 := hm1.lt
    have hne0 : w.heap.size ≠ (w.heap.size + 1) := by omega
    have hw1 : w.heap.size ≤ (w.heap.size + 1) := by have := hx0.sz; omega
    have hp0 : PJ (fun b => b ≠ w.heap.size ∧ b ≠ w.heap.size + 1) w1 [(s_clauses, .iface 133 (.slice la us.length lc))] ([(s_clauses, J.list u)]) := ⟨rfl, by simp only [List.map_cons, List.map_nil, JsAt]; exact ⟨HJu.out, trivial⟩⟩
    go_cut [] (fun wc => Ext w wc ∧ MapAt wc w.heap.size [] ∧ ∃ rp, rp.length ≤ 2 ∧ MapAt wc (w.heap.size + 1) rp ∧ PJ (fun b => b ≠ w.heap.size ∧ b ≠ w.heap.size + 1) wc rp ([(s_clauses, J.list u)] ++ jW s_slop (o1)))
    case first =>
      cases o1 with
      | none =>
        have hv : v1 = none := H1.out
        subst hv
        go_wp2_with fail
        go_meet
        case rel =>
          refine ⟨hx0, hm0, [(s_clauses, .iface 133 (.slice la us.length lc))], by simp, hm1, ?_⟩
          rw [show jW s_slop none = [] from rfl, List.append_nil]
          exact hp0
      | some t1 =>
        obtain ⟨cc, z1, hv, hSc, hcc, hzz⟩ := H1.out
        subst hv
        have hcc := hx0.cell hcc
        go_wp2_with (at_mapUpdate; refine wp_put _ rfl _ _ _ 162 rfl 20 Try.underlying162 (w.heap.size + 1) [(s_clauses, .iface 133 (.slice la us.length lc))] rfl hm1 (by simp [maxLen]) s_slop rfl (by decide) _ rfl ?_; intro wn hnn hgn)
        go_meet
        case rel =>
          have hxn := ext_put hx0 hgn (by omega)
          refine ⟨hxn, hm0.grown hgn (someNe hne0), _, ?_, hnn, ?_⟩
          · rw [List.length_append]; exact Nat.succ_le_succ (by simp)
          · rw [show jW s_slop (some t1) = [(s_slop, .int z1)] from jW_some hzz]
            exact PJ.snoc (hp0.keep (fun _ h _ => h) (keeps_grown hgn (fun b hb e => by simp only [Option.some.injEq] at e; omega))) (by simp only [JAt]; rfl)
    case rest =>
      obtain ⟨hxc, hm0_0, rp, hr, hnc, hpc⟩ := hcut
      have hbc := hbq.ext hxc
      have hc0 := hbc.cell 0 _ rfl
      have hc1 := hbc.cell 1 _ rfl
      have hc2 := hbc.cell 2 _ rfl
      have hc3 := hbc.cell 3 _ rfl
      have hc4 := hbc.cell 4 _ rfl
      go_upto_if 64 with fail
      go_cut [] (fun wc => Ext w wc ∧ MapAt wc w.heap.size [] ∧ ∃ rp, rp.length ≤ 3 ∧ MapAt wc (w.heap.size + 1) rp ∧ PJ (fun b => b ≠ w.heap.size ∧ b ≠ w.heap.size + 1) wc rp ([(s_clauses, J.list u)] ++ jW s_slop (o1) ++ jY s_in_order (o2)))
      case first =>
        cases o2 with
        | none =>
          have hv : v2 = none := H2.out
          subst hv
          go_wp2_with fail
          go_meet
          case rel =>
            refine ⟨hxc, hm0_0, rp, Nat.le_succ_of_le hr, hnc, ?_⟩
            rw [show jY s_in_order none = [] from rfl, List.append_nil]
            exact hpc
        | some t2 =>
          obtain ⟨cc, hv, hSc, hcc⟩ := H2.out
          subst hv
          have hcc := hxc.cell hcc
          go_wp2_with (at_mapUpdate; refine wp_put _ rfl _ _ _ 162 rfl 20 Try.underlying162 (w.heap.size + 1) rp rfl hnc (Nat.lt_of_le_of_lt hr (by decide)) s_in_order rfl (by decide) _ rfl ?_; intro wn hnn hgn)
          go_meet
          case rel =>
            have hxn := ext_put hxc hgn (by omega)
            refine ⟨hxn, hm0_0.grown hgn (someNe hne0), _, ?_, hnn, ?_⟩
            · rw [List.length_append]; exact Nat.succ_le_succ (by exact hr)
            · rw [show jY s_in_order (some t2) = [(s_in_order, .yes t2.yes)] from rfl]
              exact PJ.snoc (hpc.keep (fun _ h _ => h) (keeps_grown hgn (fun b hb e => by simp only [Option.some.injEq] at e; omega))) (by simp only [JAt]; rfl)
      case rest =>
        obtain ⟨hxc, hm0_1, rp, hr, hnc, hpc⟩ := hcut
        have hbc := hbq.ext hxc
        have hc0 := hbc.cell 0 _ rfl
        have hc1 := hbc.cell 1 _ rfl
        have hc2 := hbc.cell 2 _ rfl
        have hc3 := hbc.cell 3 _ rfl
        have hc4 := hbc.cell 4 _ rfl
        go_upto_if 75 with fail
        go_cut [] (fun wc => Ext w wc ∧ MapAt wc w.heap.size [] ∧ ∃ rp, rp.length ≤ 4 ∧ MapAt wc (w.heap.size + 1) rp ∧ PJ (fun b => b ≠ w.heap.size ∧ b ≠ w.heap.size + 1) wc rp ([(s_clauses, J.list u)] ++ jW s_slop (o1) ++ jY s_in_order (o2) ++ jN s_boost (o3)))
        case first =>
          cases o3 with
          | none =>
            have hv : v3 = none := H3.out
            subst hv
            go_wp2_with fail
            go_meet
            case rel =>
              refine ⟨hxc, hm0_1, rp, Nat.le_succ_of_le hr, hnc, ?_⟩
              rw [show jN s_boost none = [] from rfl, List.append_nil]
              exact hpc
          | some t3 =>
            obtain ⟨cc, hv, hSc, hcc⟩ := H3.out
            subst hv
            have hcc := hxc.cell hcc
            go_wp2_with (at_mapUpdate; refine wp_put _ rfl _ _ _ 162 rfl 20 Try.underlying162 (w.heap.size + 1) rp rfl hnc (Nat.lt_of_le_of_lt hr (by decide)) s_boost rfl (by decide) _ rfl ?_; intro wn hnn hgn)
            go_meet
            case rel =>
              have hxn := ext_put hxc hgn (by omega)
              refine ⟨hxn, hm0_1.grown hgn (someNe hne0), _, ?_, hnn, ?_⟩
              · rw [List.length_append]; exact Nat.succ_le_succ (by exact hr)
              · rw [show jN s_boost (some t3) = [(s_boost, .num t3.num)] from rfl]
                exact PJ.snoc (hpc.keep (fun _ h _ => h) (keeps_grown hgn (fun b hb e => by simp only [Option.some.injEq] at e; omega))) (by simp only [JAt]; rfl)
        case rest =>
          obtain ⟨hxc, hm0_2, rp, hr, hnc, hpc⟩ := hcut
          have hbc := hbq.ext hxc
          have hc0 := hbc.cell 0 _ rfl
          have hc1 := hbc.cell 1 _ rfl
          have hc2 := hbc.cell 2 _ rfl
          have hc3 := hbc.cell 3 _ rfl
          have hc4 := hbc.cell 4 _ rfl
          go_upto_if 86 with fail
          go_cut [] (fun wc => Ext w wc ∧ MapAt wc w.heap.size [] ∧ ∃ rp, rp.length ≤ 5 ∧ MapAt wc (w.heap.size + 1) rp ∧ PJ (fun b => b ≠ w.heap.size ∧ b ≠ w.heap.size + 1) wc rp ([(s_clauses, J.list u)] ++ jW s_slop (o1) ++ jY s_in_order (o2) ++ jN s_boost (o3) ++ jT s_query_name (o4)))
          case first =>
            cases hE : v4.toList.isEmpty
            · have hE1 := jT_some (k := s_query_name) H4.out hE
              go_wp2_with (at_mapUpdate; refine wp_put _ rfl _ _ _ 162 rfl 20 Try.underlying162 (w.heap.size + 1) rp rfl hnc (Nat.lt_of_le_of_lt hr (by decide)) s_query_name rfl (by decide) _ rfl ?_; intro wn hnn hgn)
              go_meet
              case rel =>
                have hxn := ext_put hxc hgn (by omega)
                refine ⟨hxn, hm0_2.grown hgn (someNe hne0), _, ?_, hnn, ?_⟩
                · rw [List.length_append]; exact Nat.succ_le_succ (by exact hr)
                · rw [hE1]
                  exact PJ.snoc (hpc.keep (fun _ h _ => h) (keeps_grown hgn (fun b hb e => by simp only [Option.some.injEq] at e; omega))) (by simp only [JAt]; rfl)
            · have hE1 := jT_none (k := s_query_name) H4.out hE
              go_wp2_with fail
              go_meet
              case rel =>
                refine ⟨hxc, hm0_2, rp, Nat.le_succ_of_le hr, hnc, ?_⟩
                rw [hE1, List.append_nil]
                exact hpc
          case rest =>
            obtain ⟨hxc, hm0_3, rp, hr, hnc, hpc⟩ := hcut
            have hbc := hbq.ext hxc
            have hc0 := hbc.cell 0 _ rfl
            have hc1 := hbc.cell 1 _ rfl
            have hc2 := hbc.cell 2 _ rfl
            have hc3 := hbc.cell 3 _ rfl
            have hc4 := hbc.cell 4 _ rfl
            go_wp2_with (first
              | (at_mapUpdate; refine wp_put _ rfl _ _ _ 162 rfl 20 Try.underlying162 w.heap.size [] rfl hm0_3 (by simp [maxLen]) s_span_near rfl (by decide) _ rfl ?_; intro wt0 hmt0 hgt
                 have hxt0 := ext_put hxc hgt (by omega)
                 have hnt0 := hnc.grown hgt (someNe (by omega))
                 have hpt0 := hpc.keep (S' := (fun b => b ≠ w.heap.size ∧ b ≠ w.heap.size + 1)) (fun _ h _ => h) (keeps_grown hgt (fun b hb e => by simp only [Option.some.injEq] at e; omega))
                 have hbt := hbq.ext hxt0
                 have hc0 := hbt.cell 0 _ rfl
                 have hc1 := hbt.cell 1 _ rfl
                 have hc2 := hbt.cell 2 _ rfl
                 have hc3 := hbt.cell 3 _ rfl
                 have hc4 := hbt.cell 4 _ rfl
                 clear hgt hbt))
            go_ret2
            refine ⟨_, rfl, ?_, hxt0⟩
            exact jMap_one hmt0 trivial (hpt0.wide.map hnt0 trivial (by have := hpc.len; omega))
end Go.Proofs.Ytpkkdmopcfcnkaa

namespace Go.Proofs.Ytpkkdmopcfcnkaa
open Go.RowKit

set_option maxRecDepth 20000 in
set_option maxHeartbeats 4000000 in
theorem spanNear_any {S : Nat → Prop} (a : Option Addr) (n c : Nat) (ps : List (ByteArray × T)) (w : World) (ua0 : Option Addr) (un0 uc0 : Nat) (u : List T) (hu0 : KidsAt S w ua0 un0 uc0 u) (hup : 0 < un0) (hub : un0 ≤ 2147483647) (huF : ∀ t ∈ u, FullT t) (hW1 : WholeAt ps s_slop) (h : PairsAt S w a n c ps) :
    Calls Try.prog 31 #[.slice ua0 un0 uc0, .slice a n c] w fun r w' => ∃ g : El, r = .returned (.tuple #[g.val, .bool true]) ∧ TreeAt (fun b => w.heap.size + 1 ≤ b) w' g (treeJ (jMap [(s_span_near, jMap ([(s_clauses, J.list (u.map jFull))] ++ jW s_slop (lastOf ps s_slop) ++ jY s_in_order (lastOf ps s_in_order) ++ jN s_boost (lastOf ps s_boost) ++ jT s_query_name (lastOf ps s_name)))])) ∧ Ext w w' := by
  obtain ⟨hl, hn, hm, hc⟩ := h
  unfold maxLen at hm
  have HL := Lib.hid hl
  clear hl
  have HW1 := Lib.hid hW1
  clear hW1
  have HG := Lib.hid (fun (w1 : World) (x : Ext w w1) => givens_any (S := fun b => b < w.heap.size) ua0 un0 uc0 u w1 (KidsAt.ext x (hu0.keep (S' := fun b => b < w.heap.size) (fun b _ hb => hb) (fun _ _ _ => rfl))) huF hub)
  have hul := hu0.1
  clear hu0
  go_enter Try.func31, Try.ntmps31
  go_wp2_with (first
    | (go_at_call 88; refine (HG.out _ (by (repeat (first | exact ext_refl _ | assumption | refine ext_alloc ?_ _ | refine ext_drew ?_ | refine ext_set ?_ (by simp) _ | refine ext_trans ?_ (by assumption))))).mono ?_; rintro r w2 ⟨ug, ucap, rfl, hgg, hQ, hx2⟩)
    | (go_at_call 93; refine (newSpanNear_any _ _ _ _).mono ?_; rintro r w3 ⟨rfl, hw3⟩
       have hx3 : Ext w2 w3 := by rw [hw3]; exact ext_alloc (ext_refl _) _
       have hbs : Box w3 w2.heap.size #[.slice (some ⟨ug, 0, none⟩) un0 ucap, .pointer none, .pointer none, .pointer none, .string ⟨#[]⟩] 179 := by rw [hw3]; exact Box.at rfl _ _
       clear hw3)
    | fail)
  have hxa : Ext w (w.alloc (.cells (El.arr El0) 26)) := ext_alloc (ext_refl _) _
  have hxs := ext_trans (ext_trans hxa hx2) hx3
  have hb0s : Box w3 w.heap.size (El.arr El0) 26 := ((Box.at rfl _ _ : Box (w.alloc (.cells (El.arr El0) 26)) w.heap.size (El.arr El0) 26).ext hx2).ext hx3
  generalize hbqe : w2.heap.size = bq at hbs ⊢
  have hss := hbs.lt
  have hbq2 : w.heap.size + 1 ≤ bq := by
    have := hx2.sz
    simp at this
    omega
  have hugl : ug < bq := by
    obtain ⟨qb, qo, qvs, hqe, -, hqvl, hqcell, hqG⟩ := hQ.addr hup
    cases hqe
    obtain ⟨u0, hu0⟩ := some_of_lt hqvl hup
    have hh : ug < w2.heap.size := lt_of_cell (hqcell 0 u0 hu0)
    omega
  have hJLs : QsAt (fun q => q ≠ bq) w3 (some ⟨ug, 0, none⟩) un0 ucap (u.map jFull) := QsAt.keep hQ (fun q hq _ => by omega) (hx3.keeps _) hx3.sz
  subst hul
  go_loopw [14] (fun i wr => Ext w wr ∧ (bq + 1) ≤ wr.heap.size ∧ Box wr w.heap.size (El.arr El0) 26 ∧ ∃ (j : Nat) (v1 : Option Addr) (v2 : Option Addr) (v3 : Option Addr) (v4 : ByteArray), j ≤ n ∧ i = .int .i64 j ∧ Box wr bq #[.slice (some ⟨ug, 0, none⟩) u.length ucap, .pointer v1, .pointer v2, .pointer v3, .string v4] 179 ∧ FW (fun q => q ≠ bq) wr v1 (lastOf (ps.take j) s_slop) ∧ FY (fun q => q ≠ bq) wr v2 (lastOf (ps.take j) s_in_order) ∧ FN (fun q => q ≠ bq) wr v3 (lastOf (ps.take j) s_boost) ∧ v4 = fT (lastOf (ps.take j) s_name) ∧ QsAt (fun q => q ≠ bq) wr (some ⟨ug, 0, none⟩) u.length ucap ((u.map jFull))) (fun i _ => n - (intOf i).toNat)
  case atStart => exact ⟨hxs, hss, hb0s, 0, _, _, _, _, Nat.zero_le _, rfl, hbs, rfl, rfl, rfl, rfl, hJLs⟩
  case round =>
    obtain ⟨hx, hsz, hb0, j, v1, v2, v3, v4, hj, rfl, hbq, h1, h2, h3, h4, hJLu⟩ := hrel
    have H1 := Lib.hid h1
    have H2 := Lib.hid h2
    have H3 := Lib.hid h3
    have H4 := Lib.hid h4
    have HJLu := Lib.hid hJLu
    clear hJLu
    clear h1 h2 h3 h4
    have hbql := hbq.lt
    by_cases hlt : j < n
    · obtain ⟨p, hp⟩ := some_of_lt HL.out hlt
      obtain ⟨b, off, ⟨k, x, d, y, ka, kn, kc, ca, m, cc⟩, rfl, hSb, hc7, hT⟩ := hc j p hp
      obtain ⟨z0, z1, z2, z3, z4, z5, z6⟩ := Cells7.ext hx hc7
      have HP := Lib.hid hp
      have hl0 : w.heap.size < wr.heap.size := by omega
      have hl1 : ¬ w.heap.size = wr.heap.size := by omega
      have hl2 : bq < wr.heap.size + 1 := by omega
      have hTx := Lib.hid hT.parts.2.1
      have hTd := Lib.hid hT.parts.2.2.1
      have hTy := Lib.hid hT.parts.2.2.2.1
      clear hp
      have hc0 := hbq.cell 0 _ rfl
      have hf0 := hbq.free 0
      have hc1 := hbq.cell 1 _ rfl
      have hf1 := hbq.free 1
      have hc2 := hbq.cell 2 _ rfl
      have hf2 := hbq.free 2
      have hc3 := hbq.cell 3 _ rfl
      have hf3 := hbq.free 3
      have hc4 := hbq.cell 4 _ rfl
      have hf4 := hbq.free 4
      cases he0 : p.1.toList == [98, 111, 111, 115, 116]
      · have e0 : seq p.1 s_boost = false := by rw [seq, show s_boost.toList = [98, 111, 111, 115, 116] by rw [Lib.toList_data]]; exact he0
        cases he1 : p.1.toList == [105, 110, 95, 111, 114, 100, 101, 114]
        · have e1 : seq p.1 s_in_order = false := by rw [seq, show s_in_order.toList = [105, 110, 95, 111, 114, 100, 101, 114] by rw [Lib.toList_data]]; exact he1
          cases he2 : p.1.toList == [115, 108, 111, 112]
          · have e2 : seq p.1 s_slop = false := by rw [seq, show s_slop.toList = [115, 108, 111, 112] by rw [Lib.toList_data]]; exact he2
            cases he3 : p.1.toList == [95, 110, 97, 109, 101]
            · have e3 : seq p.1 s_name = false := by rw [seq, show s_name.toList = [95, 110, 97, 109, 101] by rw [Lib.toList_data]]; exact he3
              go_wp2_with go_in
              go_roundw
              case rel =>
                have hy := ext_alloc (ext_refl wr) (.cells #[.string p.1, .int .i64 k, .string x, .float .f64 d, .bool y, .slice ka kn kc, .slice ca m cc] 69)
                exact ⟨ext_trans hx hy, Nat.le_trans hsz hy.sz, hb0.ext hy, j + 1, v1, v2, v3, v4, by omega, by go_num, hbq.ext hy, by rw [last_miss HP.out e2]; exact FW.ext hy H1.out, by rw [last_miss HP.out e1]; exact FY.ext hy H2.out, by rw [last_miss HP.out e0]; exact FN.ext hy H3.out, by rw [last_miss HP.out e3]; exact H4.out, QsAt.ext HJLu.out hy⟩
              case measure => simp [intOf]; omega
            · have e3 : seq p.1 s_name = true := by rw [seq, show s_name.toList = [95, 110, 97, 109, 101] by rw [Lib.toList_data]]; exact he3
              go_wp2_with go_in
              go_roundw
              case rel =>
                have hk : Keeps (fun q => q ≠ bq) wr ((wr.setCell ⟨bq, 4, none⟩ (.string x)).alloc (.cells #[.string p.1, .int .i64 k, .string x, .float .f64 d, .bool y, .slice ka kn kc, .slice ca m cc] 69)) := fun q hq hlt => (Below.heap_alloc _ _ _ (by simpa using hlt)).trans (Below.heap_setCell _ _ _ _ (by simp; omega))
                exact ⟨ext_alloc (ext_set hx (by simp; omega) _) _, by simp; omega, (hb0.other (by simp; omega) _).alloc _, j + 1, v1, v2, v3, x, by omega, by go_num, (hbq.set 4 _).alloc _, by rw [last_other HP.out e3 (seq_false.2 (by decide))]; exact FW.keep (fun _ h _ => h) hk H1.out, by rw [last_other HP.out e3 (seq_false.2 (by decide))]; exact FY.keep (fun _ h _ => h) hk H2.out, by rw [last_other HP.out e3 (seq_false.2 (by decide))]; exact FN.keep (fun _ h _ => h) hk H3.out, by rw [last_hit HP.out e3]; exact hTx.out, QsAt.keep HJLu.out (fun _ h _ => h) hk (by simp <;> omega)⟩
              case measure => simp [intOf]; omega
          · have e2 : seq p.1 s_slop = true := by rw [seq, show s_slop.toList = [115, 108, 111, 112] by rw [Lib.toList_data]]; exact he2
            obtain ⟨z, hz, -⟩ := HW1.out p (List.mem_of_getElem? HP.out) e2
            have hcv : ∀ w, (convert 22 3 (.float .f64 d)).run Try.prog w = .ok (.int .i64 z) w := fun w => run_convert_float_int w 22 3 .f64 .i64 d z (by rw [Try.underlying22]; rfl) Try.underlying3 (show floatToIntVal .f64 d .i64 = some z from by have h9 : d = p.2.num := hTd.out; rw [h9]; exact hz)
            have HZ := Lib.hid hz
            clear hz
            go_wp2_with go_in
            go_roundw
            case rel =>
              have hk : Keeps (fun q => q ≠ bq) wr (((wr.setCell ⟨bq, 1, none⟩ (.pointer (some ⟨wr.heap.size + 1, 0, none⟩))).alloc (.cells #[.string p.1, .int .i64 k, .string x, .float .f64 d, .bool y, .slice ka kn kc, .slice ca m cc] 69)).alloc (.cells #[.int .i64 z] 3)) := fun q hq hlt => (Below.heap_alloc _ _ _ (by simp; omega)).trans ((Below.heap_alloc _ _ _ (by simpa using hlt)).trans (Below.heap_setCell _ _ _ _ (by simp; omega)))
              have hnew : (((wr.setCell ⟨bq, 1, none⟩ (.pointer (some ⟨wr.heap.size + 1, 0, none⟩))).alloc (.cells #[.string p.1, .int .i64 k, .string x, .float .f64 d, .bool y, .slice ka kn kc, .slice ca m cc] 69)).alloc (.cells #[.int .i64 z] 3)).cell? ⟨wr.heap.size + 1, 0, none⟩ = some (.int .i64 z) := (Box.at (by simp) _ _).cell 0 _ rfl
              exact ⟨ext_alloc (ext_alloc (ext_set hx (by simp; omega) _) _) _, by simp; omega, ((hb0.other (by simp; omega) _).alloc _).alloc _, j + 1, some ⟨wr.heap.size + 1, 0, none⟩, v2, v3, v4, by omega, by go_num, ((hbq.set 1 _).alloc _).alloc _, by rw [last_hit HP.out e2]; exact ⟨wr.heap.size + 1, z, rfl, by omega, hnew, HZ.out⟩, by rw [last_other HP.out e2 (seq_false.2 (by decide))]; exact FY.keep (fun _ h _ => h) hk H2.out, by rw [last_other HP.out e2 (seq_false.2 (by decide))]; exact FN.keep (fun _ h _ => h) hk H3.out, by rw [last_other HP.out e2 (seq_false.2 (by decide))]; exact H4.out, QsAt.keep HJLu.out (fun _ h _ => h) hk (by simp <;> omega)⟩
            case measure => simp [intOf]; omega
        · have e1 : seq p.1 s_in_order = true := by rw [seq, show s_in_order.toList = [105, 110, 95, 111, 114, 100, 101, 114] by rw [Lib.toList_data]]; exact he1
          go_wp2_with go_in
          go_roundw
          case rel =>
            have hk : Keeps (fun q => q ≠ bq) wr (((wr.setCell ⟨bq, 2, none⟩ (.pointer (some ⟨wr.heap.size + 1, 0, none⟩))).alloc (.cells #[.string p.1, .int .i64 k, .string x, .float .f64 d, .bool y, .slice ka kn kc, .slice ca m cc] 69)).alloc (.cells #[.bool y] 4)) := fun q hq hlt => (Below.heap_alloc _ _ _ (by simp; omega)).trans ((Below.heap_alloc _ _ _ (by simpa using hlt)).trans (Below.heap_setCell _ _ _ _ (by simp; omega)))
            have hnew : (((wr.setCell ⟨bq, 2, none⟩ (.pointer (some ⟨wr.heap.size + 1, 0, none⟩))).alloc (.cells #[.string p.1, .int .i64 k, .string x, .float .f64 d, .bool y, .slice ka kn kc, .slice ca m cc] 69)).alloc (.cells #[.bool y] 4)).cell? ⟨wr.heap.size + 1, 0, none⟩ = some (.bool y) := (Box.at (by simp) _ _).cell 0 _ rfl
            exact ⟨ext_alloc (ext_alloc (ext_set hx (by simp; omega) _) _) _, by simp; omega, ((hb0.other (by simp; omega) _).alloc _).alloc _, j + 1, v1, some ⟨wr.heap.size + 1, 0, none⟩, v3, v4, by omega, by go_num, ((hbq.set 2 _).alloc _).alloc _, by rw [last_other HP.out e1 (seq_false.2 (by decide))]; exact FW.keep (fun _ h _ => h) hk H1.out, by rw [last_hit HP.out e1]; exact ⟨wr.heap.size + 1, rfl, by omega, by rw [← hTy.out]; exact hnew⟩, by rw [last_other HP.out e1 (seq_false.2 (by decide))]; exact FN.keep (fun _ h _ => h) hk H3.out, by rw [last_other HP.out e1 (seq_false.2 (by decide))]; exact H4.out, QsAt.keep HJLu.out (fun _ h _ => h) hk (by simp <;> omega)⟩
          case measure => simp [intOf]; omega
      · have e0 : seq p.1 s_boost = true := by rw [seq, show s_boost.toList = [98, 111, 111, 115, 116] by rw [Lib.toList_data]]; exact he0
        go_wp2_with go_in
        go_roundw
        case rel =>
          have hk : Keeps (fun q => q ≠ bq) wr (((wr.setCell ⟨bq, 3, none⟩ (.pointer (some ⟨wr.heap.size + 1, 0, none⟩))).alloc (.cells #[.string p.1, .int .i64 k, .string x, .float .f64 d, .bool y, .slice ka kn kc, .slice ca m cc] 69)).alloc (.cells #[.float .f64 d] 22)) := fun q hq hlt => (Below.heap_alloc _ _ _ (by simp; omega)).trans ((Below.heap_alloc _ _ _ (by simpa using hlt)).trans (Below.heap_setCell _ _ _ _ (by simp; omega)))
          have hnew : (((wr.setCell ⟨bq, 3, none⟩ (.pointer (some ⟨wr.heap.size + 1, 0, none⟩))).alloc (.cells #[.string p.1, .int .i64 k, .string x, .float .f64 d, .bool y, .slice ka kn kc, .slice ca m cc] 69)).alloc (.cells #[.float .f64 d] 22)).cell? ⟨wr.heap.size + 1, 0, none⟩ = some (.float .f64 d) := (Box.at (by simp) _ _).cell 0 _ rfl
          exact ⟨ext_alloc (ext_alloc (ext_set hx (by simp; omega) _) _) _, by simp; omega, ((hb0.other (by simp; omega) _).alloc _).alloc _, j + 1, v1, v2, some ⟨wr.heap.size + 1, 0, none⟩, v4, by omega, by go_num, ((hbq.set 3 _).alloc _).alloc _, by rw [last_other HP.out e0 (seq_false.2 (by decide))]; exact FW.keep (fun _ h _ => h) hk H1.out, by rw [last_other HP.out e0 (seq_false.2 (by decide))]; exact FY.keep (fun _ h _ => h) hk H2.out, by rw [last_hit HP.out e0]; exact ⟨wr.heap.size + 1, rfl, by omega, by rw [← hTd.out]; exact hnew⟩, by rw [last_other HP.out e0 (seq_false.2 (by decide))]; exact H4.out, QsAt.keep HJLu.out (fun _ h _ => h) hk (by simp <;> omega)⟩
        case measure => simp [intOf]; omega
    · have hjn : j = n := by omega
      have hfull : ps.take j = ps := List.take_of_length_le (by have := HL.out; omega)
      rw [hfull] at H1 H2 H3 H4
      have hS := spanNear_src (S := fun q => q ≠ bq) wr bq _ _ _ _ HJLu.out hup hub v1 _ H1.out v2 _ H2.out v3 _ H3.out v4 _ H4.out hbq
      go_wp2_with (first
        | (go_at_call 98; refine hS.mono ?_; rintro r w2 ⟨v, rfl, hJ, hx2⟩)
        | (go_at_call 49; refine (told_any v _ _ hJ).mono ?_; rintro r w3 ⟨e2, rfl, hT3, hx3⟩; simp only [El.val]
           have hb := (hb0.ext hx2).ext hx3; obtain ⟨o0, o1, o2, o3, o4, o5⟩ := hb.six; have f0 := hb.free 0; have f1 := hb.free 1; have f2 := hb.free 2; have f3 := hb.free 3; have f4 := hb.free 4; have f5 := hb.free 5))
      have hx4 := ext_trans hx (ext_trans hx2 hx3)
      have hs2 := hx2.sz
      refine post_tree2 rfl rfl (hb.sto e2) rfl ⟨e2, rfl, ?_, ext_sto6 hx4 (by omega) _ _ _ _ _ _⟩
      have hfin := TreeAt.keep (S := fun b => w2.heap.size ≤ b) (S' := fun b => w.heap.size + 1 ≤ b) (fun b hb _ => by omega) (keeps_sto (b := w.heap.size) w3 (by omega) e2) _ hT3
      simp only [List.append_assoc, List.cons_append, List.nil_append] at hfin ⊢
      exact hfin
end Go.Proofs.Ytpkkdmopcfcnkaa

namespace Go.Proofs.Ytpkkdmopcfcnkaa
open Go.RowKit

abbrev sSpanNear : ByteArray := ⟨#[83, 112, 97, 110, 78, 101, 97, 114]⟩
abbrev tSpanNear : ByteArray := ⟨#[98, 111, 111, 115, 116, 32, 110, 44, 105, 110, 95, 111, 114, 100, 101, 114, 32, 98, 44, 115, 108, 111, 112, 32, 119]⟩
abbrev rSpanNear : List (ByteArray × ByteArray) := [(s_boost, ⟨#[110]⟩), (s_in_order, ⟨#[98]⟩), (s_slop, ⟨#[119]⟩)]
set_option maxHeartbeats 2000000 in
theorem table_spanNear (w : World) : Calls Try.prog 135 #[.string sSpanNear] w fun r w' => r = .returned (.string tSpanNear) ∧ w' = w := by
  go_enter Try.func135, Try.ntmps135
  go_wp2
  go_ret
  exact ⟨rfl, rfl⟩
set_option maxRecDepth 20000 in
theorem rows_spanNear (w : World) : Calls Try.prog 130 #[.string sSpanNear] w fun r w' => ∃ v, r = .returned v ∧ Own2 w' w.heap.size v rSpanNear ∧ Ext w w' :=
  rows_any sSpanNear tSpanNear w table_spanNear 6 (by decide) (by decide)
theorem spanNear_same (u : List T) (huF : ∀ t ∈ u, FullT t) {ps : List (ByteArray × T)} (hF : FitsP rSpanNear ps) : sameT (mapT [(s_span_near, mapT (jTree ([(s_clauses, J.list (u.map jFull))] ++ jW s_slop (lastOf ps s_slop) ++ jY s_in_order (lastOf ps s_in_order) ++ jN s_boost (lastOf ps s_boost) ++ jT s_query_name (lastOf ps s_name))))]) (mapT [(s_span_near, mapT (paramsL rSpanNear ps ++ [(s_clauses, listT u)]))]) = true := by
  have hno : lastOf ps s_name = none := fits_no hF (by rw [kindL_dec]; decide)
  rw [hno, jT_no, List.append_nil]
  refine same_one _ (sameT_map ?_)
  let chs : Nat → Ch := fun i => match i with
    | 0 => (s_clauses, [(s_clauses, listT u)])
    | 1 => (s_slop, (param ps (s_slop, ⟨#[119]⟩)).toList)
    | 2 => (s_in_order, (param ps (s_in_order, ⟨#[98]⟩)).toList)
    | 3 => (s_boost, (param ps (s_boost, ⟨#[110]⟩)).toList)
    | _ => (emptyS, [])
  have h0 : SameL (jTree ([(s_clauses, J.list (u.map jFull))] ++ jW s_slop (lastOf ps s_slop) ++ jY s_in_order (lastOf ps s_in_order) ++ jN s_boost (lastOf ps s_boost))) ([(s_clauses, listT u)] ++ (param ps (s_slop, ⟨#[119]⟩)).toList ++ (param ps (s_in_order, ⟨#[98]⟩)).toList ++ (param ps (s_boost, ⟨#[110]⟩)).toList) := by
    unfold jTree
    rw [List.map_append, List.map_append, List.map_append]
    exact SameL.append (SameL.append (SameL.append (SameL.one s_clauses (jList_same huF)) (jW_same hF (by rw [kindL_dec]; decide))) (jY_same hF (by rw [kindL_dec]; decide))) (jN_same hF (by rw [kindL_dec]; decide))
  have h1 := SameL.reorder (f := chs) [0, 1, 2, 3] [3, 2, 1, 0] (by decide) (show [s_clauses, s_slop, s_in_order, s_boost].Nodup by decide) (by intro c hc; simp only [List.map_cons, List.map_nil, List.mem_cons, List.not_mem_nil, or_false] at hc; rcases hc with rfl | rfl | rfl | rfl <;> first | exact keys_param _ _ | exact keys_one _ _) (by simpa only [chs, flatC, List.map_cons, List.map_nil, List.flatMap_cons, List.flatMap_nil, List.append_nil, List.append_assoc] using h0)
  rw [params_cons, params_cons, params_cons, params_nil]
  refine (show SameL _ _ from ?_)
  simpa only [chs, flatC, List.map_cons, List.map_nil, List.flatMap_cons, List.flatMap_nil, List.append_nil, List.append_assoc, List.cons_append, List.nil_append] using h1
theorem spanNear_key (u : List T) (ps : List (ByteArray × T)) : lastOf (jTree ([(s_clauses, J.list (u.map jFull))] ++ jW s_slop (lastOf ps s_slop) ++ jY s_in_order (lastOf ps s_in_order) ++ jN s_boost (lastOf ps s_boost) ++ jT s_query_name (lastOf ps s_name))) s_clauses = some (treeJ (.list (u.map jFull))) := by
  have e : ∀ l : List (ByteArray × J), List.map (fun p => (p.1, treeJ p.2)) l = jTree l := fun _ => rfl
  unfold jTree
  simp only [List.map_append, lastOf_append, e]
  rw [(keys_W s_slop (lastOf ps s_slop)).none (x := s_clauses) (by rw [List.mem_singleton]; decide), (keys_Y s_in_order (lastOf ps s_in_order)).none (x := s_clauses) (by rw [List.mem_singleton]; decide), (keys_N s_boost (lastOf ps s_boost)).none (x := s_clauses) (by rw [List.mem_singleton]; decide), (keys_T s_query_name (lastOf ps s_name)).none (x := s_clauses) (by rw [List.mem_singleton]; decide)]
  simp [jTree, lastOf_cons, lastOf_nil, seq_self]
set_option maxHeartbeats 4000000 in
theorem spanNear_law {S : Nat → Prop} (ua : Option Addr) (un uc : Nat) (u : List T) (a : Option Addr) (n c : Nat) (ps : List (ByteArray × T)) (w : World) (huT : KidsAt S w ua un uc u) (huSm : SmallTs 1048576 u) (h : PairsAt S w a n c ps) : Calls Try.prog 10 #[.slice ua un uc, .slice a n c] w fun r w' => r = .returned (.bool true) ∧ Ext w w' := by
  have hnl := Nat.le_trans h.2.1 h.2.2.1
  unfold maxLen at hnl
  have hPs := Lib.hid fun w' (x : Ext w w') => (h.keep (S' := fun _ => True) (fun _ _ _ => trivial) (fun _ _ _ => rfl)).ext x
  have hnu := Nat.le_trans huT.2.1 huT.2.2.1
  unfold maxLen at hnu
  have hTu := Lib.hid fun w' (x : Ext w w') => (huT.keep (S' := fun _ => True) (fun _ _ _ => trivial) (fun _ _ _ => rfl)).ext x
  have hF := Lib.hid fun w' (x : Ext w w') => fits_any sSpanNear rSpanNear a n c ps w' rows_spanNear (by simp [plainK]) (h.ext x)
  have hul := huT.1
  have hQ := Lib.hid fun w' (x : Ext w w') (hup : 0 < un) (hub : un ≤ 2147483647) (huF : ∀ t ∈ u, FullT t) (hff : FitsP rSpanNear ps) => spanNear_any a n c ps w' ua un uc u (huT.ext x) hup hub huF (whole_of hff (by rw [kindL_dec]; decide)) (h.ext x)
  clear h
  clear huT
  go_enter Try.func10, Try.ntmps10
  by_cases hsz0 : 2147483647 < un
  · go_wp2_with fail
    all_goals (go_ret; exact ⟨rfl, by (repeat (first | exact ext_refl _ | assumption | refine ext_alloc ?_ _ | refine ext_drew ?_ | refine ext_set ?_ (by simp) _ | refine ext_trans ?_ (by assumption)))⟩)
  · skip
    by_cases hsz1 : 2147483647 < n
    · go_wp2_with fail
      all_goals (go_ret; exact ⟨rfl, by (repeat (first | exact ext_refl _ | assumption | refine ext_alloc ?_ _ | refine ext_drew ?_ | refine ext_set ?_ (by simp) _ | refine ext_trans ?_ (by assumption)))⟩)
    · skip
      go_wp2_with (first
        | (go_at_call 28; refine (queries_any _ _ _ _ _ (hTu.out _ (by (repeat (first | exact ext_refl _ | assumption | refine ext_alloc ?_ _ | refine ext_drew ?_ | refine ext_set ?_ (by simp) _ | refine ext_trans ?_ (by assumption)))))).mono ?_; rintro r wqs ⟨bqs, rfl, hqs, hxqs⟩; have Hqs := Lib.hid hqs; clear hqs; cases bqs)
        | (go_at_call 16; refine (hF.out _ (by (repeat (first | exact ext_refl _ | assumption | refine ext_alloc ?_ _ | refine ext_drew ?_ | refine ext_set ?_ (by simp) _ | refine ext_trans ?_ (by assumption))))).mono ?_; rintro r wff ⟨bff, rfl, hff, hxff⟩; have Hff := Lib.hid hff; clear hff; cases bff))
      all_goals (try (go_ret; exact ⟨rfl, by (repeat (first | exact ext_refl _ | assumption | refine ext_alloc ?_ _ | refine ext_drew ?_ | refine ext_set ?_ (by simp) _ | refine ext_trans ?_ (by assumption)))⟩))
      have hff := Hff.out (by trivial)
      have hqs := Hqs.out (by trivial)
      have hup : 0 < un := by have := hqs.2; omega
      have hub : un ≤ 2147483647 := by omega
      have huF : ∀ t ∈ u, FullT t := fun t ht => FullT.of (N := 1048576) (by omega) (hqs.1 t ht).2 ((smallTs_iff _ _).1 huSm t ht)
      have hfit := Lib.hid (spanNear_same u huF hff)
      have hx1 : Ext w wff := by (repeat (first | exact ext_refl _ | assumption | refine ext_alloc ?_ _ | refine ext_drew ?_ | refine ext_set ?_ (by simp) _ | refine ext_trans ?_ (by assumption)))
      refine (hQ.out wff hx1 hup hub huF hff).mono ?_
      rintro r w3 ⟨e, rfl, hT, hx3⟩
      simp only [El.val]
      rw [jMap_tree] at hT
      have hb3 : Box (w3.alloc (.cells e.arr 26)) w3.heap.size e.arr 26 := Box.at rfl _ _
      obtain ⟨o0, o1, o2, o3, o4, o5⟩ := hb3.six
      have hx4 : Ext w ((w3.alloc (.cells e.arr 26)).alloc (.cells #[.string s_clauses] 9)) := ext_alloc (ext_alloc (ext_trans hx1 hx3) _) _
      have hbs : Box ((w3.alloc (.cells e.arr 26)).alloc (.cells #[.string s_clauses] 9)) (w3.heap.size + 1) #[.string s_clauses] 9 := Box.at (by simp) _ _
      have hls : StrsAt (fun _ => True) ((w3.alloc (.cells e.arr 26)).alloc (.cells #[.string s_clauses] 9)) (some ⟨w3.heap.size + 1, 0, none⟩) 1 1 [s_clauses] := ⟨rfl, Nat.le_refl _, by simp [maxLen], fun i f hf => by
        cases i with
        | zero => simp at hf; subst hf; exact ⟨_, 0, rfl, trivial, hbs.cell 0 _ rfl⟩
        | succ i => simp at hf⟩
      have hul2 : (treesJ (u.map jFull)).length ≠ 0 := by rw [treesJ_len, List.length_map]; omega
      have hRB := Lib.hid (rb_any (S := fun _ => True) s_span_near _ e _ 1 1 [s_clauses] _ ((hT.ext (ext_alloc (ext_alloc (ext_refl w3) (.cells e.arr 26)) (.cells #[.string s_clauses] 9))).any) hls (fun k t hl => ⟨(NoNull.append (NoNull.append (NoNull.append (NoNull.append (noNull_J _ _ (by simp [treeJ, listT, T.kind])) (noNull_W _ _)) (noNull_Y _ _)) (noNull_N _ _)) (noNull_T _ _)) _ (lastOf_mem hl), fun hh => by
        have hk : s_clauses = k := by simpa [hasS, seq_iff] using hh
        subst hk
        rw [spanNear_key] at hl
        cases hl
        exact ⟨rfl, by simpa [treeJ, listT, T.kids] using hul2⟩⟩) (by have h1 := jW_len s_slop (lastOf ps s_slop); have h2 := jY_len s_in_order (lastOf ps s_in_order); have h3 := jN_len s_boost (lastOf ps s_boost); have h4 := jT_len s_query_name (lastOf ps s_name); simp only [List.length_map, List.length_append, List.length_cons, List.length_nil]; omega))
      clear hQ
      go_wp2_with (first
        | (go_at_call 19; refine hRB.out.mono ?_; rintro r w4 ⟨g4, rfl, hT4, hx5⟩; simp only [El.val]; have hx6 := ext_trans hx4 hx5; clear hRB)
        | (go_at_call 30; refine (list_any _ _ _ _ _ (hTu.out _ hx6)).mono ?_; rintro r w5 ⟨g5, rfl, hT5, hx7⟩; simp only [El.val]
           have hPr := Lib.hid (pairs_box (S := fun _ => True) (es := [(s_clauses, g5)]) (Box.at (w := w5) rfl #[.string s_clauses, .int .i64 g5.k, .string g5.x, .float .f64 g5.d, .bool g5.y, .slice g5.ka g5.n g5.kc, .slice g5.ca g5.m g5.cc] 36) trivial (by simp [maxLen]) (Pk.one (k := s_clauses) (hT5.ext (ext_alloc (ext_refl _) _))))
           have hBs := Lib.hid (beside_more (S := fun _ => True) s_span_near sSpanNear tSpanNear a n c ps _ table_spanNear 6 (by decide) (by decide) rSpanNear (by decide) (by decide) (hPs.out _ (ext_alloc (ext_trans hx6 hx7) _)) w5.heap.size 0 1 1 [(s_clauses, listT u)] hPr.out (by decide) (by decide)))
        | (go_at_call 20; refine hBs.out.mono ?_; rintro r w6 ⟨g6, rfl, hT6, hx9⟩; simp only [El.val]; have hx10 := ext_trans (ext_alloc hx7 _) hx9; have hSm := Lib.hid (same_any (S := fun _ => True) _ _ g4 g6 _ ((hT4.ext hx10).any) hT6.any); have hx11 := ext_trans hx6 hx10)
        | (go_at_call 18; refine hSm.out.mono ?_; rintro r w8 ⟨rfl, hx12⟩; rw [hfit.out]))
      go_ret
      exact ⟨rfl, ext_trans hx11 hx12⟩
end Go.Proofs.Ytpkkdmopcfcnkaa

namespace Go.Proofs.Ytpkkdmopcfcnkaa
open Go.ChangeShapes Go.WideShapes Go.ChangeAt Go.RowKit

set_option maxRecDepth 100000 in
theorem spanNear_lifted (os : Os) (started : os.Started) (H : Type) (enc : TypeId × Value → H) (F : Stop.Interp) :
    ReturnsInHanded {} Try.checked os 10 .any ((Rows.OpenSpec.upto Rows.fnSpanNearSpec).pre6 enc Try.prog Try.f10 Rows.fnSpanNearUptoRow.domain false) (((Rows.OpenSpec.upto Rows.fnSpanNearSpec).at F).post enc Try.prog Try.f10 false true false false) := by
  refine returnsInHanded_of_cond (C := Try.checked) (s := Rows.OpenSpec.upto Rows.fnSpanNearSpec) (k := Rows.uptoSmall) rfl ownKnobs started (by kernel_rfl) Try.func10
    (OpenSpec.witness (enc := enc) (C := Try.checked) (s := Rows.OpenSpec.upto Rows.fnSpanNearSpec) (k := Rows.uptoSmall) rfl false ⟨#[], #[.slice none 0 0, .slice none 0 0], []⟩ 8 (by kernel_rfl) (by kernel_rfl) (by kernel_rfl)
      (x := ([.nil, .nil], [], [])) (by kernel_rfl) rfl (by kernel_rfl)) ?_
  intro W base args ds gs before hval hW _ hk _
  have hbulk : Rows.uptoBulkAll (ds ++ gs) ≤ 1048576 := of_decide_eq_true hk
  have hW' := hW
  obtain ⟨p, q, hA, hV, rfl, hfz, hnd⟩ := hW'
  have hA : DataW.TrodAll enc Try.prog W 0 (fun _ => true) true Try.f10.params.toList args.toList ds p := hA
  rw [Try.params10] at hA hval
  obtain ⟨v0, vs0, d0, ds0, p0, q0, hargs, rfl, rfl, h0, r0⟩ := trodAll_cons hA
  obtain ⟨v1, vs1, d1, ds1, p1, q1, rfl, rfl, rfl, h1, r1⟩ := trodAll_cons r0
  obtain ⟨rfl, rfl, rfl⟩ := trodAll_nil r1
  obtain rfl : args = #[v0, v1] := by cases args; simp_all
  obtain ⟨rfl, rfl⟩ := trodVars_none hV
  obtain ⟨a0, n0, c0, rfl⟩ := okWide_slice Try.underlying24 (hval 0 24 v0 rfl rfl)
  obtain ⟨fuel0, hf0⟩ := h0
  obtain ⟨a0', n0', c0', ps0, e0, hP0, hSl0, hSm0⟩ := kids_small hf0
  simp only [Value.cells, List.cons.injEq, and_true, Value.slice.injEq] at e0
  obtain ⟨rfl, rfl, rfl⟩ := e0
  obtain ⟨a1, n1, c1, rfl⟩ := okWide_slice Try.underlying27 (hval 1 27 v1 rfl rfl)
  obtain ⟨fuel1, hf1⟩ := h1
  obtain ⟨a1', n1', c1', ps1, e1, hP1⟩ := sets_of hf1
  simp only [Value.cells, List.cons.injEq, and_true, Value.slice.injEq] at e1
  obtain ⟨rfl, rfl, rfl⟩ := e1
  simp only [List.append_nil, Rows.uptoBulkAll] at hbulk
  refine (spanNear_law a0 n0 c0 ps0 a1 n1 c1 ps1 W hP0 (SmallTs.mono (show Rows.uptoBulk d0 ≤ 1048576 by omega) hSm0) hP1).mono fun e W' ⟨he, hx⟩ => ?_
  subst he
  exact ⟨_, rfl, post_law (s := Rows.fnSpanNearSpec) laidOut (by kernel_rfl) (by kernel_rfl) Try.underlying4 rfl hW rfl hx⟩

/-- A span_near query has its clauses in order, and its settings: where what comes in is of bulk at most 1048576. -/
theorem spanNear_proved : Rows.FnSpanNearUptoSaid :=
  OpenClaim.holds_of_cond 10 Try.f10 rfl rfl rfl rfl rfl rfl rfl ⟨rfl, rfl, rfl, rfl, rfl⟩ rfl rfl rfl rfl rfl (by kernel_rfl) Try.func10 (by kernel_rfl)
    (of_decide_eq_true (by kernel_rfl)) (by unfold Func.isWrapper; first | (rw [if_pos (by decide +kernel)]; kernel_rfl) | (rw [if_neg (by decide +kernel)]; exact ⟨rfl, rfl⟩))
    (fun os started H enc _ F => spanNear_lifted os started H enc F)
#print axioms spanNear_proved
end Go.Proofs.Ytpkkdmopcfcnkaa

