/-
  What the thin package makes of a rule of intervals (RAllOf).
-/
import Derived.Test.YtdjojnlejkljdaaGreatRu
import Derived.Test.YtdjojnlejkljdaaGreatAny
namespace Go.Proofs.YtdjojnlejkljdaaGreat
open Go.RowKit

set_option maxRecDepth 20000 in
set_option maxHeartbeats 4000000 in
theorem rAllOf_src {S : Nat → Prop} (w : World) (bq : Nat) (ua : Option Addr) (un uc : Nat) (u : List J) (hu : QsAt S w ua un uc u) (hub : un ≤ 2147483647) (v1 : Option Addr) (o1 : Option T) (h1 : FW S w v1 o1) (v2 : Option Addr) (o2 : Option T) (h2 : FY S w v2 o2) (v3 : Option Addr) (o3 : Option J) (h3 : FilO S w v3 o3) (hbq : Box w bq #[.slice ua un uc, .pointer v1, .pointer v2, .pointer v3] 148) :
    Calls Tryz.prog 139 #[.pointer (some ⟨bq, 0, none⟩)] w fun r w' => ∃ v, r = .returned (.tuple #[v, .nilIface]) ∧ JAt (fun b => w.heap.size ≤ b) w' v (jMap [(s_all_of, jMap ([(s_intervals, J.list u)] ++ jY s_ordered (o2) ++ jW s_max_gaps (o1) ++ jF s_filter (o3)))]) ∧ Ext w w' := by
  have tok0 := trivial
  have hblt := hbq.lt
  have H1 := Lib.hid h1
  have H2 := Lib.hid h2
  clear h1 h2
  have H3 := Lib.hid h3
  clear h3
  have Hu := Lib.hid hu
  clear hu
  have hc0 := (hbq.alloc (.map #[] 0)).cell 0 _ rfl
  have hc1 := (hbq.alloc (.map #[] 0)).cell 1 _ rfl
  have hc2 := (hbq.alloc (.map #[] 0)).cell 2 _ rfl
  have hc3 := (hbq.alloc (.map #[] 0)).cell 3 _ rfl
  go_enter Tryz.func139, Tryz.ntmps139
  go_wp2_with fail
  obtain ⟨qvs, hvl, hvc, hvm, hvcell, hvG⟩ := Hu.out.ext (show Ext w (w.alloc (.map #[] 0)) from ext_alloc (ext_refl _) _)
  have HVL := Lib.hid hvl
  have HVC := Lib.hid hvcell
  have HVG := Lib.hid hvG
  clear hvl hvcell hvG
  go_loopw [5, 19] (fun v i wr => Ext (w.alloc (.map #[] 0)) wr ∧ ∃ (j : Nat) (us : List Value) (vv : Value), vv = v ∧ j ≤ un ∧ i = .int .i64 j ∧ us.length = j ∧ OwnAny wr (w.alloc (.map #[] 0)).heap.size vv us ∧ (∀ x ∈ us, x.oneCell' = true) ∧ JsAt (fun b => (w.alloc (.map #[] 0)).heap.size ≤ b ∧ vv.ownBlock ≠ some b) wr us (u.take j)) (fun _ i _ => un - (intOf i).toNat)
  case atStart => exact ⟨ext_alloc (ext_refl _) _, 0, [], _, rfl, Nat.zero_le _, rfl, rfl, ⟨rfl, .inr ⟨w.heap.size + 1, 0, #[], rfl, by simp, Box.at (by simp) _ _, Nat.le_refl _, by simp [maxLen], rfl, rfl⟩⟩, fun x hx => by simp at hx, by simp [JsAt]⟩
  case round =>
    obtain ⟨hxr, j, us, vv, hve, hj, rfl, hul, hO, h1, hV⟩ := hrel
    subst hve
    have HO := Lib.hid hO
    have HV := Lib.hid hV
    have HUL := Lib.hid hul
    have H1 := Lib.hid h1
    clear hO hV hul h1
    by_cases hlt : j < un
    case pos =>
      obtain ⟨qq, hqq⟩ := some_of_lt HVL.out hlt
      obtain ⟨jj, hjj⟩ := some_of_lt (l := u) rfl (show j < u.length by have h2 := HVG.out.1; have h3 := HVL.out; omega)
      obtain ⟨qb, qo, hqa, -, hqc⟩ := HVC.out j qq hqq
      have hqc := hxr.cell hqc
      obtain ⟨qty, qx, qf, hqe, hqm, hqm2, hqC⟩ := (HVG.out.2 j qq jj hqq hjj).ext hxr
      have HT := Lib.hid hjj
      have HQC := Lib.hid hqC
      clear hqC hjj hqq
      subst hqe hqa
      have hszr := hxr.sz
      have tokB := trivial
      go_wp2_with (first
        | ((with_reducible show Calls _ qf _ _ _); refine (HQC.out _ (Ext.keeps (by (repeat (first | exact ext_refl _ | assumption | refine ext_alloc ?_ _ | refine ext_drew ?_ | refine ext_set ?_ (by simp) _ | refine ext_trans ?_ (by assumption)))) _) (Ext.sz (by (repeat (first | exact ext_refl _ | assumption | refine ext_alloc ?_ _ | refine ext_drew ?_ | refine ext_set ?_ (by simp) _ | refine ext_trans ?_ (by assumption)))))).mono ?_; rintro r w2 ⟨pty, px, rfl, hJ, hx2⟩
           have hx3 : Ext wr w2 := ext_trans (by (repeat (first | exact ext_refl _ | assumption | refine ext_alloc ?_ _ | refine ext_drew ?_ | refine ext_set ?_ (by simp) _ | refine ext_trans ?_ (by assumption)))) hx2
           have hJ := hJ.to (S' := fun b => wr.heap.size ≤ b) (fun b hb _ => by (try simp at hb); omega)
           have hxn : Ext w2 (w2.alloc (.cells #[.iface pty px] 20)) := ext_alloc (ext_refl _) _
           have hbn : Box (w2.alloc (.cells #[.iface pty px] 20)) w2.heap.size #[.iface pty px] 20 := Box.at rfl _ _
           have HJ := Lib.hid (hJ.ext hxn)
           clear hJ)
        | (at_builtin; have _t := tokB; clear _t tokB; refine list_append_any _ rfl _ _ rfl (w.alloc (.map #[] 0)).heap.size vv us rfl (HO.out.ext (ext_trans hx3 hxn)) w2.heap.size 0 1 [.iface pty px] (by simp) (fun u hu => by simp at hu; subst hu; rfl) rfl (fun i f hf => by
             cases i with
             | zero => simp at hf; subst hf; exact hbn.cell 0 _ rfl
             | succ i => simp at hf) (by have := HUL.out; simp; omega) (by have := (ext_trans hx3 hxn).sz; omega) ?_; intro g cap w4 hown hgrow hlies hglt)
        | fail)
      have hszn := (ext_trans hx3 hxn).sz
      have hblk : ∀ k, vv.ownBlock = some k → (w.alloc (.map #[] 0)).heap.size ≤ k ∧ k < wr.heap.size := fun k hk => World.ownsRow.lt HO.out k hk
      have hx5 : Ext (w.alloc (.map #[] 0)) w4 := ext_grown (ext_trans hxr (ext_trans hx3 hxn)) hgrow (fun k hk => (hblk k hk).1)
      have hne : ∀ b, ((w.alloc (.map #[] 0)).heap.size ≤ b ∧ vv.ownBlock ≠ some b) → b < (w2.alloc (.cells #[.iface pty px] 20)).heap.size → (w.alloc (.map #[] 0)).heap.size ≤ b ∧ (Value.slice (some ⟨g, 0, none⟩) (us.length + 1) cap).ownBlock ≠ some b := fun b hb hl => ⟨hb.1, fun e => by
        simp only [Value.ownBlock, Option.some.injEq] at e
        subst e
        rcases hlies with hl2 | hl2
        · exact hb.2 hl2
        · omega⟩
      have hkp : Keeps (fun b => (w.alloc (.map #[] 0)).heap.size ≤ b ∧ vv.ownBlock ≠ some b) (w2.alloc (.cells #[.iface pty px] 20)) w4 := keeps_grown hgrow (fun b hb e => hb.2 e.symm)
      have hV5 := Lib.hid (JsAt.snoc (JsAt.keep hne hkp _ (HV.out.ext (ext_trans hx3 hxn))) (JAt.keep hne hkp _ (HJ.out.to (S' := fun b => (w.alloc (.map #[] 0)).heap.size ≤ b ∧ vv.ownBlock ≠ some b) (fun b hb _ => ⟨by omega, fun e => by have := (hblk b e).2; omega⟩))))
      have hown2 := Lib.hid hown
      clear hown hgrow hlies hne hkp hblk
      go_roundw
      case rel =>
        refine ⟨hx5, j + 1, us ++ [.iface pty px], _, rfl, by omega, by go_num, by simp [HUL.out], by simpa using hown2.out, ?_, ?_⟩
        · intro x hx
          rcases List.mem_append.1 hx with hx | hx
          · exact H1.out x hx
          · simp at hx; subst hx; rfl
        · rw [take_snoc HT.out]
          exact hV5.out
      case measure => simp [intOf]; omega
    have hfull : u.take j = u := List.take_of_length_le (by have h2 := HVG.out.1; have h3 := HVL.out; omega)
    have hulen : u.length = us.length := by have h2 := HVG.out.1; have h3 := HVL.out; have h4 := HUL.out; omega
    have hV := HV.out
    rw [hfull] at hV
    obtain ⟨la, lc, rfl, hq1, hq2, hq3⟩ := HO.out.cells (S := fun b => (w.alloc (.map #[] 0)).heap.size ≤ b) (fun b hb => (World.ownsRow.lt HO.out b hb).1)
    have hJl : JAt (fun b => (w.alloc (.map #[] 0)).heap.size ≤ b) wr (.iface 100 (.slice la us.length lc)) (.list u) := by
      simp only [JAt]
      exact ⟨_, _, _, us, rfl, by have := HUL.out; omega, hulen, hq1, hq2, hq3, JsAt.keep (fun b hb _ => hb.1) (fun _ _ _ => rfl) _ hV⟩
    clear hq3 hV HO HV H1
    have hxu : Ext w wr := ext_trans (ext_alloc (ext_refl _) _) hxr
    have hl0_u : MapAt wr w.heap.size [] := MapAt.ext (MapAt.at (by simp)) hxr
    have hs0_u := hl0_u.lt
    have HJu := Lib.hid (hJl.to (S' := (fun b => w.heap.size < b)) (fun b hb _ => by (try simp at hb); omega))
    have hbu := hbq.ext hxu
    have hc0 := hbu.cell 0 _ rfl
    have hc1 := hbu.cell 1 _ rfl
    have hc2 := hbu.cell 2 _ rfl
    have hc3 := hbu.cell 3 _ rfl
    clear hJl hxr
    go_upto_if 43 with (first
      | (at_mapUpdate; have _t := tok0; refine wp_put _ rfl _ _ _ 79 rfl 20 Tryz.underlying79 w.heap.size [] rfl (hl0_u) (by simp [maxLen]) s_intervals rfl (by decide) _ rfl ?_; intro w1 hm hg; clear tok0
         have hx1 : Ext w w1 := ext_put (hxu) hg (by omega)
         have hl0_1 := hm
         have hs0_1 := hl0_1.lt
         have HJu := Lib.hid (JAt.keep (S' := (fun b => w.heap.size < b)) (fun _ h _ => h) (keeps_grown hg (fun b hb e => by simp only [Option.some.injEq] at e; omega)) _ HJu.out)
         have hb1 := hbq.ext hx1
         have hc0 := hb1.cell 0 _ rfl
         have hc1 := hb1.cell 1 _ rfl
         have hc2 := hb1.cell 2 _ rfl
         have hc3 := hb1.cell 3 _ rfl
         clear hg hm)
      | fail)
    have hx0 : Ext w w1 := hx1
    have hm0 : MapAt w1 w.heap.size [(s_intervals, .iface 100 (.slice la us.length lc))] := hl0_1
    have hz0 := hm0.lt
    have hw0 : w.heap.size ≤ w.heap.size := by have := hx0.sz; omega
    have hp0 : PJ (fun b => w.heap.size < b) w1 [(s_intervals, .iface 100 (.slice la us.length lc))] ([(s_intervals, J.list u)]) := ⟨rfl, by simp only [List.map_cons, List.map_nil, JsAt]; exact ⟨HJu.out, trivial⟩⟩
    go_cut [] (fun wc => Ext w wc ∧ ∃ rp, rp.length ≤ 2 ∧ MapAt wc w.heap.size rp ∧ PJ (fun b => w.heap.size < b) wc rp ([(s_intervals, J.list u)] ++ jY s_ordered (o2)))
    case first =>
      cases o2 with
      | none =>
        have hv : v2 = none := H2.out
        subst hv
        go_wp2_with fail
        go_meet
        case rel =>
          refine ⟨hx0, [(s_intervals, .iface 100 (.slice la us.length lc))], by simp, hm0, ?_⟩
          rw [show jY s_ordered none = [] from rfl, List.append_nil]
          exact hp0
      | some t2 =>
        obtain ⟨cc, hv, hSc, hcc⟩ := H2.out
        subst hv
        have hcc := hx0.cell hcc
        go_wp2_with (at_mapUpdate; refine wp_put _ rfl _ _ _ 79 rfl 20 Tryz.underlying79 w.heap.size [(s_intervals, .iface 100 (.slice la us.length lc))] rfl hm0 (by simp [maxLen]) s_ordered rfl (by decide) _ rfl ?_; intro wn hnn hgn)
        go_meet
        case rel =>
          have hxn := ext_put hx0 hgn (by omega)
          refine ⟨hxn, _, ?_, hnn, ?_⟩
          · rw [List.length_append]; exact Nat.succ_le_succ (by simp)
          · rw [show jY s_ordered (some t2) = [(s_ordered, .yes t2.yes)] from rfl]
            exact PJ.snoc (hp0.keep (fun _ h _ => h) (keeps_grown hgn (fun b hb e => by simp only [Option.some.injEq] at e; omega))) (by simp only [JAt]; rfl)
    case rest =>
      obtain ⟨hxc, rp, hr, hnc, hpc⟩ := hcut
      have hbc := hbq.ext hxc
      have hc0 := hbc.cell 0 _ rfl
      have hc1 := hbc.cell 1 _ rfl
      have hc2 := hbc.cell 2 _ rfl
      have hc3 := hbc.cell 3 _ rfl
      go_upto_if 56 with fail
      go_cut [] (fun wc => Ext w wc ∧ ∃ rp, rp.length ≤ 3 ∧ MapAt wc w.heap.size rp ∧ PJ (fun b => w.heap.size < b) wc rp ([(s_intervals, J.list u)] ++ jY s_ordered (o2) ++ jW s_max_gaps (o1)))
      case first =>
        cases o1 with
        | none =>
          have hv : v1 = none := H1.out
          subst hv
          go_wp2_with fail
          go_meet
          case rel =>
            refine ⟨hxc, rp, Nat.le_succ_of_le hr, hnc, ?_⟩
            rw [show jW s_max_gaps none = [] from rfl, List.append_nil]
            exact hpc
        | some t1 =>
          obtain ⟨cc, z1, hv, hSc, hcc, hzz⟩ := H1.out
          subst hv
          have hcc := hxc.cell hcc
          go_wp2_with (at_mapUpdate; refine wp_put _ rfl _ _ _ 79 rfl 20 Tryz.underlying79 w.heap.size rp rfl hnc (Nat.lt_of_le_of_lt hr (by decide)) s_max_gaps rfl (by decide) _ rfl ?_; intro wn hnn hgn)
          go_meet
          case rel =>
            have hxn := ext_put hxc hgn (by omega)
            refine ⟨hxn, _, ?_, hnn, ?_⟩
            · rw [List.length_append]; exact Nat.succ_le_succ (by exact hr)
            · rw [show jW s_max_gaps (some t1) = [(s_max_gaps, .int z1)] from jW_some hzz]
              exact PJ.snoc (hpc.keep (fun _ h _ => h) (keeps_grown hgn (fun b hb e => by simp only [Option.some.injEq] at e; omega))) (by simp only [JAt]; rfl)
      case rest =>
        obtain ⟨hxc, rp, hr, hnc, hpc⟩ := hcut
        have hbc := hbq.ext hxc
        have hc0 := hbc.cell 0 _ rfl
        have hc1 := hbc.cell 1 _ rfl
        have hc2 := hbc.cell 2 _ rfl
        have hc3 := hbc.cell 3 _ rfl
        go_upto_if 69 with fail
        go_cut [] (fun wc => Ext w wc ∧ ∃ rp, rp.length ≤ 4 ∧ MapAt wc w.heap.size rp ∧ PJ (fun b => w.heap.size < b) wc rp ([(s_intervals, J.list u)] ++ jY s_ordered (o2) ++ jW s_max_gaps (o1) ++ jF s_filter (o3)))
        case first =>
          cases o3 with
          | none =>
            have hv : v3 = none := H3.out
            subst hv
            go_wp2_with fail
            go_meet
            case rel =>
              refine ⟨hxc, rp, Nat.le_succ_of_le hr, hnc, ?_⟩
              rw [show jF s_filter none = [] from rfl, List.append_nil]
              exact hpc
          | some jf =>
            obtain ⟨fb, hv, hFC⟩ := H3.out
            subst hv
            have HFC := Lib.hid hFC
            clear hFC
            have hsn := hnc.lt
            go_wp2_with (first
              | (go_at_call 141; refine (HFC.out _ (Ext.keeps (ext_trans hxc (by (repeat (first | exact ext_refl _ | assumption | refine ext_alloc ?_ _ | refine ext_drew ?_ | refine ext_set ?_ (by simp) _ | refine ext_trans ?_ (by assumption))))) _) (Ext.sz (ext_trans hxc (by (repeat (first | exact ext_refl _ | assumption | refine ext_alloc ?_ _ | refine ext_drew ?_ | refine ext_set ?_ (by simp) _ | refine ext_trans ?_ (by assumption))))))).mono ?_; rintro r ws ⟨jty, jx, rfl, hJs, hxs⟩
                 have hxt : Ext w ws := ext_trans hxc (ext_trans (by (repeat (first | exact ext_refl _ | assumption | refine ext_alloc ?_ _ | refine ext_drew ?_ | refine ext_set ?_ (by simp) _ | refine ext_trans ?_ (by assumption)))) hxs)
                 have hnt := MapAt.ext hnc (ext_trans (by (repeat (first | exact ext_refl _ | assumption | refine ext_alloc ?_ _ | refine ext_drew ?_ | refine ext_set ?_ (by simp) _ | refine ext_trans ?_ (by assumption)))) hxs)
                 have hpt := hpc.keep (S' := (fun b => w.heap.size < b)) (fun _ h _ => h) (Ext.keeps (ext_trans (by (repeat (first | exact ext_refl _ | assumption | refine ext_alloc ?_ _ | refine ext_drew ?_ | refine ext_set ?_ (by simp) _ | refine ext_trans ?_ (by assumption)))) hxs) _)
                 have hJs := hJs.to (S' := (fun b => w.heap.size < b)) (fun b hb _ => by (try simp at hb); omega)
                 have hbs := hbq.ext hxt
                 have hc0 := hbs.cell 0 _ rfl
                 have hc1 := hbs.cell 1 _ rfl
                 have hc2 := hbs.cell 2 _ rfl
                 have hc3 := hbs.cell 3 _ rfl)
              | (at_mapUpdate; refine wp_put _ rfl _ _ _ 79 rfl 20 Tryz.underlying79 w.heap.size rp rfl hnt (Nat.lt_of_le_of_lt hr (by decide)) s_filter rfl (by decide) _ rfl ?_; intro wn hnn hgn)
              | fail)
            go_meet
            case rel =>
              have hxn := ext_put hxt hgn (by omega)
              refine ⟨hxn, _, ?_, hnn, ?_⟩
              · rw [List.length_append]; exact Nat.succ_le_succ (by exact hr)
              · rw [show jF s_filter (some jf) = [(s_filter, jf)] from rfl]
                have hk9 : Keeps (fun b => w.heap.size < b) ws wn := keeps_grown hgn (fun b hb e => by simp only [Option.some.injEq] at e; omega)
                exact PJ.snoc (hpt.keep (fun _ h _ => h) hk9) (JAt.keep (fun _ h _ => h) hk9 _ hJs)
        case rest =>
          obtain ⟨hxc, rp, hr, hnc, hpc⟩ := hcut
          have hbc := hbq.ext hxc
          have hc0 := hbc.cell 0 _ rfl
          have hc1 := hbc.cell 1 _ rfl
          have hc2 := hbc.cell 2 _ rfl
          have hc3 := hbc.cell 3 _ rfl
          have hncl := hnc.lt
          have hszc := hxc.sz
          have hja := (hpc.keep (S' := fun b => w.heap.size ≤ b) (fun b hb _ => Nat.le_of_lt hb) (fun _ _ _ => rfl)).map hnc (Nat.le_refl _) (by have := hpc.len; omega)
          go_wp2_with (first
            | (refine wp_ins _ rfl _ _ _ 79 rfl 20 Tryz.underlying79 wc.heap.size [] rfl (MapAt.at rfl) (by simp [maxLen]) s_all_of rfl (by decide) (.iface 79 (.map (some w.heap.size))) rfl ?_; intro wn hnn hgn)
            | fail)
          go_ret2
          have hxn := ext_put (ext_alloc hxc _) hgn (by omega)
          refine ⟨_, rfl, ?_, hxn⟩
          exact jMap_one hnn hszc (JAt.keep (fun _ h _ => h) (fun q hq hl => (hgn.block q (by simp; omega) (someNe (by omega))).trans (Below.heap_alloc _ _ _ hl)) _ hja)
theorem m_rAllOf (fuel : Nat) (v : Value) (w : World) : (method (fuel + 1) 119 v "Source").run Tryz.prog w = .ok (139, v) w := by kernel_rfl
end Go.Proofs.YtdjojnlejkljdaaGreat

namespace Go.Proofs.YtdjojnlejkljdaaGreat
open Go.RowKit

set_option maxRecDepth 20000 in
set_option maxHeartbeats 4000000 in
theorem rAllOf_any {S : Nat → Prop} (a : Option Addr) (n c : Nat) (ps : List (ByteArray × T)) (w : World) (e : Rv) (hW1 : WholeAt ps s_max_gaps) (ns : List ByteArray) (js : List J) (hjl : js.length = e.vn) (hSV : ∀ w1, Ext w w1 → Calls Tryz.prog 73 #[.slice e.va e.vn e.vc] w1 fun r w2 => ∃ b, r = .returned (.pointer (some ⟨b, 0, none⟩)) ∧ FilO (fun b => w1.heap.size ≤ b) w2 (some ⟨b, 0, none⟩) (some (jMap (jFilter (ns.zip js)))) ∧ Ext w1 w2) (u : List J) (hub : e.kn ≤ 2147483647) (hRU : ∀ w1, Ext w w1 → Calls Tryz.prog 71 #[.slice e.ka e.kn e.kc] w1 fun r w2 => ∃ ua uc, r = .returned (.slice ua e.kn uc) ∧ QsAt (fun b => w1.heap.size ≤ b) w2 ua e.kn uc u ∧ Ext w1 w2) (h : PairsAt S w a n c ps) :
    Calls Tryz.prog 36 #[e.val, .slice a n c] w fun r w' => ∃ q, r = .returned q ∧ Gives (fun b => w.heap.size ≤ b) w' q (jMap [(s_all_of, jMap ([(s_intervals, J.list u)] ++ jY s_ordered (lastOf ps s_ordered) ++ jW s_max_gaps (lastOf ps s_max_gaps) ++ jF s_filter (filO ns js)))]) ∧ Ext w w' := by
  obtain ⟨hl, hn, hm, hc⟩ := h
  unfold maxLen at hm
  have HL := Lib.hid hl
  clear hl
  have HW1 := Lib.hid hW1
  clear hW1
  have HSV := Lib.hid hSV
  have HJL := Lib.hid hjl
  clear hSV hjl
  have HRU := Lib.hid hRU
  clear hRU
  simp only [Rv.val]
  go_enter Tryz.func36, Tryz.ntmps36
  have hxa : Ext w (w.alloc (.cells e.arr 29)) := ext_alloc (ext_refl _) _
  have hka : Box (w.alloc (.cells e.arr 29)) w.heap.size e.arr 29 := Box.at rfl _ _
  go_upto_if 15 with (first
    | (go_at_call 71; refine (HRU.out _ hxa).mono ?_; rintro r w2 ⟨ua, uc, rfl, hQ, hx2⟩
       have hk2 := hka.ext hx2
       have k4a := hk2.cell 4 _ rfl
       have hkl := hk2.lt)
    | go_in)
  have hx3 : Ext w (w2.alloc (.cells #[.slice ua e.kn uc, .pointer none, .pointer none, .pointer none] 148)) := ext_alloc (ext_trans hxa hx2) _
  have hk3 : Box (w2.alloc (.cells #[.slice ua e.kn uc, .pointer none, .pointer none, .pointer none] 148)) w.heap.size e.arr 29 := (hka.ext hx2).alloc _
  have hsa := hx2.sz
  simp at hsa
  have hq3 := QsAt.keep (S' := fun q => q ≠ w2.heap.size ∧ w.heap.size ≤ q) hQ (fun q hq hl => by simp at hq; omega) (Ext.keeps (ext_alloc (ext_refl _) (.cells #[.slice ua e.kn uc, .pointer none, .pointer none, .pointer none] 148)) _) (by simp)
  generalize hbqe : w2.heap.size = bq at hq3 ⊢
  have hb3 : Box (w2.alloc (.cells #[.slice ua e.kn uc, .pointer none, .pointer none, .pointer none] 148)) bq #[.slice ua e.kn uc, .pointer none, .pointer none, .pointer none] 148 := Box.at hbqe _ _
  have hbw : w.heap.size < bq := by omega
  generalize hWW : (w2.alloc (.cells #[.slice ua e.kn uc, .pointer none, .pointer none, .pointer none] 148)) = w0
  have hWW2 : (w2.alloc (.cells #[.slice ua e.kn uc, .pointer none, .pointer none, .pointer none] 148)) = w0 := hWW
  rw [hWW2] at hx3 hk3 hb3 hq3
  clear hWW hWW2
  have hbl := hb3.lt
  have k4 := hk3.cell 4 _ rfl
  have c3 := hb3.cell 3 _ rfl
  have f3 := hb3.free 3
  go_cut [] (fun wc => Ext w wc ∧ bq + 1 ≤ wc.heap.size ∧ Box wc w.heap.size e.arr 29 ∧ ∃ v3, Box wc bq #[.slice ua e.kn uc, .pointer none, .pointer none, .pointer v3] 148 ∧ FilO (fun q => q ≠ bq ∧ w.heap.size ≤ q) wc v3 (filO ns js) ∧ QsAt (fun q => q ≠ bq ∧ w.heap.size ≤ q) wc ua e.kn uc u)
  case first =>
    by_cases hvp : 0 < e.vn
    · go_wp2_with (first
        | (go_at_call 73; refine (HSV.out _ hx3).mono ?_; rintro r w5 ⟨fb, rfl, hFb, hx5⟩
           have hb5 := hb3.ext hx5
           have c3 := hb5.cell 3 _ rfl
           have f3 := hb5.free 3
           have hbl5 := hb5.lt)
        | go_in
        | fail)
      go_meet
      case rel =>
        have hkk : Keeps (fun q => q ≠ bq ∧ w.heap.size ≤ q) w5 (w5.setCell ⟨bq, 3, none⟩ (.pointer (some ⟨fb, 0, none⟩))) := fun q hq _ => Below.heap_setCell _ _ _ _ hq.1
        refine ⟨ext_set (ext_trans hx3 hx5) (by simp <;> omega) _, by simp <;> omega, (hk3.ext hx5).other (by simp <;> omega) _, _, hb5.set 3 _, ?_, ?_⟩
        rotate_left
        · exact QsAt.keep (QsAt.ext hq3 hx5) (fun _ h _ => h) hkk (by simp)
        have hne : js.isEmpty = false := by
          cases js with
          | nil => have := HJL.out; simp at this; omega
          | cons _ _ => rfl
        rw [show filO ns js = some (jMap (jFilter (ns.zip js))) by unfold filO; rw [hne]; rfl]
        exact FilO.keep (S := fun q => q ≠ bq ∧ w.heap.size ≤ q) (hFb.keep (S' := fun q => q ≠ bq ∧ w.heap.size ≤ q) (fun q hq _ => by omega) (fun _ _ _ => rfl) (Nat.le_refl _)) (fun _ h _ => h) hkk (by simp)
    · go_wp2_with fail
      go_meet
      case rel =>
        have hne : js = [] := List.length_eq_zero_iff.1 (by have := HJL.out; omega)
        exact ⟨hx3, by omega, hk3, _, hb3, by rw [hne]; exact rfl, hq3⟩
  case rest =>
    obtain ⟨hxs, hss, hb0s, v3, hbs, hfi, hqs⟩ := hcut
    go_wp2_with fail
    go_loopw [23] (fun i wr => Ext w wr ∧ (bq + 1) ≤ wr.heap.size ∧ Box wr w.heap.size e.arr 29 ∧ ∃ (j : Nat) (v1 : Option Addr) (v2 : Option Addr), j ≤ n ∧ i = .int .i64 j ∧ Box wr bq #[.slice ua e.kn uc, .pointer v1, .pointer v2, .pointer v3] 148 ∧ FW (fun q => q ≠ bq ∧ w.heap.size ≤ q) wr v1 (lastOf (ps.take j) s_max_gaps) ∧ FY (fun q => q ≠ bq ∧ w.heap.size ≤ q) wr v2 (lastOf (ps.take j) s_ordered) ∧ FilO (fun q => q ≠ bq ∧ w.heap.size ≤ q) wr v3 (filO ns js) ∧ QsAt (fun q => q ≠ bq ∧ w.heap.size ≤ q) wr ua e.kn uc u) (fun i _ => n - (intOf i).toNat)
    case atStart => exact ⟨hxs, by omega, hb0s, 0, _, _, Nat.zero_le _, rfl, hbs, rfl, rfl, hfi, hqs⟩
    case round =>
      obtain ⟨hx, hsz, hb0, j, v1, v2, hj, rfl, hbq, h1, h2, hfi, hqs⟩ := hrel
      have H1 := Lib.hid h1
      have H2 := Lib.hid h2
      have Hfi := Lib.hid hfi
      clear hfi
      have Hqs := Lib.hid hqs
      clear hqs
      clear h1 h2
      have hbql := hbq.lt
      by_cases hlt : j < n
      · obtain ⟨p, hp⟩ := some_of_lt HL.out hlt
        obtain ⟨b, off, ⟨k, x, d, y, ka, kn, kc, ca, m, cc⟩, rfl, hSb, hc7, hT⟩ := hc j p hp
        obtain ⟨z0, z1, z2, z3, z4, z5, z6⟩ := Cells7.ext hx hc7
        have HP := Lib.hid hp
        have hl0 : w.heap.size < wr.heap.size := by omega
        have hl1 : ¬ w.heap.size = wr.heap.size := by omega
        have hl2 : bq < wr.heap.size + 1 := by omega
        have hTx := Lib.hid hT.parts.2.1
        have hTd := Lib.hid hT.parts.2.2.1
        have hTy := Lib.hid hT.parts.2.2.2.1
        clear hp
        have hc0 := hbq.cell 0 _ rfl
        have hf0 := hbq.free 0
        have hc1 := hbq.cell 1 _ rfl
        have hf1 := hbq.free 1
        have hc2 := hbq.cell 2 _ rfl
        have hf2 := hbq.free 2
        have hc3 := hbq.cell 3 _ rfl
        have hf3 := hbq.free 3
        cases he0 : p.1.toList == [109, 97, 120, 95, 103, 97, 112, 115]
        · have e0 : seq p.1 s_max_gaps = false := by rw [seq, show s_max_gaps.toList = [109, 97, 120, 95, 103, 97, 112, 115] by rw [Lib.toList_data]]; exact he0
          cases he1 : p.1.toList == [111, 114, 100, 101, 114, 101, 100]
          · have e1 : seq p.1 s_ordered = false := by rw [seq, show s_ordered.toList = [111, 114, 100, 101, 114, 101, 100] by rw [Lib.toList_data]]; exact he1
            go_wp2_with go_in
            go_roundw
            case rel =>
              have hy := ext_alloc (ext_refl wr) (.cells #[.string p.1, .int .i64 k, .string x, .float .f64 d, .bool y, .slice ka kn kc, .slice ca m cc] 73)
              exact ⟨ext_trans hx hy, Nat.le_trans hsz hy.sz, hb0.ext hy, j + 1, v1, v2, by omega, by go_num, hbq.ext hy, by rw [last_miss HP.out e0]; exact FW.ext hy H1.out, by rw [last_miss HP.out e1]; exact FY.ext hy H2.out, FilO.ext Hfi.out hy, QsAt.ext Hqs.out hy⟩
            case measure => simp [intOf]; omega
          · have e1 : seq p.1 s_ordered = true := by rw [seq, show s_ordered.toList = [111, 114, 100, 101, 114, 101, 100] by rw [Lib.toList_data]]; exact he1
            go_wp2_with go_in
            go_roundw
            case rel =>
              have hk : Keeps (fun q => q ≠ bq ∧ w.heap.size ≤ q) wr (((wr.setCell ⟨bq, 2, none⟩ (.pointer (some ⟨wr.heap.size + 1, 0, none⟩))).alloc (.cells #[.string p.1, .int .i64 k, .string x, .float .f64 d, .bool y, .slice ka kn kc, .slice ca m cc] 73)).alloc (.cells #[.bool y] 4)) := fun q hq hlt => (Below.heap_alloc _ _ _ (by simp <;> omega)).trans ((Below.heap_alloc _ _ _ (by simpa using hlt)).trans (Below.heap_setCell _ _ _ _ (by simp <;> omega)))
              have hnew : (((wr.setCell ⟨bq, 2, none⟩ (.pointer (some ⟨wr.heap.size + 1, 0, none⟩))).alloc (.cells #[.string p.1, .int .i64 k, .string x, .float .f64 d, .bool y, .slice ka kn kc, .slice ca m cc] 73)).alloc (.cells #[.bool y] 4)).cell? ⟨wr.heap.size + 1, 0, none⟩ = some (.bool y) := (Box.at (by simp) _ _).cell 0 _ rfl
              exact ⟨ext_alloc (ext_alloc (ext_set hx (by simp <;> omega) _) _) _, by simp; omega, ((hb0.other (by simp <;> omega) _).alloc _).alloc _, j + 1, v1, some ⟨wr.heap.size + 1, 0, none⟩, by omega, by go_num, ((hbq.set 2 _).alloc _).alloc _, by rw [last_other HP.out e1 (seq_false.2 (by decide))]; exact FW.keep (fun _ h _ => h) hk H1.out, by rw [last_hit HP.out e1]; exact ⟨wr.heap.size + 1, rfl, by omega, by rw [← hTy.out]; exact hnew⟩, FilO.keep Hfi.out (fun _ h _ => h) hk (by simp <;> omega), QsAt.keep Hqs.out (fun _ h _ => h) hk (by simp <;> omega)⟩
            case measure => simp [intOf]; omega
        · have e0 : seq p.1 s_max_gaps = true := by rw [seq, show s_max_gaps.toList = [109, 97, 120, 95, 103, 97, 112, 115] by rw [Lib.toList_data]]; exact he0
          obtain ⟨z, hz, -⟩ := HW1.out p (List.mem_of_getElem? HP.out) e0
          have hcv : ∀ w, (convert 32 3 (.float .f64 d)).run Tryz.prog w = .ok (.int .i64 z) w := fun w => run_convert_float_int w 32 3 .f64 .i64 d z (by rw [Tryz.underlying32]; rfl) Tryz.underlying3 (show floatToIntVal .f64 d .i64 = some z from by have h9 : d = p.2.num := hTd.out; rw [h9]; exact hz)
          have HZ := Lib.hid hz
          clear hz
          go_wp2_with go_in
          go_roundw
          case rel =>
            have hk : Keeps (fun q => q ≠ bq ∧ w.heap.size ≤ q) wr (((wr.setCell ⟨bq, 1, none⟩ (.pointer (some ⟨wr.heap.size + 1, 0, none⟩))).alloc (.cells #[.string p.1, .int .i64 k, .string x, .float .f64 d, .bool y, .slice ka kn kc, .slice ca m cc] 73)).alloc (.cells #[.int .i64 z] 3)) := fun q hq hlt => (Below.heap_alloc _ _ _ (by simp <;> omega)).trans ((Below.heap_alloc _ _ _ (by simpa using hlt)).trans (Below.heap_setCell _ _ _ _ (by simp <;> omega)))
            have hnew : (((wr.setCell ⟨bq, 1, none⟩ (.pointer (some ⟨wr.heap.size + 1, 0, none⟩))).alloc (.cells #[.string p.1, .int .i64 k, .string x, .float .f64 d, .bool y, .slice ka kn kc, .slice ca m cc] 73)).alloc (.cells #[.int .i64 z] 3)).cell? ⟨wr.heap.size + 1, 0, none⟩ = some (.int .i64 z) := (Box.at (by simp) _ _).cell 0 _ rfl
            exact ⟨ext_alloc (ext_alloc (ext_set hx (by simp <;> omega) _) _) _, by simp; omega, ((hb0.other (by simp <;> omega) _).alloc _).alloc _, j + 1, some ⟨wr.heap.size + 1, 0, none⟩, v2, by omega, by go_num, ((hbq.set 1 _).alloc _).alloc _, by rw [last_hit HP.out e0]; exact ⟨wr.heap.size + 1, z, rfl, by omega, hnew, HZ.out⟩, by rw [last_other HP.out e0 (seq_false.2 (by decide))]; exact FY.keep (fun _ h _ => h) hk H2.out, FilO.keep Hfi.out (fun _ h _ => h) hk (by simp <;> omega), QsAt.keep Hqs.out (fun _ h _ => h) hk (by simp <;> omega)⟩
          case measure => simp [intOf]; omega
      · have hjn : j = n := by omega
        have hfull : ps.take j = ps := List.take_of_length_le (by have := HL.out; omega)
        rw [hfull] at H1 H2
        go_wp2_with fail
        go_ret
        refine ⟨_, rfl, ⟨_, _, _, rfl, fun fuel w' => m_rAllOf fuel _ w', fun w' => by kernel_rfl, fun w' k hs => ?_⟩, hx⟩
        have hbq' : Box w' bq #[.slice ua e.kn uc, .pointer v1, .pointer v2, .pointer v3] 148 := (k _ (by omega) hbq.lt).trans hbq
        refine (rAllOf_src (S := fun q => q ≠ bq ∧ w.heap.size ≤ q) w' bq _ _ _ _ (QsAt.keep Hqs.out (fun _ h _ => h) (fun q hq hl => k q hq.2 hl) hs) hub v1 _ (FW.keep (fun _ h _ => h) (fun q hq hl => k q hq.2 hl) H1.out) v2 _ (FY.keep (fun _ h _ => h) (fun q hq hl => k q hq.2 hl) H2.out) v3 _ (FilO.keep Hfi.out (fun _ h _ => h) (fun q hq hl => k q hq.2 hl) hs) hbq').mono ?_
        rintro r w'' ⟨v, rfl, hJ, hx'⟩
        obtain ⟨vx, rfl⟩ := jMap_iface hJ
        exact ⟨_, _, rfl, hJ, hx'⟩
end Go.Proofs.YtdjojnlejkljdaaGreat

