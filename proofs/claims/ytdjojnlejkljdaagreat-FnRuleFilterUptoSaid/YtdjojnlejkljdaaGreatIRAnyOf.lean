/-
  What the thin package makes of a rule of intervals (RAnyOf).
-/
import Derived.Test.YtdjojnlejkljdaaGreatRu
import Derived.Test.YtdjojnlejkljdaaGreatAny
namespace Go.Proofs.YtdjojnlejkljdaaGreat
open Go.RowKit

set_option maxRecDepth 20000 in
set_option maxHeartbeats 4000000 in
theorem rAnyOf_src {S : Nat → Prop} (w : World) (bq : Nat) (ua : Option Addr) (un uc : Nat) (u : List J) (hu : QsAt S w ua un uc u) (hub : un ≤ 2147483647) (v1 : Option Addr) (o1 : Option J) (h1 : FilO S w v1 o1) (hbq : Box w bq #[.slice ua un uc, .pointer v1] 152) :
    Calls Tryz.prog 145 #[.pointer (some ⟨bq, 0, none⟩)] w fun r w' => ∃ v, r = .returned (.tuple #[v, .nilIface]) ∧ JAt (fun b => w.heap.size ≤ b) w' v (jMap [(s_any_of, jMap ([(s_intervals, J.list u)] ++ jF s_filter (o1)))]) ∧ Ext w w' := by
  have tok0 := trivial
  have hblt := hbq.lt
  have H1 := Lib.hid h1
  clear h1
  have Hu := Lib.hid hu
  clear hu
  have hc0 := (hbq.alloc (.map #[] 0)).cell 0 _ rfl
  have hc1 := (hbq.alloc (.map #[] 0)).cell 1 _ rfl
  go_enter Tryz.func145, Tryz.ntmps145
  go_wp2_with fail
  obtain ⟨qvs, hvl, hvc, hvm, hvcell, hvG⟩ := Hu.out.ext (show Ext w (w.alloc (.map #[] 0)) from ext_alloc (ext_refl _) _)
  have HVL := Lib.hid hvl
  have HVC := Lib.hid hvcell
  have HVG := Lib.hid hvG
  clear hvl hvcell hvG
  go_loopw [5, 18] (fun v i wr => Ext (w.alloc (.map #[] 0)) wr ∧ ∃ (j : Nat) (us : List Value) (vv : Value), vv = v ∧ j ≤ un ∧ i = .int .i64 j ∧ us.length = j ∧ OwnAny wr (w.alloc (.map #[] 0)).heap.size vv us ∧ (∀ x ∈ us, x.oneCell' = true) ∧ JsAt (fun b => (w.alloc (.map #[] 0)).heap.size ≤ b ∧ vv.ownBlock ≠ some b) wr us (u.take j)) (fun _ i _ => un - (intOf i).toNat)
  case atStart => exact ⟨ext_refl _, 0, [], _, rfl, Nat.zero_le _, rfl, rfl, ⟨rfl, .inl ⟨rfl, rfl⟩⟩, fun x hx => by simp at hx, by simp [JsAt]⟩
  case round =>
    obtain ⟨hxr, j, us, vv, hve, hj, rfl, hul, hO, h1, hV⟩ := hrel
    subst hve
    have HO := Lib.hid hO
    have HV := Lib.hid hV
    have HUL := Lib.hid hul
    have H1 := Lib.hid h1
    clear hO hV hul h1
    by_cases hlt : j < un
    case pos =>
      obtain ⟨qq, hqq⟩ := some_of_lt HVL.out hlt
      obtain ⟨jj, hjj⟩ := some_of_lt (l := u) rfl (show j < u.length by have h2 := HVG.out.1; have h3 := HVL.out; omega)
      obtain ⟨qb, qo, hqa, -, hqc⟩ := HVC.out j qq hqq
      have hqc := hxr.cell hqc
      obtain ⟨qty, qx, qf, hqe, hqm, hqm2, hqC⟩ := (HVG.out.2 j qq jj hqq hjj).ext hxr
      have HT := Lib.hid hjj
      have HQC := Lib.hid hqC
      clear hqC hjj hqq
      subst hqe hqa
      have hszr := hxr.sz
      have tokB := trivial
      go_wp2_with (first
        | ((with_reducible show Calls _ qf _ _ _); refine (HQC.out _ (Ext.keeps (by (repeat (first | exact ext_refl _ | assumption | refine ext_alloc ?_ _ | refine ext_drew ?_ | refine ext_set ?_ (by simp) _ | refine ext_trans ?_ (by assumption)))) _) (Ext.sz (by (repeat (first | exact ext_refl _ | assumption | refine ext_alloc ?_ _ | refine ext_drew ?_ | refine ext_set ?_ (by simp) _ | refine ext_trans ?_ (by assumption)))))).mono ?_; rintro r w2 ⟨pty, px, rfl, hJ, hx2⟩
           have hx3 : Ext wr w2 := ext_trans (by (repeat (first | exact ext_refl _ | assumption | refine ext_alloc ?_ _ | refine ext_drew ?_ | refine ext_set ?_ (by simp) _ | refine ext_trans ?_ (by assumption)))) hx2
           have hJ := hJ.to (S' := fun b => wr.heap.size ≤ b) (fun b hb _ => by (try simp at hb); omega)
           have hxn : Ext w2 (w2.alloc (.cells #[.iface pty px] 20)) := ext_alloc (ext_refl _) _
           have hbn : Box (w2.alloc (.cells #[.iface pty px] 20)) w2.heap.size #[.iface pty px] 20 := Box.at rfl _ _
           have HJ := Lib.hid (hJ.ext hxn)
           clear hJ)
        | (at_builtin; have _t := tokB; clear _t tokB; refine list_append_any _ rfl _ _ rfl (w.alloc (.map #[] 0)).heap.size vv us rfl (HO.out.ext (ext_trans hx3 hxn)) w2.heap.size 0 1 [.iface pty px] (by simp) (fun u hu => by simp at hu; subst hu; rfl) rfl (fun i f hf => by
             cases i with
             | zero => simp at hf; subst hf; exact hbn.cell 0 _ rfl
             | succ i => simp at hf) (by have := HUL.out; simp; omega) (by have := (ext_trans hx3 hxn).sz; omega) ?_; intro g cap w4 hown hgrow hlies hglt)
        | fail)
      have hszn := (ext_trans hx3 hxn).sz
      have hblk : ∀ k, vv.ownBlock = some k → (w.alloc (.map #[] 0)).heap.size ≤ k ∧ k < wr.heap.size := fun k hk => World.ownsRow.lt HO.out k hk
      have hx5 : Ext (w.alloc (.map #[] 0)) w4 := ext_grown (ext_trans hxr (ext_trans hx3 hxn)) hgrow (fun k hk => (hblk k hk).1)
      have hne : ∀ b, ((w.alloc (.map #[] 0)).heap.size ≤ b ∧ vv.ownBlock ≠ some b) → b < (w2.alloc (.cells #[.iface pty px] 20)).heap.size → (w.alloc (.map #[] 0)).heap.size ≤ b ∧ (Value.slice (some ⟨g, 0, none⟩) (us.length + 1) cap).ownBlock ≠ some b := fun b hb hl => ⟨hb.1, fun e => by
        simp only [Value.ownBlock, Option.some.injEq] at e
        subst e
        rcases hlies with hl2 | hl2
        · exact hb.2 hl2
        · omega⟩
      have hkp : Keeps (fun b => (w.alloc (.map #[] 0)).heap.size ≤ b ∧ vv.ownBlock ≠ some b) (w2.alloc (.cells #[.iface pty px] 20)) w4 := keeps_grown hgrow (fun b hb e => hb.2 e.symm)
      have hV5 := Lib.hid (JsAt.snoc (JsAt.keep hne hkp _ (HV.out.ext (ext_trans hx3 hxn))) (JAt.keep hne hkp _ (HJ.out.to (S' := fun b => (w.alloc (.map #[] 0)).heap.size ≤ b ∧ vv.ownBlock ≠ some b) (fun b hb _ => ⟨by omega, fun e => by have := (hblk b e).2; omega⟩))))
      have hown2 := Lib.hid hown
      clear hown hgrow hlies hne hkp hblk
      go_roundw
      case rel =>
        refine ⟨hx5, j + 1, us ++ [.iface pty px], _, rfl, by omega, by go_num, by simp [HUL.out], by simpa using hown2.out, ?_, ?_⟩
        · intro x hx
          rcases List.mem_append.1 hx with hx | hx
          · exact H1.out x hx
          · simp at hx; subst hx; rfl
        · rw [take_snoc HT.out]
          exact hV5.out
      case measure => simp [intOf]; omega
    have hfull : u.take j = u := List.take_of_length_le (by have h2 := HVG.out.1; have h3 := HVL.out; omega)
    have hulen : u.length = us.length := by have h2 := HVG.out.1; have h3 := HVL.out; have h4 := HUL.out; omega
    have hV := HV.out
    rw [hfull] at hV
    obtain ⟨la, lc, rfl, hq1, hq2, hq3⟩ := HO.out.cells (S := fun b => (w.alloc (.map #[] 0)).heap.size ≤ b) (fun b hb => (World.ownsRow.lt HO.out b hb).1)
    have hJl : JAt (fun b => (w.alloc (.map #[] 0)).heap.size ≤ b) wr (.iface 100 (.slice la us.length lc)) (.list u) := by
      simp only [JAt]
      exact ⟨_, _, _, us, rfl, by have := HUL.out; omega, hulen, hq1, hq2, hq3, JsAt.keep (fun b hb _ => hb.1) (fun _ _ _ => rfl) _ hV⟩
    clear hq3 hV HO HV H1
    have hxu : Ext w wr := ext_trans (ext_alloc (ext_refl _) _) hxr
    have hl0_u : MapAt wr w.heap.size [] := MapAt.ext (MapAt.at (by simp)) hxr
    have hs0_u := hl0_u.lt
    have HJu := Lib.hid (hJl.to (S' := (fun b => w.heap.size < b)) (fun b hb _ => by (try simp at hb); omega))
    have hbu := hbq.ext hxu
    have hc0 := hbu.cell 0 _ rfl
    have hc1 := hbu.cell 1 _ rfl
    clear hJl hxr
    go_upto_if 42 with (first
      | (at_mapUpdate; have _t := tok0; refine wp_put _ rfl _ _ _ 79 rfl 20 Tryz.underlying79 w.heap.size [] rfl (hl0_u) (by simp [maxLen]) s_intervals rfl (by decide) _ rfl ?_; intro w1 hm hg; clear tok0
         have hx1 : Ext w w1 := ext_put (hxu) hg (by omega)
         have hl0_1 := hm
         have hs0_1 := hl0_1.lt
         have HJu := Lib.hid (JAt.keep (S' := (fun b => w.heap.size < b)) (fun _ h _ => h) (keeps_grown hg (fun b hb e => by simp only [Option.some.injEq] at e; omega)) _ HJu.out)
         have hb1 := hbq.ext hx1
         have hc0 := hb1.cell 0 _ rfl
         have hc1 := hb1.cell 1 _ rfl
         clear hg hm)
      | fail)
    have hx0 : Ext w w1 := hx1
    have hm0 : MapAt w1 w.heap.size [(s_intervals, .iface 100 (.slice la us.length lc))] := hl0_1
    have hz0 := hm0.lt
    have hw0 : w.heap.size ≤ w.heap.size := by have := hx0.sz; omega
    have hp0 : PJ (fun b => w.heap.size < b) w1 [(s_intervals, .iface 100 (.slice la us.length lc))] ([(s_intervals, J.list u)]) := ⟨rfl, by simp only [List.map_cons, List.map_nil, JsAt]; exact ⟨HJu.out, trivial⟩⟩
    go_cut [] (fun wc => Ext w wc ∧ ∃ rp, rp.length ≤ 2 ∧ MapAt wc w.heap.size rp ∧ PJ (fun b => w.heap.size < b) wc rp ([(s_intervals, J.list u)] ++ jF s_filter (o1)))
    case first =>
      cases o1 with
      | none =>
        have hv : v1 = none := H1.out
        subst hv
        go_wp2_with fail
        go_meet
        case rel =>
          refine ⟨hx0, [(s_intervals, .iface 100 (.slice la us.length lc))], by simp, hm0, ?_⟩
          rw [show jF s_filter none = [] from rfl, List.append_nil]
          exact hp0
      | some jf =>
        obtain ⟨fb, hv, hFC⟩ := H1.out
        subst hv
        have HFC := Lib.hid hFC
        clear hFC
        have hsn := hm0.lt
        go_wp2_with (first
          | (go_at_call 141; refine (HFC.out _ (Ext.keeps (ext_trans hx0 (by (repeat (first | exact ext_refl _ | assumption | refine ext_alloc ?_ _ | refine ext_drew ?_ | refine ext_set ?_ (by simp) _ | refine ext_trans ?_ (by assumption))))) _) (Ext.sz (ext_trans hx0 (by (repeat (first | exact ext_refl _ | assumption | refine ext_alloc ?_ _ | refine ext_drew ?_ | refine ext_set ?_ (by simp) _ | refine ext_trans ?_ (by assumption))))))).mono ?_; rintro r ws ⟨jty, jx, rfl, hJs, hxs⟩
             have hxt : Ext w ws := ext_trans hx0 (ext_trans (by (repeat (first | exact ext_refl _ | assumption | refine ext_alloc ?_ _ | refine ext_drew ?_ | refine ext_set ?_ (by simp) _ | refine ext_trans ?_ (by assumption)))) hxs)
             have hnt := MapAt.ext hm0 (ext_trans (by (repeat (first | exact ext_refl _ | assumption | refine ext_alloc ?_ _ | refine ext_drew ?_ | refine ext_set ?_ (by simp) _ | refine ext_trans ?_ (by assumption)))) hxs)
             have hpt := hp0.keep (S' := (fun b => w.heap.size < b)) (fun _ h _ => h) (Ext.keeps (ext_trans (by (repeat (first | exact ext_refl _ | assumption | refine ext_alloc ?_ _ | refine ext_drew ?_ | refine ext_set ?_ (by simp) _ | refine ext_trans ?_ (by assumption)))) hxs) _)
             have hJs := hJs.to (S' := (fun b => w.heap.size < b)) (fun b hb _ => by (try simp at hb); omega)
             have hbs := hbq.ext hxt
             have hc0 := hbs.cell 0 _ rfl
             have hc1 := hbs.cell 1 _ rfl)
          | (at_mapUpdate; refine wp_put _ rfl _ _ _ 79 rfl 20 Tryz.underlying79 w.heap.size [(s_intervals, .iface 100 (.slice la us.length lc))] rfl hnt (by simp [maxLen]) s_filter rfl (by decide) _ rfl ?_; intro wn hnn hgn)
          | fail)
        go_meet
        case rel =>
          have hxn := ext_put hxt hgn (by omega)
          refine ⟨hxn, _, ?_, hnn, ?_⟩
          · rw [List.length_append]; exact Nat.succ_le_succ (by simp)
          · rw [show jF s_filter (some jf) = [(s_filter, jf)] from rfl]
            have hk9 : Keeps (fun b => w.heap.size < b) ws wn := keeps_grown hgn (fun b hb e => by simp only [Option.some.injEq] at e; omega)
            exact PJ.snoc (hpt.keep (fun _ h _ => h) hk9) (JAt.keep (fun _ h _ => h) hk9 _ hJs)
    case rest =>
      obtain ⟨hxc, rp, hr, hnc, hpc⟩ := hcut
      have hbc := hbq.ext hxc
      have hc0 := hbc.cell 0 _ rfl
      have hc1 := hbc.cell 1 _ rfl
      have hncl := hnc.lt
      have hszc := hxc.sz
      have hja := (hpc.keep (S' := fun b => w.heap.size ≤ b) (fun b hb _ => Nat.le_of_lt hb) (fun _ _ _ => rfl)).map hnc (Nat.le_refl _) (by have := hpc.len; omega)
      go_wp2_with (first
        | (refine wp_ins _ rfl _ _ _ 79 rfl 20 Tryz.underlying79 wc.heap.size [] rfl (MapAt.at rfl) (by simp [maxLen]) s_any_of rfl (by decide) (.iface 79 (.map (some w.heap.size))) rfl ?_; intro wn hnn hgn)
        | fail)
      go_ret2
      have hxn := ext_put (ext_alloc hxc _) hgn (by omega)
      refine ⟨_, rfl, ?_, hxn⟩
      exact jMap_one hnn hszc (JAt.keep (fun _ h _ => h) (fun q hq hl => (hgn.block q (by simp; omega) (someNe (by omega))).trans (Below.heap_alloc _ _ _ hl)) _ hja)
theorem m_rAnyOf (fuel : Nat) (v : Value) (w : World) : (method (fuel + 1) 128 v "Source").run Tryz.prog w = .ok (145, v) w := by kernel_rfl
end Go.Proofs.YtdjojnlejkljdaaGreat

namespace Go.Proofs.YtdjojnlejkljdaaGreat
open Go.RowKit

set_option maxRecDepth 20000 in
set_option maxHeartbeats 4000000 in
theorem rAnyOf_any (w : World) (e : Rv) (ns : List ByteArray) (js : List J) (hjl : js.length = e.vn) (hSV : ∀ w1, Ext w w1 → Calls Tryz.prog 73 #[.slice e.va e.vn e.vc] w1 fun r w2 => ∃ b, r = .returned (.pointer (some ⟨b, 0, none⟩)) ∧ FilO (fun b => w1.heap.size ≤ b) w2 (some ⟨b, 0, none⟩) (some (jMap (jFilter (ns.zip js)))) ∧ Ext w1 w2)
    (u : List J) (hub : e.kn ≤ 2147483647) (hRU : ∀ w1, Ext w w1 → Calls Tryz.prog 71 #[.slice e.ka e.kn e.kc] w1 fun r w2 => ∃ ua uc, r = .returned (.slice ua e.kn uc) ∧ QsAt (fun b => w1.heap.size ≤ b) w2 ua e.kn uc u ∧ Ext w1 w2) :
    Calls Tryz.prog 37 #[e.val] w fun r w' => ∃ q, r = .returned q ∧ Gives (fun b => w.heap.size ≤ b) w' q (jMap [(s_any_of, jMap ([(s_intervals, J.list u)] ++ jF s_filter (filO ns js)))]) ∧ Ext w w' := by
  have HSV := Lib.hid hSV
  have HJL := Lib.hid hjl
  have HRU := Lib.hid hRU
  clear hSV hjl hRU
  simp only [Rv.val]
  go_enter Tryz.func37, Tryz.ntmps37
  have hxa : Ext w (w.alloc (.cells e.arr 29)) := ext_alloc (ext_refl _) _
  have hka : Box (w.alloc (.cells e.arr 29)) w.heap.size e.arr 29 := Box.at rfl _ _
  go_upto_if 11 with (first
    | (go_at_call 71; refine (HRU.out _ hxa).mono ?_; rintro r w2 ⟨ua, uc, rfl, hQ, hx2⟩
       have hk2 := hka.ext hx2
       have k4a := hk2.cell 4 _ rfl
       have hkl := hk2.lt)
    | go_in)
  have hx3 : Ext w (w2.alloc (.cells #[.slice ua e.kn uc, .pointer none] 152)) := ext_alloc (ext_trans hxa hx2) _
  have hk3 : Box (w2.alloc (.cells #[.slice ua e.kn uc, .pointer none] 152)) w.heap.size e.arr 29 := (hka.ext hx2).alloc _
  have hsa := hx2.sz
  simp at hsa
  have hq3 := QsAt.keep (S' := fun q => q ≠ w2.heap.size ∧ w.heap.size ≤ q) hQ (fun q hq hl => by simp at hq; omega) (Ext.keeps (ext_alloc (ext_refl _) (.cells #[.slice ua e.kn uc, .pointer none] 152)) _) (by simp)
  generalize hbqe : w2.heap.size = bq at hq3 ⊢
  have hb3 : Box (w2.alloc (.cells #[.slice ua e.kn uc, .pointer none] 152)) bq #[.slice ua e.kn uc, .pointer none] 152 := Box.at hbqe _ _
  have hbw : w.heap.size < bq := by omega
  generalize hWW : (w2.alloc (.cells #[.slice ua e.kn uc, .pointer none] 152)) = w0
  have hWW2 : (w2.alloc (.cells #[.slice ua e.kn uc, .pointer none] 152)) = w0 := hWW
  rw [hWW2] at hx3 hk3 hb3 hq3
  clear hWW hWW2
  have hbl := hb3.lt
  have k4 := hk3.cell 4 _ rfl
  have c1 := hb3.cell 1 _ rfl
  have f1 := hb3.free 1
  go_cut [] (fun wc => Ext w wc ∧ bq + 1 ≤ wc.heap.size ∧ Box wc w.heap.size e.arr 29 ∧ ∃ v1, Box wc bq #[.slice ua e.kn uc, .pointer v1] 152 ∧ FilO (fun q => q ≠ bq ∧ w.heap.size ≤ q) wc v1 (filO ns js) ∧ QsAt (fun q => q ≠ bq ∧ w.heap.size ≤ q) wc ua e.kn uc u)
  case first =>
    by_cases hvp : 0 < e.vn
    · go_wp2_with (first
        | (go_at_call 73; refine (HSV.out _ hx3).mono ?_; rintro r w5 ⟨fb, rfl, hFb, hx5⟩
           have hb5 := hb3.ext hx5
           have c1 := hb5.cell 1 _ rfl
           have f1 := hb5.free 1
           have hbl5 := hb5.lt)
        | go_in
        | fail)
      go_meet
      case rel =>
        have hkk : Keeps (fun q => q ≠ bq ∧ w.heap.size ≤ q) w5 (w5.setCell ⟨bq, 1, none⟩ (.pointer (some ⟨fb, 0, none⟩))) := fun q hq _ => Below.heap_setCell _ _ _ _ hq.1
        refine ⟨ext_set (ext_trans hx3 hx5) (by simp <;> omega) _, by simp <;> omega, (hk3.ext hx5).other (by simp <;> omega) _, _, hb5.set 1 _, ?_, ?_⟩
        rotate_left
        · exact QsAt.keep (QsAt.ext hq3 hx5) (fun _ h _ => h) hkk (by simp)
        have hne : js.isEmpty = false := by
          cases js with
          | nil => have := HJL.out; simp at this; omega
          | cons _ _ => rfl
        rw [show filO ns js = some (jMap (jFilter (ns.zip js))) by unfold filO; rw [hne]; rfl]
        exact FilO.keep (S := fun q => q ≠ bq ∧ w.heap.size ≤ q) (hFb.keep (S' := fun q => q ≠ bq ∧ w.heap.size ≤ q) (fun q hq _ => by omega) (fun _ _ _ => rfl) (Nat.le_refl _)) (fun _ h _ => h) hkk (by simp)
    · go_wp2_with fail
      go_meet
      case rel =>
        have hne : js = [] := List.length_eq_zero_iff.1 (by have := HJL.out; omega)
        exact ⟨hx3, by omega, hk3, _, hb3, by rw [hne]; exact rfl, hq3⟩
  case rest =>
    obtain ⟨hxs, hss, hb0s, v1, hbs, hfi, hqs⟩ := hcut
    go_wp2_with fail
    go_ret
    refine ⟨_, rfl, ⟨_, _, _, rfl, fun fuel w' => m_rAnyOf fuel _ w', fun w' => by kernel_rfl, fun w' k hs => ?_⟩, hxs⟩
    have hbq' : Box w' bq #[.slice ua e.kn uc, .pointer v1] 152 := (k _ (by omega) hbs.lt).trans hbs
    refine (rAnyOf_src (S := fun q => q ≠ bq ∧ w.heap.size ≤ q) w' bq _ _ _ _ (QsAt.keep hqs (fun _ h _ => h) (fun q hq hl => k q hq.2 hl) hs) hub v1 _ (FilO.keep hfi (fun _ h _ => h) (fun q hq hl => k q hq.2 hl) hs) hbq').mono ?_
    rintro r w'' ⟨v, rfl, hJ, hx'⟩
    obtain ⟨vx, rfl⟩ := jMap_iface hJ
    exact ⟨_, _, rfl, hJ, hx'⟩
end Go.Proofs.YtdjojnlejkljdaaGreat

