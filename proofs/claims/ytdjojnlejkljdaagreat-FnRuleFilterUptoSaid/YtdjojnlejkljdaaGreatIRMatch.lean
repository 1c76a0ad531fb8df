/-
  What the thin package makes of a rule of intervals (RMatch).
-/
import Derived.Test.YtdjojnlejkljdaaGreatRu
namespace Go.Proofs.YtdjojnlejkljdaaGreat
open Go.RowKit

set_option maxRecDepth 20000 in
set_option maxHeartbeats 4000000 in
theorem rMatch_src {S : Nat → Prop} (w : World) (bq : Nat) (f : ByteArray) (v1 : Option Addr) (o1 : Option T) (h1 : FW S w v1 o1) (v2 : Option Addr) (o2 : Option T) (h2 : FY S w v2 o2) (v3 : ByteArray) (o3 : Option T) (h3 : v3 = fT o3) (v4 : ByteArray) (o4 : Option T) (h4 : v4 = fT o4) (v5 : Option Addr) (o5 : Option J) (h5 : FilO S w v5 o5) (hbq : Box w bq #[.string f, .pointer v1, .pointer v2, .string v3, .string v4, .pointer v5] 154) :
    Calls Tryz.prog 147 #[.pointer (some ⟨bq, 0, none⟩)] w fun r w' => ∃ v, r = .returned (.tuple #[v, .nilIface]) ∧ JAt (fun b => w.heap.size ≤ b) w' v (jMap [(s_match, jMap ([(s_query, J.str f)] ++ jY s_ordered (o2) ++ jW s_max_gaps (o1) ++ jT s_analyzer (o3) ++ jT s_use_field (o4) ++ jF s_filter (o5)))]) ∧ Ext w w' := by
  have tok0 := trivial
  have hblt := hbq.lt
  have H1 := Lib.hid h1
  have H2 := Lib.hid h2
  have H3 := Lib.hid h3
  have H4 := Lib.hid h4
  clear h1 h2 h3 h4
  have H5 := Lib.hid h5
  clear h5
  have hc0 := (hbq.alloc (.map #[] 0)).cell 0 _ rfl
  have hc1 := (hbq.alloc (.map #[] 0)).cell 1 _ rfl
  have hc2 := (hbq.alloc (.map #[] 0)).cell 2 _ rfl
  have hc3 := (hbq.alloc (.map #[] 0)).cell 3 _ rfl
  have hc4 := (hbq.alloc (.map #[] 0)).cell 4 _ rfl
  have hc5 := (hbq.alloc (.map #[] 0)).cell 5 _ rfl
  go_enter Tryz.func147, Tryz.ntmps147
  go_upto_if 18 with (first
    | (at_mapUpdate; have _t := tok0; refine wp_put _ rfl _ _ _ 79 rfl 20 Tryz.underlying79 w.heap.size [] rfl (MapAt.at (by simp)) (by simp [maxLen]) s_query rfl (by decide) _ rfl ?_; intro w1 hm hg; clear tok0
       have hx1 : Ext w w1 := ext_put (ext_alloc (ext_refl _) _) hg (by omega)
       have hl0_1 := hm
       have hs0_1 := hl0_1.lt
       have hb1 := hbq.ext hx1
       have hc0 := hb1.cell 0 _ rfl
       have hc1 := hb1.cell 1 _ rfl
       have hc2 := hb1.cell 2 _ rfl
       have hc3 := hb1.cell 3 _ rfl
       have hc4 := hb1.cell 4 _ rfl
       have hc5 := hb1.cell 5 _ rfl
       clear hg hm)
    | fail)
  have hx0 : Ext w w1 := hx1
  have hm0 : MapAt w1 w.heap.size [(s_query, .iface 9 (.string f))] := hl0_1
  have hz0 := hm0.lt
  have hw0 : w.heap.size ≤ w.heap.size := by have := hx0.sz; omega
  have hp0 : PJ (fun b => w.heap.size < b) w1 [(s_query, .iface 9 (.string f))] ([(s_query, J.str f)]) := ⟨rfl, by simp only [List.map_cons, List.map_nil, JsAt]; exact ⟨(by simp [JAt]), trivial⟩⟩
  go_cut [] (fun wc => Ext w wc ∧ ∃ rp, rp.length ≤ 2 ∧ MapAt wc w.heap.size rp ∧ PJ (fun b => w.heap.size < b) wc rp ([(s_query, J.str f)] ++ jY s_ordered (o2)))
  case first =>
    cases o2 with
    | none =>
      have hv : v2 = none := H2.out
      subst hv
      go_wp2_with fail
      go_meet
      case rel =>
        refine ⟨hx0, [(s_query, .iface 9 (.string f))], by simp, hm0, ?_⟩
        rw [show jY s_ordered none = [] from rfl, List.append_nil]
        exact hp0
    | some t2 =>
      obtain ⟨cc, hv, hSc, hcc⟩ := H2.out
      subst hv
      have hcc := hx0.cell hcc
      go_wp2_with (at_mapUpdate; refine wp_put _ rfl _ _ _ 79 rfl 20 Tryz.underlying79 w.heap.size [(s_query, .iface 9 (.string f))] rfl hm0 (by simp [maxLen]) s_ordered rfl (by decide) _ rfl ?_; intro wn hnn hgn)
      go_meet
      case rel =>
        have hxn := ext_put hx0 hgn (by omega)
        refine ⟨hxn, _, ?_, hnn, ?_⟩
        · rw [List.length_append]; exact Nat.succ_le_succ (by simp)
        · rw [show jY s_ordered (some t2) = [(s_ordered, .yes t2.yes)] from rfl]
          exact PJ.snoc (hp0.keep (fun _ h _ => h) (keeps_grown hgn (fun b hb e => by simp only [Option.some.injEq] at e; omega))) (by simp only [JAt]; rfl)
  case rest =>
    obtain ⟨hxc, rp, hr, hnc, hpc⟩ := hcut
    have hbc := hbq.ext hxc
    have hc0 := hbc.cell 0 _ rfl
    have hc1 := hbc.cell 1 _ rfl
    have hc2 := hbc.cell 2 _ rfl
    have hc3 := hbc.cell 3 _ rfl
    have hc4 := hbc.cell 4 _ rfl
    have hc5 := hbc.cell 5 _ rfl
    go_upto_if 31 with fail
    go_cut [] (fun wc => Ext w wc ∧ ∃ rp, rp.length ≤ 3 ∧ MapAt wc w.heap.size rp ∧ PJ (fun b => w.heap.size < b) wc rp ([(s_query, J.str f)] ++ jY s_ordered (o2) ++ jW s_max_gaps (o1)))
    case first =>
      cases o1 with
      | none =>
        have hv : v1 = none := H1.out
        subst hv
        go_wp2_with fail
        go_meet
        case rel =>
          refine ⟨hxc, rp, Nat.le_succ_of_le hr, hnc, ?_⟩
          rw [show jW s_max_gaps none = [] from rfl, List.append_nil]
          exact hpc
      | some t1 =>
        obtain ⟨cc, z1, hv, hSc, hcc, hzz⟩ := H1.out
        subst hv
        have hcc := hxc.cell hcc
        go_wp2_with (at_mapUpdate; refine wp_put _ rfl _ _ _ 79 rfl 20 Tryz.underlying79 w.heap.size rp rfl hnc (Nat.lt_of_le_of_lt hr (by decide)) s_max_gaps rfl (by decide) _ rfl ?_; intro wn hnn hgn)
        go_meet
        case rel =>
          have hxn := ext_put hxc hgn (by omega)
          refine ⟨hxn, _, ?_, hnn, ?_⟩
          · rw [List.length_append]; exact Nat.succ_le_succ (by exact hr)
          · rw [show jW s_max_gaps (some t1) = [(s_max_gaps, .int z1)] from jW_some hzz]
            exact PJ.snoc (hpc.keep (fun _ h _ => h) (keeps_grown hgn (fun b hb e => by simp only [Option.some.injEq] at e; omega))) (by simp only [JAt]; rfl)
    case rest =>
      obtain ⟨hxc, rp, hr, hnc, hpc⟩ := hcut
      have hbc := hbq.ext hxc
      have hc0 := hbc.cell 0 _ rfl
      have hc1 := hbc.cell 1 _ rfl
      have hc2 := hbc.cell 2 _ rfl
      have hc3 := hbc.cell 3 _ rfl
      have hc4 := hbc.cell 4 _ rfl
      have hc5 := hbc.cell 5 _ rfl
      go_upto_if 44 with fail
      go_cut [] (fun wc => Ext w wc ∧ ∃ rp, rp.length ≤ 4 ∧ MapAt wc w.heap.size rp ∧ PJ (fun b => w.heap.size < b) wc rp ([(s_query, J.str f)] ++ jY s_ordered (o2) ++ jW s_max_gaps (o1) ++ jT s_analyzer (o3)))
      case first =>
        cases hE : v3.toList.isEmpty
        · have hE1 := jT_some (k := s_analyzer) H3.out hE
          go_wp2_with (at_mapUpdate; refine wp_put _ rfl _ _ _ 79 rfl 20 Tryz.underlying79 w.heap.size rp rfl hnc (Nat.lt_of_le_of_lt hr (by decide)) s_analyzer rfl (by decide) _ rfl ?_; intro wn hnn hgn)
          go_meet
          case rel =>
            have hxn := ext_put hxc hgn (by omega)
            refine ⟨hxn, _, ?_, hnn, ?_⟩
            · rw [List.length_append]; exact Nat.succ_le_succ (by exact hr)
            · rw [hE1]
              exact PJ.snoc (hpc.keep (fun _ h _ => h) (keeps_grown hgn (fun b hb e => by simp only [Option.some.injEq] at e; omega))) (by simp only [JAt]; rfl)
        · have hE1 := jT_none (k := s_analyzer) H3.out hE
          go_wp2_with fail
          go_meet
          case rel =>
            refine ⟨hxc, rp, Nat.le_succ_of_le hr, hnc, ?_⟩
            rw [hE1, List.append_nil]
            exact hpc
      case rest =>
        obtain ⟨hxc, rp, hr, hnc, hpc⟩ := hcut
        have hbc := hbq.ext hxc
        have hc0 := hbc.cell 0 _ rfl
        have hc1 := hbc.cell 1 _ rfl
        have hc2 := hbc.cell 2 _ rfl
        have hc3 := hbc.cell 3 _ rfl
        have hc4 := hbc.cell 4 _ rfl
        have hc5 := hbc.cell 5 _ rfl
        go_upto_if 55 with fail
        go_cut [] (fun wc => Ext w wc ∧ ∃ rp, rp.length ≤ 5 ∧ MapAt wc w.heap.size rp ∧ PJ (fun b => w.heap.size < b) wc rp ([(s_query, J.str f)] ++ jY s_ordered (o2) ++ jW s_max_gaps (o1) ++ jT s_analyzer (o3) ++ jT s_use_field (o4)))
        case first =>
          cases hE : v4.toList.isEmpty
          · have hE1 := jT_some (k := s_use_field) H4.out hE
            go_wp2_with (at_mapUpdate; refine wp_put _ rfl _ _ _ 79 rfl 20 Tryz.underlying79 w.heap.size rp rfl hnc (Nat.lt_of_le_of_lt hr (by decide)) s_use_field rfl (by decide) _ rfl ?_; intro wn hnn hgn)
            go_meet
            case rel =>
              have hxn := ext_put hxc hgn (by omega)
              refine ⟨hxn, _, ?_, hnn, ?_⟩
              · rw [List.length_append]; exact Nat.succ_le_succ (by exact hr)
              · rw [hE1]
                exact PJ.snoc (hpc.keep (fun _ h _ => h) (keeps_grown hgn (fun b hb e => by simp only [Option.some.injEq] at e; omega))) (by simp only [JAt]; rfl)
          · have hE1 := jT_none (k := s_use_field) H4.out hE
            go_wp2_with fail
            go_meet
            case rel =>
              refine ⟨hxc, rp, Nat.le_succ_of_le hr, hnc, ?_⟩
              rw [hE1, List.append_nil]
              exact hpc
        case rest =>
          obtain ⟨hxc, rp, hr, hnc, hpc⟩ := hcut
          have hbc := hbq.ext hxc
          have hc0 := hbc.cell 0 _ rfl
          have hc1 := hbc.cell 1 _ rfl
          have hc2 := hbc.cell 2 _ rfl
          have hc3 := hbc.cell 3 _ rfl
          have hc4 := hbc.cell 4 _ rfl
          have hc5 := hbc.cell 5 _ rfl
          go_upto_if 66 with fail
          go_cut [] (fun wc => Ext w wc ∧ ∃ rp, rp.length ≤ 6 ∧ MapAt wc w.heap.size rp ∧ PJ (fun b => w.heap.size < b) wc rp ([(s_query, J.str f)] ++ jY s_ordered (o2) ++ jW s_max_gaps (o1) ++ jT s_analyzer (o3) ++ jT s_use_field (o4) ++ jF s_filter (o5)))
          case first =>
            cases o5 with
            | none =>
              have hv : v5 = none := H5.out
              subst hv
              go_wp2_with fail
              go_meet
              case rel =>
                refine ⟨hxc, rp, Nat.le_succ_of_le hr, hnc, ?_⟩
                rw [show jF s_filter none = [] from rfl, List.append_nil]
                exact hpc
            | some jf =>
              obtain ⟨fb, hv, hFC⟩ := H5.out
              subst hv
              have HFC := Lib.hid hFC
              clear hFC
              have hsn := hnc.lt
              go_wp2_with (first
                | (go_at_call 141; refine (HFC.out _ (Ext.keeps (ext_trans hxc (by (repeat (first | exact ext_refl _ | assumption | refine ext_alloc ?_ _ | refine ext_drew ?_ | refine ext_set ?_ (by simp) _ | refine ext_trans ?_ (by assumption))))) _) (Ext.sz (ext_trans hxc (by (repeat (first | exact ext_refl _ | assumption | refine ext_alloc ?_ _ | refine ext_drew ?_ | refine ext_set ?_ (by simp) _ | refine ext_trans ?_ (by assumption))))))).mono ?_; rintro r ws ⟨jty, jx, rfl, hJs, hxs⟩
                   have hxt : Ext w ws := ext_trans hxc (ext_trans (by (repeat (first | exact ext_refl _ | assumption | refine ext_alloc ?_ _ | refine ext_drew ?_ | refine ext_set ?_ (by simp) _ | refine ext_trans ?_ (by assumption)))) hxs)
                   have hnt := MapAt.ext hnc (ext_trans (by (repeat (first | exact ext_refl _ | assumption | refine ext_alloc ?_ _ | refine ext_drew ?_ | refine ext_set ?_ (by simp) _ | refine ext_trans ?_ (by assumption)))) hxs)
                   have hpt := hpc.keep (S' := (fun b => w.heap.size < b)) (fun _ h _ => h) (Ext.keeps (ext_trans (by (repeat (first | exact ext_refl _ | assumption | refine ext_alloc ?_ _ | refine ext_drew ?_ | refine ext_set ?_ (by simp) _ | refine ext_trans ?_ (by assumption)))) hxs) _)
                   have hJs := hJs.to (S' := (fun b => w.heap.size < b)) (fun b hb _ => by (try simp at hb); omega)
                   have hbs := hbq.ext hxt
                   have hc0 := hbs.cell 0 _ rfl
                   have hc1 := hbs.cell 1 _ rfl
                   have hc2 := hbs.cell 2 _ rfl
                   have hc3 := hbs.cell 3 _ rfl
                   have hc4 := hbs.cell 4 _ rfl
                   have hc5 := hbs.cell 5 _ rfl)
                | (at_mapUpdate; refine wp_put _ rfl _ _ _ 79 rfl 20 Tryz.underlying79 w.heap.size rp rfl hnt (Nat.lt_of_le_of_lt hr (by decide)) s_filter rfl (by decide) _ rfl ?_; intro wn hnn hgn)
                | fail)
              go_meet
              case rel =>
                have hxn := ext_put hxt hgn (by omega)
                refine ⟨hxn, _, ?_, hnn, ?_⟩
                · rw [List.length_append]; exact Nat.succ_le_succ (by exact hr)
                · rw [show jF s_filter (some jf) = [(s_filter, jf)] from rfl]
                  have hk9 : Keeps (fun b => w.heap.size < b) ws wn := keeps_grown hgn (fun b hb e => by simp only [Option.some.injEq] at e; omega)
                  exact PJ.snoc (hpt.keep (fun _ h _ => h) hk9) (JAt.keep (fun _ h _ => h) hk9 _ hJs)
          case rest =>
            obtain ⟨hxc, rp, hr, hnc, hpc⟩ := hcut
            have hbc := hbq.ext hxc
            have hc0 := hbc.cell 0 _ rfl
            have hc1 := hbc.cell 1 _ rfl
            have hc2 := hbc.cell 2 _ rfl
            have hc3 := hbc.cell 3 _ rfl
            have hc4 := hbc.cell 4 _ rfl
            have hc5 := hbc.cell 5 _ rfl
            have hncl := hnc.lt
            have hszc := hxc.sz
            have hja := (hpc.keep (S' := fun b => w.heap.size ≤ b) (fun b hb _ => Nat.le_of_lt hb) (fun _ _ _ => rfl)).map hnc (Nat.le_refl _) (by have := hpc.len; omega)
            go_wp2_with (first
              | (refine wp_ins _ rfl _ _ _ 79 rfl 20 Tryz.underlying79 wc.heap.size [] rfl (MapAt.at rfl) (by simp [maxLen]) s_match rfl (by decide) (.iface 79 (.map (some w.heap.size))) rfl ?_; intro wn hnn hgn)
              | fail)
            go_ret2
            have hxn := ext_put (ext_alloc hxc _) hgn (by omega)
            refine ⟨_, rfl, ?_, hxn⟩
            exact jMap_one hnn hszc (JAt.keep (fun _ h _ => h) (fun q hq hl => (hgn.block q (by simp; omega) (someNe (by omega))).trans (Below.heap_alloc _ _ _ hl)) _ hja)
theorem m_rMatch (fuel : Nat) (v : Value) (w : World) : (method (fuel + 1) 131 v "Source").run Tryz.prog w = .ok (147, v) w := by kernel_rfl
end Go.Proofs.YtdjojnlejkljdaaGreat

namespace Go.Proofs.YtdjojnlejkljdaaGreat
open Go.RowKit

set_option maxRecDepth 20000 in
set_option maxHeartbeats 4000000 in
theorem rMatch_any {S : Nat → Prop} (a : Option Addr) (n c : Nat) (ps : List (ByteArray × T)) (w : World) (e : Rv) (hW1 : WholeAt ps s_max_gaps) (ns : List ByteArray) (js : List J) (hjl : js.length = e.vn) (hSV : ∀ w1, Ext w w1 → Calls Tryz.prog 73 #[.slice e.va e.vn e.vc] w1 fun r w2 => ∃ b, r = .returned (.pointer (some ⟨b, 0, none⟩)) ∧ FilO (fun b => w1.heap.size ≤ b) w2 (some ⟨b, 0, none⟩) (some (jMap (jFilter (ns.zip js)))) ∧ Ext w1 w2) (h : PairsAt S w a n c ps) :
    Calls Tryz.prog 38 #[e.val, .slice a n c] w fun r w' => ∃ q, r = .returned q ∧ Gives (fun b => w.heap.size ≤ b) w' q (jMap [(s_match, jMap ([(s_query, J.str e.x)] ++ jY s_ordered (lastOf ps s_ordered) ++ jW s_max_gaps (lastOf ps s_max_gaps) ++ jT s_analyzer (lastOf ps s_analyzer) ++ jT s_use_field (lastOf ps s_use_field) ++ jF s_filter (filO ns js)))]) ∧ Ext w w' := by
  obtain ⟨hl, hn, hm, hc⟩ := h
  unfold maxLen at hm
  have HL := Lib.hid hl
  clear hl
  have HW1 := Lib.hid hW1
  clear hW1
  have HSV := Lib.hid hSV
  have HJL := Lib.hid hjl
  clear hSV hjl
  simp only [Rv.val]
  go_enter Tryz.func38, Tryz.ntmps38
  go_upto_if 14 with go_in
  have hx3 : Ext w ((w.alloc (.cells e.arr 29)).alloc (.cells #[.string e.x, .pointer none, .pointer none, .string ⟨#[]⟩, .string ⟨#[]⟩, .pointer none] 154)) := ext_alloc (ext_alloc (ext_refl _) _) _
  have hk3 : Box ((w.alloc (.cells e.arr 29)).alloc (.cells #[.string e.x, .pointer none, .pointer none, .string ⟨#[]⟩, .string ⟨#[]⟩, .pointer none] 154)) w.heap.size e.arr 29 := (Box.at rfl _ _).alloc _
  have hb3 : Box ((w.alloc (.cells e.arr 29)).alloc (.cells #[.string e.x, .pointer none, .pointer none, .string ⟨#[]⟩, .string ⟨#[]⟩, .pointer none] 154)) (w.heap.size + 1) #[.string e.x, .pointer none, .pointer none, .string ⟨#[]⟩, .string ⟨#[]⟩, .pointer none] 154 := Box.at (by simp) _ _
  have hbw : w.heap.size < (w.heap.size + 1) := by omega
  generalize hWW : ((w.alloc (.cells #[.int .i64 e.k, .string e.x, .slice e.sa e.sn e.sc, .slice e.ka e.kn e.kc, .slice e.va e.vn e.vc] 29)).alloc (.cells #[.string e.x, .pointer none, .pointer none, .string ⟨#[]⟩, .string ⟨#[]⟩, .pointer none] 154)) = w0
  have hWW2 : ((w.alloc (.cells e.arr 29)).alloc (.cells #[.string e.x, .pointer none, .pointer none, .string ⟨#[]⟩, .string ⟨#[]⟩, .pointer none] 154)) = w0 := hWW
  rw [hWW2] at hx3 hk3 hb3
  clear hWW hWW2
  have hbl := hb3.lt
  have k4 := hk3.cell 4 _ rfl
  have c5 := hb3.cell 5 _ rfl
  have f5 := hb3.free 5
  go_cut [] (fun wc => Ext w wc ∧ (w.heap.size + 1) + 1 ≤ wc.heap.size ∧ Box wc w.heap.size e.arr 29 ∧ ∃ v5, Box wc (w.heap.size + 1) #[.string e.x, .pointer none, .pointer none, .string ⟨#[]⟩, .string ⟨#[]⟩, .pointer v5] 154 ∧ FilO (fun q => q ≠ (w.heap.size + 1) ∧ w.heap.size ≤ q) wc v5 (filO ns js))
  case first =>
    by_cases hvp : 0 < e.vn
    · go_wp2_with (first
        | (go_at_call 73; refine (HSV.out _ hx3).mono ?_; rintro r w5 ⟨fb, rfl, hFb, hx5⟩
           have hb5 := hb3.ext hx5
           have c5 := hb5.cell 5 _ rfl
           have f5 := hb5.free 5
           have hbl5 := hb5.lt)
        | go_in
        | fail)
      go_meet
      case rel =>
        have hkk : Keeps (fun q => q ≠ (w.heap.size + 1) ∧ w.heap.size ≤ q) w5 (w5.setCell ⟨(w.heap.size + 1), 5, none⟩ (.pointer (some ⟨fb, 0, none⟩))) := fun q hq _ => Below.heap_setCell _ _ _ _ hq.1
        refine ⟨ext_set (ext_trans hx3 hx5) (by simp <;> omega) _, by simp <;> omega, (hk3.ext hx5).other (by simp <;> omega) _, _, hb5.set 5 _, ?_⟩
        have hne : js.isEmpty = false := by
          cases js with
          | nil => have := HJL.out; simp at this; omega
          | cons _ _ => rfl
        rw [show filO ns js = some (jMap (jFilter (ns.zip js))) by unfold filO; rw [hne]; rfl]
        exact FilO.keep (S := fun q => q ≠ (w.heap.size + 1) ∧ w.heap.size ≤ q) (hFb.keep (S' := fun q => q ≠ (w.heap.size + 1) ∧ w.heap.size ≤ q) (fun q hq _ => by omega) (fun _ _ _ => rfl) (Nat.le_refl _)) (fun _ h _ => h) hkk (by simp)
    · go_wp2_with fail
      go_meet
      case rel =>
        have hne : js = [] := List.length_eq_zero_iff.1 (by have := HJL.out; omega)
        exact ⟨hx3, by omega, hk3, _, hb3, by rw [hne]; exact rfl⟩
  case rest =>
    obtain ⟨hxs, hss, hb0s, v5, hbs, hfi⟩ := hcut
    go_wp2_with fail
    go_loopw [22] (fun i wr => Ext w wr ∧ (w.heap.size + 2) ≤ wr.heap.size ∧ Box wr w.heap.size e.arr 29 ∧ ∃ (j : Nat) (v1 : Option Addr) (v2 : Option Addr) (v3 : ByteArray) (v4 : ByteArray), j ≤ n ∧ i = .int .i64 j ∧ Box wr (w.heap.size + 1) #[.string e.x, .pointer v1, .pointer v2, .string v3, .string v4, .pointer v5] 154 ∧ FW (fun q => q ≠ (w.heap.size + 1) ∧ w.heap.size ≤ q) wr v1 (lastOf (ps.take j) s_max_gaps) ∧ FY (fun q => q ≠ (w.heap.size + 1) ∧ w.heap.size ≤ q) wr v2 (lastOf (ps.take j) s_ordered) ∧ v3 = fT (lastOf (ps.take j) s_analyzer) ∧ v4 = fT (lastOf (ps.take j) s_use_field) ∧ FilO (fun q => q ≠ (w.heap.size + 1) ∧ w.heap.size ≤ q) wr v5 (filO ns js)) (fun i _ => n - (intOf i).toNat)
    case atStart => exact ⟨hxs, by omega, hb0s, 0, _, _, _, _, Nat.zero_le _, rfl, hbs, rfl, rfl, rfl, rfl, hfi⟩
    case round =>
      obtain ⟨hx, hsz, hb0, j, v1, v2, v3, v4, hj, rfl, hbq, h1, h2, h3, h4, hfi⟩ := hrel
      have H1 := Lib.hid h1
      have H2 := Lib.hid h2
      have H3 := Lib.hid h3
      have H4 := Lib.hid h4
      have Hfi := Lib.hid hfi
      clear hfi
      clear h1 h2 h3 h4
      have hbql := hbq.lt
      by_cases hlt : j < n
      · obtain ⟨p, hp⟩ := some_of_lt HL.out hlt
        obtain ⟨b, off, ⟨k, x, d, y, ka, kn, kc, ca, m, cc⟩, rfl, hSb, hc7, hT⟩ := hc j p hp
        obtain ⟨z0, z1, z2, z3, z4, z5, z6⟩ := Cells7.ext hx hc7
        have HP := Lib.hid hp
        have hl0 : w.heap.size < wr.heap.size := by omega
        have hl1 : ¬ w.heap.size = wr.heap.size := by omega
        have hl2 : (w.heap.size + 1) < wr.heap.size + 1 := by omega
        have hTx := Lib.hid hT.parts.2.1
        have hTd := Lib.hid hT.parts.2.2.1
        have hTy := Lib.hid hT.parts.2.2.2.1
        clear hp
        have hc0 := hbq.cell 0 _ rfl
        have hf0 := hbq.free 0
        have hc1 := hbq.cell 1 _ rfl
        have hf1 := hbq.free 1
        have hc2 := hbq.cell 2 _ rfl
        have hf2 := hbq.free 2
        have hc3 := hbq.cell 3 _ rfl
        have hf3 := hbq.free 3
        have hc4 := hbq.cell 4 _ rfl
        have hf4 := hbq.free 4
        have hc5 := hbq.cell 5 _ rfl
        have hf5 := hbq.free 5
        cases he0 : p.1.toList == [97, 110, 97, 108, 121, 122, 101, 114]
        · have e0 : seq p.1 s_analyzer = false := by rw [seq, show s_analyzer.toList = [97, 110, 97, 108, 121, 122, 101, 114] by rw [Lib.toList_data]]; exact he0
          cases he1 : p.1.toList == [109, 97, 120, 95, 103, 97, 112, 115]
          · have e1 : seq p.1 s_max_gaps = false := by rw [seq, show s_max_gaps.toList = [109, 97, 120, 95, 103, 97, 112, 115] by rw [Lib.toList_data]]; exact he1
            cases he2 : p.1.toList == [111, 114, 100, 101, 114, 101, 100]
            · have e2 : seq p.1 s_ordered = false := by rw [seq, show s_ordered.toList = [111, 114, 100, 101, 114, 101, 100] by rw [Lib.toList_data]]; exact he2
              cases he3 : p.1.toList == [117, 115, 101, 95, 102, 105, 101, 108, 100]
              · have e3 : seq p.1 s_use_field = false := by rw [seq, show s_use_field.toList = [117, 115, 101, 95, 102, 105, 101, 108, 100] by rw [Lib.toList_data]]; exact he3
                go_wp2_with go_in
                go_roundw
                case rel =>
                  have hy := ext_alloc (ext_refl wr) (.cells #[.string p.1, .int .i64 k, .string x, .float .f64 d, .bool y, .slice ka kn kc, .slice ca m cc] 73)
                  exact ⟨ext_trans hx hy, Nat.le_trans hsz hy.sz, hb0.ext hy, j + 1, v1, v2, v3, v4, by omega, by go_num, hbq.ext hy, by rw [last_miss HP.out e1]; exact FW.ext hy H1.out, by rw [last_miss HP.out e2]; exact FY.ext hy H2.out, by rw [last_miss HP.out e0]; exact H3.out, by rw [last_miss HP.out e3]; exact H4.out, FilO.ext Hfi.out hy⟩
                case measure => simp [intOf]; omega
              · have e3 : seq p.1 s_use_field = true := by rw [seq, show s_use_field.toList = [117, 115, 101, 95, 102, 105, 101, 108, 100] by rw [Lib.toList_data]]; exact he3
                go_wp2_with go_in
                go_roundw
                case rel =>
                  have hk : Keeps (fun q => q ≠ (w.heap.size + 1) ∧ w.heap.size ≤ q) wr ((wr.setCell ⟨(w.heap.size + 1), 4, none⟩ (.string x)).alloc (.cells #[.string p.1, .int .i64 k, .string x, .float .f64 d, .bool y, .slice ka kn kc, .slice ca m cc] 73)) := fun q hq hlt => (Below.heap_alloc _ _ _ (by simpa using hlt)).trans (Below.heap_setCell _ _ _ _ (by simp <;> omega))
                  exact ⟨ext_alloc (ext_set hx (by simp <;> omega) _) _, by simp; omega, (hb0.other (by simp <;> omega) _).alloc _, j + 1, v1, v2, v3, x, by omega, by go_num, (hbq.set 4 _).alloc _, by rw [last_other HP.out e3 (seq_false.2 (by decide))]; exact FW.keep (fun _ h _ => h) hk H1.out, by rw [last_other HP.out e3 (seq_false.2 (by decide))]; exact FY.keep (fun _ h _ => h) hk H2.out, by rw [last_other HP.out e3 (seq_false.2 (by decide))]; exact H3.out, by rw [last_hit HP.out e3]; exact hTx.out, FilO.keep Hfi.out (fun _ h _ => h) hk (by simp <;> omega)⟩
                case measure => simp [intOf]; omega
            · have e2 : seq p.1 s_ordered = true := by rw [seq, show s_ordered.toList = [111, 114, 100, 101, 114, 101, 100] by rw [Lib.toList_data]]; exact he2
              go_wp2_with go_in
              go_roundw
              case rel =>
                have hk : Keeps (fun q => q ≠ (w.heap.size + 1) ∧ w.heap.size ≤ q) wr (((wr.setCell ⟨(w.heap.size + 1), 2, none⟩ (.pointer (some ⟨wr.heap.size + 1, 0, none⟩))).alloc (.cells #[.string p.1, .int .i64 k, .string x, .float .f64 d, .bool y, .slice ka kn kc, .slice ca m cc] 73)).alloc (.cells #[.bool y] 4)) := fun q hq hlt => (Below.heap_alloc _ _ _ (by simp <;> omega)).trans ((Below.heap_alloc _ _ _ (by simpa using hlt)).trans (Below.heap_setCell _ _ _ _ (by simp <;> omega)))
                have hnew : (((wr.setCell ⟨(w.heap.size + 1), 2, none⟩ (.pointer (some ⟨wr.heap.size + 1, 0, none⟩))).alloc (.cells #[.string p.1, .int .i64 k, .string x, .float .f64 d, .bool y, .slice ka kn kc, .slice ca m cc] 73)).alloc (.cells #[.bool y] 4)).cell? ⟨wr.heap.size + 1, 0, none⟩ = some (.bool y) := (Box.at (by simp) _ _).cell 0 _ rfl
                exact ⟨ext_alloc (ext_alloc (ext_set hx (by simp <;> omega) _) _) _, by simp; omega, ((hb0.other (by simp <;> omega) _).alloc _).alloc _, j + 1, v1, some ⟨wr.heap.size + 1, 0, none⟩, v3, v4, by omega, by go_num, ((hbq.set 2 _).alloc _).alloc _, by rw [last_other HP.out e2 (seq_false.2 (by decide))]; exact FW.keep (fun _ h _ => h) hk H1.out, by rw [last_hit HP.out e2]; exact ⟨wr.heap.size + 1, rfl, by omega, by rw [← hTy.out]; exact hnew⟩, by rw [last_other HP.out e2 (seq_false.2 (by decide))]; exact H3.out, by rw [last_other HP.out e2 (seq_false.2 (by decide))]; exact H4.out, FilO.keep Hfi.out (fun _ h _ => h) hk (by simp <;> omega)⟩
              case measure => simp [intOf]; omega
          · have e1 : seq p.1 s_max_gaps = true := by rw [seq, show s_max_gaps.toList = [109, 97, 120, 95, 103, 97, 112, 115] by rw [Lib.toList_data]]; exact he1
            obtain ⟨z, hz, -⟩ := HW1.out p (List.mem_of_getElem? HP.out) e1
            have hcv : ∀ w, (convert 32 3 (.float .f64 d)).run Tryz.prog w = .ok (.int .i64 z) w := fun w => run_convert_float_int w 32 3 .f64 .i64 d z (by rw [Tryz.underlying32]; rfl) Tryz.underlying3 (show floatToIntVal .f64 d .i64 = some z from by have h9 : d = p.2.num := hTd.out; rw [h9]; exact hz)
            have HZ := Lib.hid hz
            clear hz
            go_wp2_with go_in
            go_roundw
            case rel =>
              have hk : Keeps (fun q => q ≠ (w.heap.size + 1) ∧ w.heap.size ≤ q) wr (((wr.setCell ⟨(w.heap.size + 1), 1, none⟩ (.pointer (some ⟨wr.heap.size + 1, 0, none⟩))).alloc (.cells #[.string p.1, .int .i64 k, .string x, .float .f64 d, .bool y, .slice ka kn kc, .slice ca m cc] 73)).alloc (.cells #[.int .i64 z] 3)) := fun q hq hlt => (Below.heap_alloc _ _ _ (by simp <;> omega)).trans ((Below.heap_alloc _ _ _ (by simpa using hlt)).trans (Below.heap_setCell _ _ _ _ (by simp <;> omega)))
              have hnew : (((wr.setCell ⟨(w.heap.size + 1), 1, none⟩ (.pointer (some ⟨wr.heap.size + 1, 0, none⟩))).alloc (.cells #[.string p.1, .int .i64 k, .string x, .float .f64 d, .bool y, .slice ka kn kc, .slice ca m cc] 73)).alloc (.cells #[.int .i64 z] 3)).cell? ⟨wr.heap.size + 1, 0, none⟩ = some (.int .i64 z) := (Box.at (by simp) _ _).cell 0 _ rfl
              exact ⟨ext_alloc (ext_alloc (ext_set hx (by simp <;> omega) _) _) _, by simp; omega, ((hb0.other (by simp <;> omega) _).alloc _).alloc _, j + 1, some ⟨wr.heap.size + 1, 0, none⟩, v2, v3, v4, by omega, by go_num, ((hbq.set 1 _).alloc _).alloc _, by rw [last_hit HP.out e1]; exact ⟨wr.heap.size + 1, z, rfl, by omega, hnew, HZ.out⟩, by rw [last_other HP.out e1 (seq_false.2 (by decide))]; exact FY.keep (fun _ h _ => h) hk H2.out, by rw [last_other HP.out e1 (seq_false.2 (by decide))]; exact H3.out, by rw [last_other HP.out e1 (seq_false.2 (by decide))]; exact H4.out, FilO.keep Hfi.out (fun _ h _ => h) hk (by simp <;> omega)⟩
            case measure => simp [intOf]; omega
        · have e0 : seq p.1 s_analyzer = true := by rw [seq, show s_analyzer.toList = [97, 110, 97, 108, 121, 122, 101, 114] by rw [Lib.toList_data]]; exact he0
          go_wp2_with go_in
          go_roundw
          case rel =>
            have hk : Keeps (fun q => q ≠ (w.heap.size + 1) ∧ w.heap.size ≤ q) wr ((wr.setCell ⟨(w.heap.size + 1), 3, none⟩ (.string x)).alloc (.cells #[.string p.1, .int .i64 k, .string x, .float .f64 d, .bool y, .slice ka kn kc, .slice ca m cc] 73)) := fun q hq hlt => (Below.heap_alloc _ _ _ (by simpa using hlt)).trans (Below.heap_setCell _ _ _ _ (by simp <;> omega))
            exact ⟨ext_alloc (ext_set hx (by simp <;> omega) _) _, by simp; omega, (hb0.other (by simp <;> omega) _).alloc _, j + 1, v1, v2, x, v4, by omega, by go_num, (hbq.set 3 _).alloc _, by rw [last_other HP.out e0 (seq_false.2 (by decide))]; exact FW.keep (fun _ h _ => h) hk H1.out, by rw [last_other HP.out e0 (seq_false.2 (by decide))]; exact FY.keep (fun _ h _ => h) hk H2.out, by rw [last_hit HP.out e0]; exact hTx.out, by rw [last_other HP.out e0 (seq_false.2 (by decide))]; exact H4.out, FilO.keep Hfi.out (fun _ h _ => h) hk (by simp <;> omega)⟩
          case measure => simp [intOf]; omega
      · have hjn : j = n := by omega
        have hfull : ps.take j = ps := List.take_of_length_le (by have := HL.out; omega)
        rw [hfull] at H1 H2 H3 H4
        go_wp2_with fail
        go_ret
        refine ⟨_, rfl, ⟨_, _, _, rfl, fun fuel w' => m_rMatch fuel _ w', fun w' => by kernel_rfl, fun w' k hs => ?_⟩, hx⟩
        have hbq' : Box w' (w.heap.size + 1) #[.string e.x, .pointer v1, .pointer v2, .string v3, .string v4, .pointer v5] 154 := (k _ (by omega) hbq.lt).trans hbq
        refine (rMatch_src (S := fun q => q ≠ (w.heap.size + 1) ∧ w.heap.size ≤ q) w' (w.heap.size + 1) e.x v1 _ (FW.keep (fun _ h _ => h) (fun q hq hl => k q hq.2 hl) H1.out) v2 _ (FY.keep (fun _ h _ => h) (fun q hq hl => k q hq.2 hl) H2.out) v3 _ H3.out v4 _ H4.out v5 _ (FilO.keep Hfi.out (fun _ h _ => h) (fun q hq hl => k q hq.2 hl) hs) hbq').mono ?_
        rintro r w'' ⟨v, rfl, hJ, hx'⟩
        obtain ⟨vx, rfl⟩ := jMap_iface hJ
        exact ⟨_, _, rfl, hJ, hx'⟩
end Go.Proofs.YtdjojnlejkljdaaGreat

