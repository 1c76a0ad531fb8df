/-
  What the thin package makes of a rule of intervals (RFuzzy).
-/
import Derived.Test.YtdjojnlejkljdaaGreatRu
import Derived.Test.YtdjojnlejkljdaaGreatPlainv
namespace Go.Proofs.YtdjojnlejkljdaaGreat
open Go.RowKit

set_option maxRecDepth 20000 in
set_option maxHeartbeats 4000000 in
theorem rFuzzy_src {S : Nat → Prop} (w : World) (bq : Nat) (f : ByteArray) (v1 : Option Addr) (o1 : Option T) (h1 : FW S w v1 o1) (v2 : Option Addr) (o2 : Option T) (h2 : FY S w v2 o2) (v3 : Value) (o3 : Option T) (h3 : FV v3 o3) (t3 : T) (ho3 : o3 = some t3) (hs3 : scalarT t3 = true) (v4 : ByteArray) (o4 : Option T) (h4 : v4 = fT o4) (v5 : ByteArray) (o5 : Option T) (h5 : v5 = fT o5) (hbq : Box w bq #[.string f, .pointer v1, .pointer v2, v3, .string v4, .string v5] 145) :
    Calls Tryz.prog 137 #[.pointer (some ⟨bq, 0, none⟩)] w fun r w' => ∃ v, r = .returned (.tuple #[v, .nilIface]) ∧ JAt (fun b => w.heap.size ≤ b) w' v (jMap [(s_fuzzy, jMap ([(s_term, J.str f)] ++ jW s_prefix_length (o1) ++ jY s_transpositions (o2) ++ jV s_fuzziness (o3) ++ jT s_analyzer (o4) ++ jT s_use_field (o5)))]) ∧ Ext w w' := by
  subst ho3
  have tok0 := trivial
  have hblt := hbq.lt
  have H1 := Lib.hid h1
  have H2 := Lib.hid h2
  have H3 := Lib.hid h3
  have H4 := Lib.hid h4
  have H5 := Lib.hid h5
  clear h1 h2 h3 h4 h5
  obtain ⟨ty3, xx3, hv3, hJJ3⟩ := H3.out
  have hcmp3 := neq_empty (hJJ3 w) hs3
  subst hv3
  have hc0 := (hbq.alloc (.map #[] 0)).cell 0 _ rfl
  have hc1 := (hbq.alloc (.map #[] 0)).cell 1 _ rfl
  have hc2 := (hbq.alloc (.map #[] 0)).cell 2 _ rfl
  have hc3 := (hbq.alloc (.map #[] 0)).cell 3 _ rfl
  have hc4 := (hbq.alloc (.map #[] 0)).cell 4 _ rfl
  have hc5 := (hbq.alloc (.map #[] 0)).cell 5 _ rfl
  go_enter Tryz.func137, Tryz.ntmps137
  go_upto_if 16 with (first
    | (at_mapUpdate; have _t := tok0; refine wp_put _ rfl _ _ _ 79 rfl 20 Tryz.underlying79 w.heap.size [] rfl (MapAt.at (by simp)) (by simp [maxLen]) s_term rfl (by decide) _ rfl ?_; intro w1 hm hg; clear tok0
       have hx1 : Ext w w1 := ext_put (ext_alloc (ext_refl _) _) hg (by omega)
       have hl0_1 := hm
       have hs0_1 := hl0_1.lt
       have hb1 := hbq.ext hx1
       have hc0 := hb1.cell 0 _ rfl
       have hc1 := hb1.cell 1 _ rfl
       have hc2 := hb1.cell 2 _ rfl
       have hc3 := hb1.cell 3 _ rfl
       have hc4 := hb1.cell 4 _ rfl
       have hc5 := hb1.cell 5 _ rfl
       clear hg hm)
    | fail)
  have hx0 : Ext w w1 := hx1
  have hm0 : MapAt w1 w.heap.size [(s_term, .iface 9 (.string f))] := hl0_1
  have hz0 := hm0.lt
  have hw0 : w.heap.size ≤ w.heap.size := by have := hx0.sz; omega
  have hp0 : PJ (fun b => w.heap.size < b) w1 [(s_term, .iface 9 (.string f))] ([(s_term, J.str f)]) := ⟨rfl, by simp only [List.map_cons, List.map_nil, JsAt]; exact ⟨(by simp [JAt]), trivial⟩⟩
  go_cut [] (fun wc => Ext w wc ∧ ∃ rp, rp.length ≤ 2 ∧ MapAt wc w.heap.size rp ∧ PJ (fun b => w.heap.size < b) wc rp ([(s_term, J.str f)] ++ jW s_prefix_length (o1)))
  case first =>
    cases o1 with
    | none =>
      have hv : v1 = none := H1.out
      subst hv
      go_wp2_with fail
      go_meet
      case rel =>
        refine ⟨hx0, [(s_term, .iface 9 (.string f))], by simp, hm0, ?_⟩
        rw [show jW s_prefix_length none = [] from rfl, List.append_nil]
        exact hp0
    | some t1 =>
      obtain ⟨cc, z1, hv, hSc, hcc, hzz⟩ := H1.out
      subst hv
      have hcc := hx0.cell hcc
      go_wp2_with (at_mapUpdate; refine wp_put _ rfl _ _ _ 79 rfl 20 Tryz.underlying79 w.heap.size [(s_term, .iface 9 (.string f))] rfl hm0 (by simp [maxLen]) s_prefix_length rfl (by decide) _ rfl ?_; intro wn hnn hgn)
      go_meet
      case rel =>
        have hxn := ext_put hx0 hgn (by omega)
        refine ⟨hxn, _, ?_, hnn, ?_⟩
        · rw [List.length_append]; exact Nat.succ_le_succ (by simp)
        · rw [show jW s_prefix_length (some t1) = [(s_prefix_length, .int z1)] from jW_some hzz]
          exact PJ.snoc (hp0.keep (fun _ h _ => h) (keeps_grown hgn (fun b hb e => by simp only [Option.some.injEq] at e; omega))) (by simp only [JAt]; rfl)
  case rest =>
    obtain ⟨hxc, rp, hr, hnc, hpc⟩ := hcut
    have hbc := hbq.ext hxc
    have hc0 := hbc.cell 0 _ rfl
    have hc1 := hbc.cell 1 _ rfl
    have hc2 := hbc.cell 2 _ rfl
    have hc3 := hbc.cell 3 _ rfl
    have hc4 := hbc.cell 4 _ rfl
    have hc5 := hbc.cell 5 _ rfl
    go_upto_if 29 with fail
    go_cut [] (fun wc => Ext w wc ∧ ∃ rp, rp.length ≤ 3 ∧ MapAt wc w.heap.size rp ∧ PJ (fun b => w.heap.size < b) wc rp ([(s_term, J.str f)] ++ jW s_prefix_length (o1) ++ jY s_transpositions (o2)))
    case first =>
      cases o2 with
      | none =>
        have hv : v2 = none := H2.out
        subst hv
        go_wp2_with fail
        go_meet
        case rel =>
          refine ⟨hxc, rp, Nat.le_succ_of_le hr, hnc, ?_⟩
          rw [show jY s_transpositions none = [] from rfl, List.append_nil]
          exact hpc
      | some t2 =>
        obtain ⟨cc, hv, hSc, hcc⟩ := H2.out
        subst hv
        have hcc := hxc.cell hcc
        go_wp2_with (at_mapUpdate; refine wp_put _ rfl _ _ _ 79 rfl 20 Tryz.underlying79 w.heap.size rp rfl hnc (Nat.lt_of_le_of_lt hr (by decide)) s_transpositions rfl (by decide) _ rfl ?_; intro wn hnn hgn)
        go_meet
        case rel =>
          have hxn := ext_put hxc hgn (by omega)
          refine ⟨hxn, _, ?_, hnn, ?_⟩
          · rw [List.length_append]; exact Nat.succ_le_succ (by exact hr)
          · rw [show jY s_transpositions (some t2) = [(s_transpositions, .yes t2.yes)] from rfl]
            exact PJ.snoc (hpc.keep (fun _ h _ => h) (keeps_grown hgn (fun b hb e => by simp only [Option.some.injEq] at e; omega))) (by simp only [JAt]; rfl)
    case rest =>
      obtain ⟨hxc, rp, hr, hnc, hpc⟩ := hcut
      have hbc := hbq.ext hxc
      have hc0 := hbc.cell 0 _ rfl
      have hc1 := hbc.cell 1 _ rfl
      have hc2 := hbc.cell 2 _ rfl
      have hc3 := hbc.cell 3 _ rfl
      have hc4 := hbc.cell 4 _ rfl
      have hc5 := hbc.cell 5 _ rfl
      go_upto_if 43 with fail
      go_cut [] (fun wc => Ext w wc ∧ ∃ rp, rp.length ≤ 4 ∧ MapAt wc w.heap.size rp ∧ PJ (fun b => w.heap.size < b) wc rp ([(s_term, J.str f)] ++ jW s_prefix_length (o1) ++ jY s_transpositions (o2) ++ jV s_fuzziness (some t3)))
      case first =>
          go_wp2_with (at_mapUpdate; refine wp_put _ rfl _ _ _ 79 rfl 20 Tryz.underlying79 w.heap.size rp rfl hnc (Nat.lt_of_le_of_lt hr (by decide)) s_fuzziness rfl (by decide) _ rfl ?_; intro wn hnn hgn)
          go_meet
          case rel =>
            have hxn := ext_put hxc hgn (by omega)
            refine ⟨hxn, _, ?_, hnn, ?_⟩
            · rw [List.length_append]; exact Nat.succ_le_succ (by exact hr)
            · rw [show jV s_fuzziness (some t3) = [(s_fuzziness, jOf t3)] from rfl]
              exact PJ.snoc (hpc.keep (fun _ h _ => h) (keeps_grown hgn (fun b hb e => by simp only [Option.some.injEq] at e; omega))) (JAt.no (w := w) (hJJ3 w))
      case rest =>
        obtain ⟨hxc, rp, hr, hnc, hpc⟩ := hcut
        have hbc := hbq.ext hxc
        have hc0 := hbc.cell 0 _ rfl
        have hc1 := hbc.cell 1 _ rfl
        have hc2 := hbc.cell 2 _ rfl
        have hc3 := hbc.cell 3 _ rfl
        have hc4 := hbc.cell 4 _ rfl
        have hc5 := hbc.cell 5 _ rfl
        go_upto_if 53 with fail
        go_cut [] (fun wc => Ext w wc ∧ ∃ rp, rp.length ≤ 5 ∧ MapAt wc w.heap.size rp ∧ PJ (fun b => w.heap.size < b) wc rp ([(s_term, J.str f)] ++ jW s_prefix_length (o1) ++ jY s_transpositions (o2) ++ jV s_fuzziness (some t3) ++ jT s_analyzer (o4)))
        case first =>
          cases hE : v4.toList.isEmpty
          · have hE1 := jT_some (k := s_analyzer) H4.out hE
            go_wp2_with (at_mapUpdate; refine wp_put _ rfl _ _ _ 79 rfl 20 Tryz.underlying79 w.heap.size rp rfl hnc (Nat.lt_of_le_of_lt hr (by decide)) s_analyzer rfl (by decide) _ rfl ?_; intro wn hnn hgn)
            go_meet
            case rel =>
              have hxn := ext_put hxc hgn (by omega)
              refine ⟨hxn, _, ?_, hnn, ?_⟩
              · rw [List.length_append]; exact Nat.succ_le_succ (by exact hr)
              · rw [hE1]
                exact PJ.snoc (hpc.keep (fun _ h _ => h) (keeps_grown hgn (fun b hb e => by simp only [Option.some.injEq] at e; omega))) (by simp only [JAt]; rfl)
          · have hE1 := jT_none (k := s_analyzer) H4.out hE
            go_wp2_with fail
            go_meet
            case rel =>
              refine ⟨hxc, rp, Nat.le_succ_of_le hr, hnc, ?_⟩
              rw [hE1, List.append_nil]
              exact hpc
        case rest =>
          obtain ⟨hxc, rp, hr, hnc, hpc⟩ := hcut
          have hbc := hbq.ext hxc
          have hc0 := hbc.cell 0 _ rfl
          have hc1 := hbc.cell 1 _ rfl
          have hc2 := hbc.cell 2 _ rfl
          have hc3 := hbc.cell 3 _ rfl
          have hc4 := hbc.cell 4 _ rfl
          have hc5 := hbc.cell 5 _ rfl
          go_upto_if 64 with fail
          go_cut [] (fun wc => Ext w wc ∧ ∃ rp, rp.length ≤ 6 ∧ MapAt wc w.heap.size rp ∧ PJ (fun b => w.heap.size < b) wc rp ([(s_term, J.str f)] ++ jW s_prefix_length (o1) ++ jY s_transpositions (o2) ++ jV s_fuzziness (some t3) ++ jT s_analyzer (o4) ++ jT s_use_field (o5)))
          case first =>
            cases hE : v5.toList.isEmpty
            · have hE1 := jT_some (k := s_use_field) H5.out hE
              go_wp2_with (at_mapUpdate; refine wp_put _ rfl _ _ _ 79 rfl 20 Tryz.underlying79 w.heap.size rp rfl hnc (Nat.lt_of_le_of_lt hr (by decide)) s_use_field rfl (by decide) _ rfl ?_; intro wn hnn hgn)
              go_meet
              case rel =>
                have hxn := ext_put hxc hgn (by omega)
                refine ⟨hxn, _, ?_, hnn, ?_⟩
                · rw [List.length_append]; exact Nat.succ_le_succ (by exact hr)
                · rw [hE1]
                  exact PJ.snoc (hpc.keep (fun _ h _ => h) (keeps_grown hgn (fun b hb e => by simp only [Option.some.injEq] at e; omega))) (by simp only [JAt]; rfl)
            · have hE1 := jT_none (k := s_use_field) H5.out hE
              go_wp2_with fail
              go_meet
              case rel =>
                refine ⟨hxc, rp, Nat.le_succ_of_le hr, hnc, ?_⟩
                rw [hE1, List.append_nil]
                exact hpc
          case rest =>
            obtain ⟨hxc, rp, hr, hnc, hpc⟩ := hcut
            have hbc := hbq.ext hxc
            have hc0 := hbc.cell 0 _ rfl
            have hc1 := hbc.cell 1 _ rfl
            have hc2 := hbc.cell 2 _ rfl
            have hc3 := hbc.cell 3 _ rfl
            have hc4 := hbc.cell 4 _ rfl
            have hc5 := hbc.cell 5 _ rfl
            have hncl := hnc.lt
            have hszc := hxc.sz
            have hja := (hpc.keep (S' := fun b => w.heap.size ≤ b) (fun b hb _ => Nat.le_of_lt hb) (fun _ _ _ => rfl)).map hnc (Nat.le_refl _) (by have := hpc.len; omega)
            go_wp2_with (first
              | (refine wp_ins _ rfl _ _ _ 79 rfl 20 Tryz.underlying79 wc.heap.size [] rfl (MapAt.at rfl) (by simp [maxLen]) s_fuzzy rfl (by decide) (.iface 79 (.map (some w.heap.size))) rfl ?_; intro wn hnn hgn)
              | fail)
            go_ret2
            have hxn := ext_put (ext_alloc hxc _) hgn (by omega)
            refine ⟨_, rfl, ?_, hxn⟩
            exact jMap_one hnn hszc (JAt.keep (fun _ h _ => h) (fun q hq hl => (hgn.block q (by simp; omega) (someNe (by omega))).trans (Below.heap_alloc _ _ _ hl)) _ hja)
theorem m_rFuzzy (fuel : Nat) (v : Value) (w : World) : (method (fuel + 1) 113 v "Source").run Tryz.prog w = .ok (137, v) w := by kernel_rfl
end Go.Proofs.YtdjojnlejkljdaaGreat

namespace Go.Proofs.YtdjojnlejkljdaaGreat
open Go.RowKit

set_option maxRecDepth 20000 in
set_option maxHeartbeats 4000000 in
theorem rFuzzy_any {S : Nat → Prop} (a : Option Addr) (n c : Nat) (ps : List (ByteArray × T)) (w : World) (e : Rv) (hW1 : WholeAt ps s_prefix_length) (hW3 : ScalarAt ps s_fuzziness) (tz : T) (hz : lastOf ps s_fuzziness = some tz) (h : PairsAt S w a n c ps) :
    Calls Tryz.prog 35 #[e.val, .slice a n c] w fun r w' => ∃ q, r = .returned q ∧ Gives (fun b => w.heap.size ≤ b) w' q (jMap [(s_fuzzy, jMap ([(s_term, J.str e.x)] ++ jW s_prefix_length (lastOf ps s_prefix_length) ++ jY s_transpositions (lastOf ps s_transpositions) ++ jV s_fuzziness (lastOf ps s_fuzziness) ++ jT s_analyzer (lastOf ps s_analyzer) ++ jT s_use_field (lastOf ps s_use_field)))]) ∧ Ext w w' := by
  obtain ⟨hl, hn, hm, hc⟩ := h
  unfold maxLen at hm
  have HL := Lib.hid hl
  clear hl
  have HW1 := Lib.hid hW1
  clear hW1
  have HW3 := Lib.hid hW3
  clear hW3
  simp only [Rv.val]
  go_enter Tryz.func35, Tryz.ntmps35
  go_wp2_with go_in
  go_loopw [13] (fun i wr => Ext w wr ∧ (w.heap.size + 2) ≤ wr.heap.size ∧ Box wr w.heap.size e.arr 29 ∧ ∃ (j : Nat) (v1 : Option Addr) (v2 : Option Addr) (v3 : Value) (v4 : ByteArray) (v5 : ByteArray), j ≤ n ∧ i = .int .i64 j ∧ Box wr (w.heap.size + 1) #[.string e.x, .pointer v1, .pointer v2, v3, .string v4, .string v5] 145 ∧ FW (fun q => q ≠ (w.heap.size + 1) ∧ w.heap.size ≤ q) wr v1 (lastOf (ps.take j) s_prefix_length) ∧ FY (fun q => q ≠ (w.heap.size + 1) ∧ w.heap.size ≤ q) wr v2 (lastOf (ps.take j) s_transpositions) ∧ FV v3 (lastOf (ps.take j) s_fuzziness) ∧ v4 = fT (lastOf (ps.take j) s_analyzer) ∧ v5 = fT (lastOf (ps.take j) s_use_field)) (fun i _ => n - (intOf i).toNat)
  case atStart => exact ⟨by (repeat (first | exact ext_refl _ | assumption | refine ext_alloc ?_ _ | refine ext_drew ?_ | refine ext_set ?_ (by simp) _ | refine ext_trans ?_ (by assumption))), by simp, (Box.at rfl _ _).alloc _, 0, _, _, _, _, _, Nat.zero_le _, rfl, Box.at (by simp) _ _, rfl, rfl, rfl, rfl, rfl⟩
  case round =>
    obtain ⟨hx, hsz, hb0, j, v1, v2, v3, v4, v5, hj, rfl, hbq, h1, h2, h3, h4, h5⟩ := hrel
    have H1 := Lib.hid h1
    have H2 := Lib.hid h2
    have H3 := Lib.hid h3
    have H4 := Lib.hid h4
    have H5 := Lib.hid h5
    clear h1 h2 h3 h4 h5
    have hbql := hbq.lt
    by_cases hlt : j < n
    · obtain ⟨p, hp⟩ := some_of_lt HL.out hlt
      obtain ⟨b, off, ⟨k, x, d, y, ka, kn, kc, ca, m, cc⟩, rfl, hSb, hc7, hT⟩ := hc j p hp
      obtain ⟨z0, z1, z2, z3, z4, z5, z6⟩ := Cells7.ext hx hc7
      have HP := Lib.hid hp
      have hl0 : w.heap.size < wr.heap.size := by omega
      have hl1 : ¬ w.heap.size = wr.heap.size := by omega
      have hl2 : (w.heap.size + 1) < wr.heap.size + 1 := by omega
      have hTx := Lib.hid hT.parts.2.1
      have hTd := Lib.hid hT.parts.2.2.1
      have hTy := Lib.hid hT.parts.2.2.2.1
      clear hp
      have HTT := Lib.hid (fun (w1 : World) (xx : Ext w w1) (hs : scalarT p.2 = true) => plain_any _ _ w1 (hT.ext xx) hs)
      clear hT
      have hc0 := hbq.cell 0 _ rfl
      have hf0 := hbq.free 0
      have hc1 := hbq.cell 1 _ rfl
      have hf1 := hbq.free 1
      have hc2 := hbq.cell 2 _ rfl
      have hf2 := hbq.free 2
      have hc3 := hbq.cell 3 _ rfl
      have hf3 := hbq.free 3
      have hc4 := hbq.cell 4 _ rfl
      have hf4 := hbq.free 4
      have hc5 := hbq.cell 5 _ rfl
      have hf5 := hbq.free 5
      cases he0 : p.1.toList == [97, 110, 97, 108, 121, 122, 101, 114]
      · have e0 : seq p.1 s_analyzer = false := by rw [seq, show s_analyzer.toList = [97, 110, 97, 108, 121, 122, 101, 114] by rw [Lib.toList_data]]; exact he0
        cases he1 : p.1.toList == [102, 117, 122, 122, 105, 110, 101, 115, 115]
        · have e1 : seq p.1 s_fuzziness = false := by rw [seq, show s_fuzziness.toList = [102, 117, 122, 122, 105, 110, 101, 115, 115] by rw [Lib.toList_data]]; exact he1
          cases he2 : p.1.toList == [112, 114, 101, 102, 105, 120, 95, 108, 101, 110, 103, 116, 104]
          · have e2 : seq p.1 s_prefix_length = false := by rw [seq, show s_prefix_length.toList = [112, 114, 101, 102, 105, 120, 95, 108, 101, 110, 103, 116, 104] by rw [Lib.toList_data]]; exact he2
            cases he3 : p.1.toList == [116, 114, 97, 110, 115, 112, 111, 115, 105, 116, 105, 111, 110, 115]
            · have e3 : seq p.1 s_transpositions = false := by rw [seq, show s_transpositions.toList = [116, 114, 97, 110, 115, 112, 111, 115, 105, 116, 105, 111, 110, 115] by rw [Lib.toList_data]]; exact he3
              cases he4 : p.1.toList == [117, 115, 101, 95, 102, 105, 101, 108, 100]
              · have e4 : seq p.1 s_use_field = false := by rw [seq, show s_use_field.toList = [117, 115, 101, 95, 102, 105, 101, 108, 100] by rw [Lib.toList_data]]; exact he4
                go_wp2_with go_in
                go_roundw
                case rel =>
                  have hy := ext_alloc (ext_refl wr) (.cells #[.string p.1, .int .i64 k, .string x, .float .f64 d, .bool y, .slice ka kn kc, .slice ca m cc] 73)
                  exact ⟨ext_trans hx hy, Nat.le_trans hsz hy.sz, hb0.ext hy, j + 1, v1, v2, v3, v4, v5, by omega, by go_num, hbq.ext hy, by rw [last_miss HP.out e2]; exact FW.ext hy H1.out, by rw [last_miss HP.out e3]; exact FY.ext hy H2.out, by rw [last_miss HP.out e1]; exact H3.out, by rw [last_miss HP.out e0]; exact H4.out, by rw [last_miss HP.out e4]; exact H5.out⟩
                case measure => simp [intOf]; omega
              · have e4 : seq p.1 s_use_field = true := by rw [seq, show s_use_field.toList = [117, 115, 101, 95, 102, 105, 101, 108, 100] by rw [Lib.toList_data]]; exact he4
                go_wp2_with go_in
                go_roundw
                case rel =>
                  have hk : Keeps (fun q => q ≠ (w.heap.size + 1) ∧ w.heap.size ≤ q) wr ((wr.setCell ⟨(w.heap.size + 1), 5, none⟩ (.string x)).alloc (.cells #[.string p.1, .int .i64 k, .string x, .float .f64 d, .bool y, .slice ka kn kc, .slice ca m cc] 73)) := fun q hq hlt => (Below.heap_alloc _ _ _ (by simpa using hlt)).trans (Below.heap_setCell _ _ _ _ (by simp <;> omega))
                  exact ⟨ext_alloc (ext_set hx (by simp <;> omega) _) _, by simp; omega, (hb0.other (by simp <;> omega) _).alloc _, j + 1, v1, v2, v3, v4, x, by omega, by go_num, (hbq.set 5 _).alloc _, by rw [last_other HP.out e4 (seq_false.2 (by decide))]; exact FW.keep (fun _ h _ => h) hk H1.out, by rw [last_other HP.out e4 (seq_false.2 (by decide))]; exact FY.keep (fun _ h _ => h) hk H2.out, by rw [last_other HP.out e4 (seq_false.2 (by decide))]; exact H3.out, by rw [last_other HP.out e4 (seq_false.2 (by decide))]; exact H4.out, by rw [last_hit HP.out e4]; exact hTx.out⟩
                case measure => simp [intOf]; omega
            · have e3 : seq p.1 s_transpositions = true := by rw [seq, show s_transpositions.toList = [116, 114, 97, 110, 115, 112, 111, 115, 105, 116, 105, 111, 110, 115] by rw [Lib.toList_data]]; exact he3
              go_wp2_with go_in
              go_roundw
              case rel =>
                have hk : Keeps (fun q => q ≠ (w.heap.size + 1) ∧ w.heap.size ≤ q) wr (((wr.setCell ⟨(w.heap.size + 1), 2, none⟩ (.pointer (some ⟨wr.heap.size + 1, 0, none⟩))).alloc (.cells #[.string p.1, .int .i64 k, .string x, .float .f64 d, .bool y, .slice ka kn kc, .slice ca m cc] 73)).alloc (.cells #[.bool y] 4)) := fun q hq hlt => (Below.heap_alloc _ _ _ (by simp <;> omega)).trans ((Below.heap_alloc _ _ _ (by simpa using hlt)).trans (Below.heap_setCell _ _ _ _ (by simp <;> omega)))
                have hnew : (((wr.setCell ⟨(w.heap.size + 1), 2, none⟩ (.pointer (some ⟨wr.heap.size + 1, 0, none⟩))).alloc (.cells #[.string p.1, .int .i64 k, .string x, .float .f64 d, .bool y, .slice ka kn kc, .slice ca m cc] 73)).alloc (.cells #[.bool y] 4)).cell? ⟨wr.heap.size + 1, 0, none⟩ = some (.bool y) := (Box.at (by simp) _ _).cell 0 _ rfl
                exact ⟨ext_alloc (ext_alloc (ext_set hx (by simp <;> omega) _) _) _, by simp; omega, ((hb0.other (by simp <;> omega) _).alloc _).alloc _, j + 1, v1, some ⟨wr.heap.size + 1, 0, none⟩, v3, v4, v5, by omega, by go_num, ((hbq.set 2 _).alloc _).alloc _, by rw [last_other HP.out e3 (seq_false.2 (by decide))]; exact FW.keep (fun _ h _ => h) hk H1.out, by rw [last_hit HP.out e3]; exact ⟨wr.heap.size + 1, rfl, by omega, by rw [← hTy.out]; exact hnew⟩, by rw [last_other HP.out e3 (seq_false.2 (by decide))]; exact H3.out, by rw [last_other HP.out e3 (seq_false.2 (by decide))]; exact H4.out, by rw [last_other HP.out e3 (seq_false.2 (by decide))]; exact H5.out⟩
              case measure => simp [intOf]; omega
          · have e2 : seq p.1 s_prefix_length = true := by rw [seq, show s_prefix_length.toList = [112, 114, 101, 102, 105, 120, 95, 108, 101, 110, 103, 116, 104] by rw [Lib.toList_data]]; exact he2
            obtain ⟨z, hz, -⟩ := HW1.out p (List.mem_of_getElem? HP.out) e2
            have hcv : ∀ w, (convert 32 3 (.float .f64 d)).run Tryz.prog w = .ok (.int .i64 z) w := fun w => run_convert_float_int w 32 3 .f64 .i64 d z (by rw [Tryz.underlying32]; rfl) Tryz.underlying3 (show floatToIntVal .f64 d .i64 = some z from by have h9 : d = p.2.num := hTd.out; rw [h9]; exact hz)
            have HZ := Lib.hid hz
            clear hz
            go_wp2_with go_in
            go_roundw
            case rel =>
              have hk : Keeps (fun q => q ≠ (w.heap.size + 1) ∧ w.heap.size ≤ q) wr (((wr.setCell ⟨(w.heap.size + 1), 1, none⟩ (.pointer (some ⟨wr.heap.size + 1, 0, none⟩))).alloc (.cells #[.string p.1, .int .i64 k, .string x, .float .f64 d, .bool y, .slice ka kn kc, .slice ca m cc] 73)).alloc (.cells #[.int .i64 z] 3)) := fun q hq hlt => (Below.heap_alloc _ _ _ (by simp <;> omega)).trans ((Below.heap_alloc _ _ _ (by simpa using hlt)).trans (Below.heap_setCell _ _ _ _ (by simp <;> omega)))
              have hnew : (((wr.setCell ⟨(w.heap.size + 1), 1, none⟩ (.pointer (some ⟨wr.heap.size + 1, 0, none⟩))).alloc (.cells #[.string p.1, .int .i64 k, .string x, .float .f64 d, .bool y, .slice ka kn kc, .slice ca m cc] 73)).alloc (.cells #[.int .i64 z] 3)).cell? ⟨wr.heap.size + 1, 0, none⟩ = some (.int .i64 z) := (Box.at (by simp) _ _).cell 0 _ rfl
              exact ⟨ext_alloc (ext_alloc (ext_set hx (by simp <;> omega) _) _) _, by simp; omega, ((hb0.other (by simp <;> omega) _).alloc _).alloc _, j + 1, some ⟨wr.heap.size + 1, 0, none⟩, v2, v3, v4, v5, by omega, by go_num, ((hbq.set 1 _).alloc _).alloc _, by rw [last_hit HP.out e2]; exact ⟨wr.heap.size + 1, z, rfl, by omega, hnew, HZ.out⟩, by rw [last_other HP.out e2 (seq_false.2 (by decide))]; exact FY.keep (fun _ h _ => h) hk H2.out, by rw [last_other HP.out e2 (seq_false.2 (by decide))]; exact H3.out, by rw [last_other HP.out e2 (seq_false.2 (by decide))]; exact H4.out, by rw [last_other HP.out e2 (seq_false.2 (by decide))]; exact H5.out⟩
            case measure => simp [intOf]; omega
        · have e1 : seq p.1 s_fuzziness = true := by rw [seq, show s_fuzziness.toList = [102, 117, 122, 122, 105, 110, 101, 115, 115] by rw [Lib.toList_data]]; exact he1
          have HSC := Lib.hid (HW3.out p (List.mem_of_getElem? HP.out) e1)
          have hnn := ext_alloc (ext_refl wr) (.cells #[.string p.1, .int .i64 k, .string x, .float .f64 d, .bool y, .slice ka kn kc, .slice ca m cc] 73)
          have HPL := Lib.hid (HTT.out _ (ext_trans hx hnn) HSC.out)
          go_wp2_with (first
            | (go_at_call 66; refine HPL.out.mono ?_; rintro r wl ⟨pv, rfl, hJ, hxl⟩; obtain ⟨tyv, xv, rfl⟩ := plain_iface HSC.out hJ; have HJ := Lib.hid hJ; clear hJ
               have hyl := ext_trans hnn hxl; have hbl := hbq.ext hyl; have hbl0 := hb0.ext hyl; have hsl := hyl.sz
               have hc0 := hbl.cell 0 _ rfl; have hf0 := hbl.free 0
               have hc1 := hbl.cell 1 _ rfl; have hf1 := hbl.free 1
               have hc2 := hbl.cell 2 _ rfl; have hf2 := hbl.free 2
               have hc3 := hbl.cell 3 _ rfl; have hf3 := hbl.free 3
               have hc4 := hbl.cell 4 _ rfl; have hf4 := hbl.free 4
               have hc5 := hbl.cell 5 _ rfl; have hf5 := hbl.free 5
               have g0 := hbl.lt; have g1 : ¬ w.heap.size = wl.heap.size := by omega)
            | go_in)
          go_roundw
          case rel =>
            have hk : Keeps (fun q => q ≠ (w.heap.size + 1) ∧ w.heap.size ≤ q) wr (wl.setCell ⟨(w.heap.size + 1), 3, none⟩ (.iface tyv xv)) := fun q hq hlt => (Below.heap_setCell _ _ _ _ (by simp <;> omega)).trans (hyl.block q hlt)
            repeat apply Exists.intro
            refine And.intro ?_ rfl
            exact ⟨ext_set (ext_trans hx hyl) (by simp <;> omega) _, by simp; omega, hbl0.other (p := ⟨(w.heap.size + 1), 3, none⟩) (by simp <;> omega) (.iface tyv xv), j + 1, v1, v2, _, v4, v5, by omega, by go_num, hbl.set 3 _, by rw [last_other HP.out e1 (seq_false.2 (by decide))]; exact FW.keep (fun _ h _ => h) hk H1.out, by rw [last_other HP.out e1 (seq_false.2 (by decide))]; exact FY.keep (fun _ h _ => h) hk H2.out, by rw [last_hit HP.out e1]; exact ⟨tyv, xv, rfl, fun _ => JAt.no HJ.out⟩, by rw [last_other HP.out e1 (seq_false.2 (by decide))]; exact H4.out, by rw [last_other HP.out e1 (seq_false.2 (by decide))]; exact H5.out⟩
          case measure => simp [intOf]; omega
      · have e0 : seq p.1 s_analyzer = true := by rw [seq, show s_analyzer.toList = [97, 110, 97, 108, 121, 122, 101, 114] by rw [Lib.toList_data]]; exact he0
        go_wp2_with go_in
        go_roundw
        case rel =>
          have hk : Keeps (fun q => q ≠ (w.heap.size + 1) ∧ w.heap.size ≤ q) wr ((wr.setCell ⟨(w.heap.size + 1), 4, none⟩ (.string x)).alloc (.cells #[.string p.1, .int .i64 k, .string x, .float .f64 d, .bool y, .slice ka kn kc, .slice ca m cc] 73)) := fun q hq hlt => (Below.heap_alloc _ _ _ (by simpa using hlt)).trans (Below.heap_setCell _ _ _ _ (by simp <;> omega))
          exact ⟨ext_alloc (ext_set hx (by simp <;> omega) _) _, by simp; omega, (hb0.other (by simp <;> omega) _).alloc _, j + 1, v1, v2, v3, x, v5, by omega, by go_num, (hbq.set 4 _).alloc _, by rw [last_other HP.out e0 (seq_false.2 (by decide))]; exact FW.keep (fun _ h _ => h) hk H1.out, by rw [last_other HP.out e0 (seq_false.2 (by decide))]; exact FY.keep (fun _ h _ => h) hk H2.out, by rw [last_other HP.out e0 (seq_false.2 (by decide))]; exact H3.out, by rw [last_hit HP.out e0]; exact hTx.out, by rw [last_other HP.out e0 (seq_false.2 (by decide))]; exact H5.out⟩
        case measure => simp [intOf]; omega
    · have hjn : j = n := by omega
      have hfull : ps.take j = ps := List.take_of_length_le (by have := HL.out; omega)
      rw [hfull] at H1 H2 H3 H4 H5
      go_wp2_with fail
      go_ret
      refine ⟨_, rfl, ⟨_, _, _, rfl, fun fuel w' => m_rFuzzy fuel _ w', fun w' => by kernel_rfl, fun w' k hs => ?_⟩, hx⟩
      have hbq' : Box w' (w.heap.size + 1) #[.string e.x, .pointer v1, .pointer v2, v3, .string v4, .string v5] 145 := (k _ (by omega) hbq.lt).trans hbq
      refine (rFuzzy_src (S := fun q => q ≠ (w.heap.size + 1) ∧ w.heap.size ≤ q) w' (w.heap.size + 1) e.x v1 _ (FW.keep (fun _ h _ => h) (fun q hq hl => k q hq.2 hl) H1.out) v2 _ (FY.keep (fun _ h _ => h) (fun q hq hl => k q hq.2 hl) H2.out) v3 _ H3.out tz hz (HW3.out _ (lastOf_mem hz) (seq_self _)) v4 _ H4.out v5 _ H5.out hbq').mono ?_
      rintro r w'' ⟨v, rfl, hJ, hx'⟩
      obtain ⟨vx, rfl⟩ := jMap_iface hJ
      exact ⟨_, _, rfl, hJ, hx'⟩
end Go.Proofs.YtdjojnlejkljdaaGreat

