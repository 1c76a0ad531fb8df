/-
  What the thin package makes of a rule of intervals (RPrefix).
-/
import Derived.Test.YtdjojnlejkljdaaGreatRu
namespace Go.Proofs.YtdjojnlejkljdaaGreat
open Go.RowKit

set_option maxRecDepth 20000 in
set_option maxHeartbeats 4000000 in
theorem rPrefix_src {_S : Nat → Prop} (w : World) (bq : Nat) (f : ByteArray) (v1 : ByteArray) (o1 : Option T) (h1 : v1 = fT o1) (v2 : ByteArray) (o2 : Option T) (h2 : v2 = fT o2) (hbq : Box w bq #[.string f, .string v1, .string v2] 141) :
    Calls Tryz.prog 133 #[.pointer (some ⟨bq, 0, none⟩)] w fun r w' => ∃ v, r = .returned (.tuple #[v, .nilIface]) ∧ JAt (fun b => w.heap.size ≤ b) w' v (jMap [(s_prefix, jMap ([(s_prefix, J.str f)] ++ jT s_analyzer (o1) ++ jT s_use_field (o2)))]) ∧ Ext w w' := by
  have tok0 := trivial
  have hblt := hbq.lt
  have H1 := Lib.hid h1
  have H2 := Lib.hid h2
  clear h1 h2
  have hc0 := (hbq.alloc (.map #[] 0)).cell 0 _ rfl
  have hc1 := (hbq.alloc (.map #[] 0)).cell 1 _ rfl
  have hc2 := (hbq.alloc (.map #[] 0)).cell 2 _ rfl
  go_enter Tryz.func133, Tryz.ntmps133
  go_upto_if 16 with (first
    | (at_mapUpdate; have _t := tok0; refine wp_put _ rfl _ _ _ 79 rfl 20 Tryz.underlying79 w.heap.size [] rfl (MapAt.at (by simp)) (by simp [maxLen]) s_prefix rfl (by decide) _ rfl ?_; intro w1 hm hg; clear tok0
       have hx1 : Ext w w1 := ext_put (ext_alloc (ext_refl _) _) hg (by omega)
       have hl0_1 := hm
       have hs0_1 := hl0_1.lt
       have hb1 := hbq.ext hx1
       have hc0 := hb1.cell 0 _ rfl
       have hc1 := hb1.cell 1 _ rfl
       have hc2 := hb1.cell 2 _ rfl
       clear hg hm)
    | fail)
  have hx0 : Ext w w1 := hx1
  have hm0 : MapAt w1 w.heap.size [(s_prefix, .iface 9 (.string f))] := hl0_1
  have hz0 := hm0.lt
  have hw0 : w.heap.size ≤ w.heap.size := by have := hx0.sz; omega
  have hp0 : PJ (fun b => w.heap.size < b) w1 [(s_prefix, .iface 9 (.string f))] ([(s_prefix, J.str f)]) := ⟨rfl, by simp only [List.map_cons, List.map_nil, JsAt]; exact ⟨(by simp [JAt]), trivial⟩⟩
  go_cut [] (fun wc => Ext w wc ∧ ∃ rp, rp.length ≤ 2 ∧ MapAt wc w.heap.size rp ∧ PJ (fun b => w.heap.size < b) wc rp ([(s_prefix, J.str f)] ++ jT s_analyzer (o1)))
  case first =>
    cases hE : v1.toList.isEmpty
    · have hE1 := jT_some (k := s_analyzer) H1.out hE
      go_wp2_with (at_mapUpdate; refine wp_put _ rfl _ _ _ 79 rfl 20 Tryz.underlying79 w.heap.size [(s_prefix, .iface 9 (.string f))] rfl hm0 (by simp [maxLen]) s_analyzer rfl (by decide) _ rfl ?_; intro wn hnn hgn)
      go_meet
      case rel =>
        have hxn := ext_put hx0 hgn (by omega)
        refine ⟨hxn, _, ?_, hnn, ?_⟩
        · rw [List.length_append]; exact Nat.succ_le_succ (by simp)
        · rw [hE1]
          exact PJ.snoc (hp0.keep (fun _ h _ => h) (keeps_grown hgn (fun b hb e => by simp only [Option.some.injEq] at e; omega))) (by simp only [JAt]; rfl)
    · have hE1 := jT_none (k := s_analyzer) H1.out hE
      go_wp2_with fail
      go_meet
      case rel =>
        refine ⟨hx0, [(s_prefix, .iface 9 (.string f))], by simp, hm0, ?_⟩
        rw [hE1, List.append_nil]
        exact hp0
  case rest =>
    obtain ⟨hxc, rp, hr, hnc, hpc⟩ := hcut
    have hbc := hbq.ext hxc
    have hc0 := hbc.cell 0 _ rfl
    have hc1 := hbc.cell 1 _ rfl
    have hc2 := hbc.cell 2 _ rfl
    go_upto_if 27 with fail
    go_cut [] (fun wc => Ext w wc ∧ ∃ rp, rp.length ≤ 3 ∧ MapAt wc w.heap.size rp ∧ PJ (fun b => w.heap.size < b) wc rp ([(s_prefix, J.str f)] ++ jT s_analyzer (o1) ++ jT s_use_field (o2)))
    case first =>
      cases hE : v2.toList.isEmpty
      · have hE1 := jT_some (k := s_use_field) H2.out hE
        go_wp2_with (at_mapUpdate; refine wp_put _ rfl _ _ _ 79 rfl 20 Tryz.underlying79 w.heap.size rp rfl hnc (Nat.lt_of_le_of_lt hr (by decide)) s_use_field rfl (by decide) _ rfl ?_; intro wn hnn hgn)
        go_meet
        case rel =>
          have hxn := ext_put hxc hgn (by omega)
          refine ⟨hxn, _, ?_, hnn, ?_⟩
          · rw [List.length_append]; exact Nat.succ_le_succ (by exact hr)
          · rw [hE1]
            exact PJ.snoc (hpc.keep (fun _ h _ => h) (keeps_grown hgn (fun b hb e => by simp only [Option.some.injEq] at e; omega))) (by simp only [JAt]; rfl)
      · have hE1 := jT_none (k := s_use_field) H2.out hE
        go_wp2_with fail
        go_meet
        case rel =>
          refine ⟨hxc, rp, Nat.le_succ_of_le hr, hnc, ?_⟩
          rw [hE1, List.append_nil]
          exact hpc
    case rest =>
      obtain ⟨hxc, rp, hr, hnc, hpc⟩ := hcut
      have hbc := hbq.ext hxc
      have hc0 := hbc.cell 0 _ rfl
      have hc1 := hbc.cell 1 _ rfl
      have hc2 := hbc.cell 2 _ rfl
      have hncl := hnc.lt
      have hszc := hxc.sz
      have hja := (hpc.keep (S' := fun b => w.heap.size ≤ b) (fun b hb _ => Nat.le_of_lt hb) (fun _ _ _ => rfl)).map hnc (Nat.le_refl _) (by have := hpc.len; omega)
      go_wp2_with (first
        | (refine wp_ins _ rfl _ _ _ 79 rfl 20 Tryz.underlying79 wc.heap.size [] rfl (MapAt.at rfl) (by simp [maxLen]) s_prefix rfl (by decide) (.iface 79 (.map (some w.heap.size))) rfl ?_; intro wn hnn hgn)
        | fail)
      go_ret2
      have hxn := ext_put (ext_alloc hxc _) hgn (by omega)
      refine ⟨_, rfl, ?_, hxn⟩
      exact jMap_one hnn hszc (JAt.keep (fun _ h _ => h) (fun q hq hl => (hgn.block q (by simp; omega) (someNe (by omega))).trans (Below.heap_alloc _ _ _ hl)) _ hja)
theorem m_rPrefix (fuel : Nat) (v : Value) (w : World) : (method (fuel + 1) 109 v "Source").run Tryz.prog w = .ok (133, v) w := by kernel_rfl
end Go.Proofs.YtdjojnlejkljdaaGreat

namespace Go.Proofs.YtdjojnlejkljdaaGreat
open Go.RowKit

set_option maxRecDepth 20000 in
set_option maxHeartbeats 4000000 in
theorem rPrefix_any {S : Nat → Prop} (a : Option Addr) (n c : Nat) (ps : List (ByteArray × T)) (w : World) (e : Rv) (h : PairsAt S w a n c ps) :
    Calls Tryz.prog 33 #[e.val, .slice a n c] w fun r w' => ∃ q, r = .returned q ∧ Gives (fun b => w.heap.size ≤ b) w' q (jMap [(s_prefix, jMap ([(s_prefix, J.str e.x)] ++ jT s_analyzer (lastOf ps s_analyzer) ++ jT s_use_field (lastOf ps s_use_field)))]) ∧ Ext w w' := by
  obtain ⟨hl, hn, hm, hc⟩ := h
  unfold maxLen at hm
  have HL := Lib.hid hl
  clear hl
  simp only [Rv.val]
  go_enter Tryz.func33, Tryz.ntmps33
  go_wp2_with go_in
  go_loopw [13] (fun i wr => Ext w wr ∧ (w.heap.size + 2) ≤ wr.heap.size ∧ Box wr w.heap.size e.arr 29 ∧ ∃ (j : Nat) (v1 : ByteArray) (v2 : ByteArray), j ≤ n ∧ i = .int .i64 j ∧ Box wr (w.heap.size + 1) #[.string e.x, .string v1, .string v2] 141 ∧ v1 = fT (lastOf (ps.take j) s_analyzer) ∧ v2 = fT (lastOf (ps.take j) s_use_field)) (fun i _ => n - (intOf i).toNat)
  case atStart => exact ⟨by (repeat (first | exact ext_refl _ | assumption | refine ext_alloc ?_ _ | refine ext_drew ?_ | refine ext_set ?_ (by simp) _ | refine ext_trans ?_ (by assumption))), by simp, (Box.at rfl _ _).alloc _, 0, _, _, Nat.zero_le _, rfl, Box.at (by simp) _ _, rfl, rfl⟩
  case round =>
    obtain ⟨hx, hsz, hb0, j, v1, v2, hj, rfl, hbq, h1, h2⟩ := hrel
    have H1 := Lib.hid h1
    have H2 := Lib.hid h2
    clear h1 h2
    have hbql := hbq.lt
    by_cases hlt : j < n
    · obtain ⟨p, hp⟩ := some_of_lt HL.out hlt
      obtain ⟨b, off, ⟨k, x, d, y, ka, kn, kc, ca, m, cc⟩, rfl, hSb, hc7, hT⟩ := hc j p hp
      obtain ⟨z0, z1, z2, z3, z4, z5, z6⟩ := Cells7.ext hx hc7
      have HP := Lib.hid hp
      have hl0 : w.heap.size < wr.heap.size := by omega
      have hl1 : ¬ w.heap.size = wr.heap.size := by omega
      have hl2 : (w.heap.size + 1) < wr.heap.size + 1 := by omega
      have hTx := Lib.hid hT.parts.2.1
      have hTd := Lib.hid hT.parts.2.2.1
      have hTy := Lib.hid hT.parts.2.2.2.1
      clear hp
      have hc0 := hbq.cell 0 _ rfl
      have hf0 := hbq.free 0
      have hc1 := hbq.cell 1 _ rfl
      have hf1 := hbq.free 1
      have hc2 := hbq.cell 2 _ rfl
      have hf2 := hbq.free 2
      cases he0 : p.1.toList == [97, 110, 97, 108, 121, 122, 101, 114]
      · have e0 : seq p.1 s_analyzer = false := by rw [seq, show s_analyzer.toList = [97, 110, 97, 108, 121, 122, 101, 114] by rw [Lib.toList_data]]; exact he0
        cases he1 : p.1.toList == [117, 115, 101, 95, 102, 105, 101, 108, 100]
        · have e1 : seq p.1 s_use_field = false := by rw [seq, show s_use_field.toList = [117, 115, 101, 95, 102, 105, 101, 108, 100] by rw [Lib.toList_data]]; exact he1
          go_wp2_with go_in
          go_roundw
          case rel =>
            have hy := ext_alloc (ext_refl wr) (.cells #[.string p.1, .int .i64 k, .string x, .float .f64 d, .bool y, .slice ka kn kc, .slice ca m cc] 73)
            exact ⟨ext_trans hx hy, Nat.le_trans hsz hy.sz, hb0.ext hy, j + 1, v1, v2, by omega, by go_num, hbq.ext hy, by rw [last_miss HP.out e0]; exact H1.out, by rw [last_miss HP.out e1]; exact H2.out⟩
          case measure => simp [intOf]; omega
        · have e1 : seq p.1 s_use_field = true := by rw [seq, show s_use_field.toList = [117, 115, 101, 95, 102, 105, 101, 108, 100] by rw [Lib.toList_data]]; exact he1
          go_wp2_with go_in
          go_roundw
          case rel =>
            have hk : Keeps (fun q => q ≠ (w.heap.size + 1) ∧ w.heap.size ≤ q) wr ((wr.setCell ⟨(w.heap.size + 1), 2, none⟩ (.string x)).alloc (.cells #[.string p.1, .int .i64 k, .string x, .float .f64 d, .bool y, .slice ka kn kc, .slice ca m cc] 73)) := fun q hq hlt => (Below.heap_alloc _ _ _ (by simpa using hlt)).trans (Below.heap_setCell _ _ _ _ (by simp <;> omega))
            exact ⟨ext_alloc (ext_set hx (by simp <;> omega) _) _, by simp; omega, (hb0.other (by simp <;> omega) _).alloc _, j + 1, v1, x, by omega, by go_num, (hbq.set 2 _).alloc _, by rw [last_other HP.out e1 (seq_false.2 (by decide))]; exact H1.out, by rw [last_hit HP.out e1]; exact hTx.out⟩
          case measure => simp [intOf]; omega
      · have e0 : seq p.1 s_analyzer = true := by rw [seq, show s_analyzer.toList = [97, 110, 97, 108, 121, 122, 101, 114] by rw [Lib.toList_data]]; exact he0
        go_wp2_with go_in
        go_roundw
        case rel =>
          have hk : Keeps (fun q => q ≠ (w.heap.size + 1) ∧ w.heap.size ≤ q) wr ((wr.setCell ⟨(w.heap.size + 1), 1, none⟩ (.string x)).alloc (.cells #[.string p.1, .int .i64 k, .string x, .float .f64 d, .bool y, .slice ka kn kc, .slice ca m cc] 73)) := fun q hq hlt => (Below.heap_alloc _ _ _ (by simpa using hlt)).trans (Below.heap_setCell _ _ _ _ (by simp <;> omega))
          exact ⟨ext_alloc (ext_set hx (by simp <;> omega) _) _, by simp; omega, (hb0.other (by simp <;> omega) _).alloc _, j + 1, x, v2, by omega, by go_num, (hbq.set 1 _).alloc _, by rw [last_hit HP.out e0]; exact hTx.out, by rw [last_other HP.out e0 (seq_false.2 (by decide))]; exact H2.out⟩
        case measure => simp [intOf]; omega
    · have hjn : j = n := by omega
      have hfull : ps.take j = ps := List.take_of_length_le (by have := HL.out; omega)
      rw [hfull] at H1 H2
      go_wp2_with fail
      go_ret
      refine ⟨_, rfl, ⟨_, _, _, rfl, fun fuel w' => m_rPrefix fuel _ w', fun w' => by kernel_rfl, fun w' k hs => ?_⟩, hx⟩
      have hbq' : Box w' (w.heap.size + 1) #[.string e.x, .string v1, .string v2] 141 := (k _ (by omega) hbq.lt).trans hbq
      refine (rPrefix_src (_S := fun q => q ≠ (w.heap.size + 1) ∧ w.heap.size ≤ q) w' (w.heap.size + 1) e.x v1 _ H1.out v2 _ H2.out hbq').mono ?_
      rintro r w'' ⟨v, rfl, hJ, hx'⟩
      obtain ⟨vx, rfl⟩ := jMap_iface hJ
      exact ⟨_, _, rfl, hJ, hx'⟩
end Go.Proofs.YtdjojnlejkljdaaGreat

