/-
  The builder of a exists query.
-/
import Derived.Test.YtbhdkbbhhffldaaQ
namespace Go.Proofs.Ytbhdkbbhhffldaa
open Go.RowKit

abbrev s_exists : ByteArray := ⟨#[101, 120, 105, 115, 116, 115]⟩
abbrev s_name : ByteArray := ⟨#[95, 110, 97, 109, 101]⟩
abbrev s_field : ByteArray := ⟨#[102, 105, 101, 108, 100]⟩
set_option maxHeartbeats 4000000 in
theorem exists_src {S : Nat → Prop} (w : World) (bq : Nat) (f : ByteArray) (v1 : ByteArray) (o1 : Option T) (h1 : v1 = fT o1) (hbq : Box w bq #[.string f, .string v1] 132) :
    Calls Try.prog 62 #[.pointer (some ⟨bq, 0, none⟩)] w fun r w' => ∃ v, r = .returned (.tuple #[v, .nilIface]) ∧ JAt (fun q => w.heap.size ≤ q) w' v (jMap [(s_exists, jMap ([(s_field, J.str f)] ++ jT s_name (o1)))]) ∧ Ext w w' := by
  have tok0 := trivial
  have hblt := hbq.lt
  have H1 := Lib.hid h1
  clear h1
  go_enter Try.func62, Try.ntmps62
  go_upto_if 21 with (first
    | (at_mapUpdate; have _t := tok0; refine wp_put _ rfl _ _ _ 125 rfl 20 Try.underlying125 w.heap.size [] rfl ((MapAt.at rfl).alloc _) (by simp [maxLen]) s_exists rfl (by decide) _ rfl ?_; intro w1 hm1 hg1; clear tok0
       have hx1 : Ext w w1 := ext_put (ext_alloc (ext_alloc (ext_refl _) _) _) hg1 (Nat.le_refl _)
       have hn1 : MapAt w1 (w.heap.size + 1) [] := (MapAt.at (by simp)).grown hg1 (by simp)
       have hb1 := hbq.ext hx1
       have hc0 := hb1.cell 0 _ rfl
       have hc1 := hb1.cell 1 _ rfl
       clear hg1)
    | (at_mapUpdate; refine wp_put _ rfl _ _ _ 125 rfl 20 Try.underlying125 (w.heap.size + 1) [] rfl hn1 (by simp [maxLen]) s_field rfl (by decide) _ rfl ?_; intro w2 hn2 hg2
       have hx2 : Ext w w2 := ext_put hx1 hg2 (by omega)
       have hm2 := hm1.grown hg2 (by simp)
       have hb2 := hbq.ext hx2
       have hc0 := hb2.cell 0 _ rfl
       have hc1 := hb2.cell 1 _ rfl
       clear hg2 hn1 hm1))
  have hp0 : PJ (fun _ => False) w2 [(s_field, .iface 9 (.string f))] ([(s_field, J.str f)]) := ⟨rfl, by simp [JsAt, JAt]⟩
  go_cut [] (fun wc => Ext w wc ∧ MapAt wc w.heap.size [(s_exists, .iface 125 (.map (some (w.heap.size + 1))))] ∧ ∃ rp, rp.length ≤ 2 ∧ MapAt wc (w.heap.size + 1) rp ∧ PJ (fun _ => False) wc rp ([(s_field, J.str f)] ++ jT s_name (o1)))
  case first =>
    cases hE : v1.toList.isEmpty
    · go_wp2_with (at_mapUpdate; refine wp_put _ rfl _ _ _ 125 rfl 20 Try.underlying125 (w.heap.size + 1) [(s_field, .iface 9 (.string f))] rfl hn2 (by simp [maxLen]) s_name rfl (by decide) _ rfl ?_; intro wn hnn hgn)
      go_meet
      case rel =>
        refine ⟨ext_put hx2 hgn (by omega), hm2.grown hgn (by simp), _, ?_, hnn, ?_⟩
        · rw [List.length_append]; exact Nat.succ_le_succ (by simp)
        · rw [jT_some H1.out hE]
          exact PJ.snoc (hp0.move) (by simp only [JAt]; rfl)
    · go_wp2_with fail
      go_meet
      case rel =>
        refine ⟨hx2, hm2, [(s_field, .iface 9 (.string f))], by simp, hn2, ?_⟩
        rw [jT_none H1.out hE, List.append_nil]
        exact hp0
  case rest =>
    obtain ⟨hxc, hmc, rp, hr, hnc, hpc⟩ := hcut
    have hbc := hbq.ext hxc
    have hc0 := hbc.cell 0 _ rfl
    have hc1 := hbc.cell 1 _ rfl
    go_wp2_with fail
    go_ret2
    refine ⟨_, rfl, ?_, hxc⟩
    exact jMap_one hmc (Nat.le_refl _) (hpc.no.map hnc (by omega) (by have := hpc.len; omega))

set_option maxHeartbeats 4000000 in
theorem exists_any {S : Nat → Prop} (f : ByteArray) (a : Option Addr) (n c : Nat) (ps : List (ByteArray × T)) (w : World) (h : PairsAt S w a n c ps) :
    Calls Try.prog 24 #[.string f, .slice a n c] w fun r w' => ∃ g : El, r = .returned (.tuple #[g.val, .bool true]) ∧ TreeAt (fun b => w.heap.size + 1 ≤ b) w' g (treeJ (jMap [(s_exists, jMap ([(s_field, J.str f)] ++ jT s_name (lastOf ps s_name)))])) ∧ Ext w w' := by
  obtain ⟨hl, hn, hm, hc⟩ := h
  unfold maxLen at hm
  have HL := Lib.hid hl
  clear hl
  go_enter Try.func24, Try.ntmps24
  go_wp2_with go_in
  go_loopw [13] (fun i wr => Ext w wr ∧ w.heap.size + 2 ≤ wr.heap.size ∧ Box wr w.heap.size (El.arr El0) 26 ∧ ∃ (j : Nat) (v1 : ByteArray), j ≤ n ∧ i = .int .i64 j ∧ Box wr (w.heap.size + 1) #[.string f, .string v1] 132 ∧ v1 = fT (lastOf (ps.take j) s_name)) (fun i _ => n - (intOf i).toNat)
  case atStart => exact ⟨by (repeat (first | exact ext_refl _ | assumption | refine ext_alloc ?_ _ | refine ext_drew ?_ | refine ext_set ?_ (by simp) _ | refine ext_trans ?_ (by assumption))), by simp, (Box.at rfl _ _).alloc _, 0, _, Nat.zero_le _, rfl, Box.at (by simp) _ _, rfl⟩
  case round =>
    obtain ⟨hx, hsz, hb0, j, v1, hj, rfl, hbq, h1⟩ := hrel
    have H1 := Lib.hid h1
    clear h1
    have hbql := hbq.lt
    by_cases hlt : j < n
    · obtain ⟨p, hp⟩ := some_of_lt HL.out hlt
      obtain ⟨b, off, ⟨k, x, d, y, ka, kn, kc, ca, m, cc⟩, rfl, hSb, hc7, hT⟩ := hc j p hp
      obtain ⟨z0, z1, z2, z3, z4, z5, z6⟩ := Cells7.ext hx hc7
      have HP := Lib.hid hp
      have hl0 : w.heap.size < wr.heap.size := by omega
      have hl1 : ¬ w.heap.size = wr.heap.size := by omega
      have hl2 : w.heap.size + 1 < wr.heap.size + 1 := by omega
      have hTx := Lib.hid hT.parts.2.1
      have hTd := Lib.hid hT.parts.2.2.1
      have hTy := Lib.hid hT.parts.2.2.2.1
      clear hp
      have hc0 := hbq.cell 0 _ rfl
      have hf0 := hbq.free 0
      have hc1 := hbq.cell 1 _ rfl
      have hf1 := hbq.free 1
      cases he0 : p.1.toList == [95, 110, 97, 109, 101]
      · have e0 : seq p.1 s_name = false := by rw [seq, show s_name.toList = [95, 110, 97, 109, 101] by rw [Lib.toList_data]]; exact he0
        go_wp2_with go_in
        go_roundw
        case rel =>
          have hy := ext_alloc (ext_refl wr) (.cells #[.string p.1, .int .i64 k, .string x, .float .f64 d, .bool y, .slice ka kn kc, .slice ca m cc] 75)
          exact ⟨ext_trans hx hy, Nat.le_trans hsz hy.sz, hb0.ext hy, j + 1, v1, by omega, by go_num, hbq.ext hy, by rw [last_miss HP.out e0]; exact H1.out⟩
        case measure => simp [intOf]; omega
      · have e0 : seq p.1 s_name = true := by rw [seq, show s_name.toList = [95, 110, 97, 109, 101] by rw [Lib.toList_data]]; exact he0
        go_wp2_with go_in
        go_roundw
        case rel =>
          have hk : Keeps (fun q => w.heap.size + 2 ≤ q) wr ((wr.setCell ⟨w.heap.size + 1, 1, none⟩ (.string x)).alloc (.cells #[.string p.1, .int .i64 k, .string x, .float .f64 d, .bool y, .slice ka kn kc, .slice ca m cc] 75)) := fun q hq hlt => (Below.heap_alloc _ _ _ (by simpa using hlt)).trans (Below.heap_setCell _ _ _ _ (by simp; omega))
          exact ⟨ext_alloc (ext_set hx (by simp) _) _, by simp; omega, (hb0.other (by simp) _).alloc _, j + 1, x, by omega, by go_num, (hbq.set 1 _).alloc _, by rw [last_hit HP.out e0]; exact hTx.out⟩
        case measure => simp [intOf]; omega
    · have hjn : j = n := by omega
      have hfull : ps.take j = ps := List.take_of_length_le (by have := HL.out; omega)
      rw [hfull] at H1
      have hS := exists_src (S := fun q => w.heap.size + 2 ≤ q) wr (w.heap.size + 1) f v1 _ H1.out hbq
      go_wp2_with (first
        | (go_at_call 62; refine hS.mono ?_; rintro r w2 ⟨v, rfl, hJ, hx2⟩)
        | (go_at_call 45; refine (told_any v _ _ hJ).mono ?_; rintro r w3 ⟨e2, rfl, hT3, hx3⟩; simp only [El.val]
           have hb := (hb0.ext hx2).ext hx3; obtain ⟨o0, o1, o2, o3, o4, o5⟩ := hb.six; have f0 := hb.free 0; have f1 := hb.free 1; have f2 := hb.free 2; have f3 := hb.free 3; have f4 := hb.free 4; have f5 := hb.free 5))
      have hx4 := ext_trans hx (ext_trans hx2 hx3)
      have hs2 := hx2.sz
      refine post_tree2 rfl rfl (hb.sto e2) rfl ⟨e2, rfl, ?_, ext_sto6 hx4 (Nat.le_refl _) _ _ _ _ _ _⟩
      exact TreeAt.keep (fun b hb _ => by omega) (keeps_sto w3 (by omega) e2) _ hT3
end Go.Proofs.Ytbhdkbbhhffldaa
