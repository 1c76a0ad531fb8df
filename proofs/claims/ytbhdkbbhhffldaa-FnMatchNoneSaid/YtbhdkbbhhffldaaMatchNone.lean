/-
  The builder of a match_none query.
-/
import Derived.Test.YtbhdkbbhhffldaaQ
namespace Go.Proofs.Ytbhdkbbhhffldaa
open Go.RowKit

abbrev s_name : ByteArray := ⟨#[95, 110, 97, 109, 101]⟩
abbrev s_match_none : ByteArray := ⟨#[109, 97, 116, 99, 104, 95, 110, 111, 110, 101]⟩
set_option maxHeartbeats 1000000 in
theorem matchNone_src (v0 : ByteArray) (o0 : Option T) (h0 : v0 = fT o0) (w : World) : Calls Try.prog 55 #[.agg #[.string v0]] w fun r w' => ∃ v, r = .returned (.tuple #[v, .nilIface]) ∧ JAt (fun q => w.heap.size ≤ q) w' v (jMap [(s_match_none, jMap (jT s_name o0))]) ∧ Ext w w' := by
  have tok1 := trivial
  have H0 := Lib.hid h0
  clear h0
  go_enter Try.func55, Try.ntmps55
  go_upto_region 4 with (first
    | (at_mapUpdate; have _t := tok1; refine wp_put _ rfl _ _ _ 125 rfl 20 Try.underlying125 (w.heap.size + 1) [] rfl ((MapAt.at (by simp)).alloc _) (by simp [maxLen]) s_match_none rfl (by decide) _ rfl ?_; intro w1 hm1 hg1; clear tok1))
  have hx1 : Ext w w1 := ext_put (ext_alloc (ext_alloc (ext_alloc (ext_refl _) _) _) _) hg1 (by omega)
  have hb1 : Box w1 w.heap.size #[.string v0] 129 := (((Box.at rfl _ _).alloc _).alloc _).grown hg1 (by simp)
  have hn1 : MapAt w1 (w.heap.size + 1 + 1) [] := (MapAt.at (by simp)).grown hg1 (by simp)
  have hp1 : PJ (fun _ => False) w1 [] [] := PJ.nil _ _
  have hc0 := hb1.cell 0 _ rfl
  clear hg1
  go_upto_if 13 with fail
  go_cut [] (fun wc => Ext w wc ∧ MapAt wc (w.heap.size + 1) [(s_match_none, .iface 125 (.map (some (w.heap.size + 1 + 1))))] ∧ Box wc w.heap.size #[.string v0] 129 ∧ ∃ rp, MapAt wc (w.heap.size + 1 + 1) rp ∧ PJ (fun _ => False) wc rp (jT s_name o0))
  case first =>
    cases hE : v0.toList.isEmpty
    · go_wp2_with (at_mapUpdate; refine wp_put _ rfl _ _ _ 125 rfl 20 Try.underlying125 (w.heap.size + 1 + 1) [] rfl hn1 (by simp [maxLen]) s_name rfl (by decide) _ rfl ?_; intro w2 hn2 hg2)
      go_meet
      case rel =>
        refine ⟨ext_put hx1 hg2 (by omega), hm1.grown hg2 (fun e => by injection e with e; omega), hb1.grown hg2 (fun e => by injection e with e; omega), _, hn2, ?_⟩
        rw [jT_some H0.out hE]
        exact PJ.snoc (PJ.nil _ _) (by simp only [JAt]; rfl)
    · go_wp2_with fail
      go_meet
      case rel =>
        refine ⟨hx1, hm1, hb1, [], hn1, ?_⟩
        rw [jT_none H0.out hE]
        exact PJ.nil _ _
  case rest =>
    obtain ⟨hx2, hm2, hb2, rp, hn2, hp2⟩ := hcut
    go_wp2_with fail
    go_ret2
    refine ⟨_, rfl, ?_, hx2⟩
    exact jMap_one hm2 (by omega) (hp2.no.map hn2 (by omega) (Nat.le_trans (jT_len _ _) (by decide)))

set_option maxHeartbeats 2000000 in
theorem matchNone_any {S : Nat → Prop} (a : Option Addr) (n c : Nat) (ps : List (ByteArray × T)) (w : World) (h : PairsAt S w a n c ps) :
    Calls Try.prog 21 #[.slice a n c] w fun r w' => ∃ g : El, r = .returned (.tuple #[g.val, .bool true]) ∧ TreeAt (fun b => w.heap.size + 1 ≤ b) w' g (treeJ (jMap [(s_match_none, jMap (jT s_name (lastOf ps s_name)))])) ∧ Ext w w' := by
  obtain ⟨hl, hn, hm, hc⟩ := h
  unfold maxLen at hm
  have HL := Lib.hid hl
  clear hl
  go_enter Try.func21, Try.ntmps21
  go_wp2_with go_in
  go_loopw [10] (fun i wr => Ext w wr ∧ Box wr w.heap.size (El.arr El0) 26 ∧ ∃ (j : Nat) (v0 : ByteArray), j ≤ n ∧ i = .int .i64 j ∧ Box wr (w.heap.size + 1) #[.string v0] 129 ∧ v0 = fT (lastOf (ps.take j) s_name)) (fun i _ => n - (intOf i).toNat)
  case atStart => exact ⟨by (repeat (first | exact ext_refl _ | assumption | refine ext_alloc ?_ _ | refine ext_drew ?_ | refine ext_set ?_ (by simp) _ | refine ext_trans ?_ (by assumption))), (Box.at rfl _ _).alloc _, 0, _, Nat.zero_le _, rfl, Box.at (by simp) _ _, rfl⟩
  case round =>
    obtain ⟨hx, hb0, j, v0, hj, rfl, hbq, h0⟩ := hrel
    have H0 := Lib.hid h0
    clear h0
    have hbql := hbq.lt
    by_cases hlt : j < n
    · obtain ⟨p, hp⟩ := some_of_lt HL.out hlt
      obtain ⟨b, off, ⟨k, x, d, y, ka, kn, kc, ca, m, cc⟩, rfl, hSb, hc7, hT⟩ := hc j p hp
      obtain ⟨z0, z1, z2, z3, z4, z5, z6⟩ := Cells7.ext hx hc7
      have HP := Lib.hid hp
      have hTx := Lib.hid hT.parts.2.1
      clear hp
      have hc0 := hbq.cell 0 _ rfl
      have hf0 := hbq.free 0
      cases he0 : p.1.toList == [95, 110, 97, 109, 101]
      · have e0 : seq p.1 s_name = false := by rw [seq, show s_name.toList = [95, 110, 97, 109, 101] by rw [Lib.toList_data]]; exact he0
        go_wp2_with go_in
        go_roundw
        case rel => exact ⟨by (repeat (first | exact ext_refl _ | assumption | refine ext_alloc ?_ _ | refine ext_drew ?_ | refine ext_set ?_ (by simp) _ | refine ext_trans ?_ (by assumption))), hb0.alloc _, j + 1, v0, by omega, by go_num, hbq.alloc _, by rw [last_miss HP.out e0]; exact H0.out⟩
        case measure => simp [intOf]; omega
      · have e0 : seq p.1 s_name = true := by rw [seq, show s_name.toList = [95, 110, 97, 109, 101] by rw [Lib.toList_data]]; exact he0
        go_wp2_with go_in
        go_roundw
        case rel => exact ⟨ext_alloc (ext_set hx (by simp) _) _, (hb0.other (by simp) _).alloc _, j + 1, x, by omega, by go_num, (hbq.set 0 _).alloc _, by rw [last_hit HP.out e0]; exact hTx.out⟩
        case measure => simp [intOf]; omega
    · have hjn : j = n := by omega
      have hfull : ps.take j = ps := List.take_of_length_le (by have := HL.out; omega)
      rw [hfull] at H0
      have hc0 := hbq.cell 0 _ rfl
      have hS := matchNone_src v0 _ H0.out wr
      go_wp2_with (first
        | (go_at_call 55; refine hS.mono ?_; rintro r w2 ⟨v, rfl, hJ, hx2⟩)
        | (go_at_call 45; refine (told_any v _ _ hJ).mono ?_; rintro r w3 ⟨e2, rfl, hT3, hx3⟩; simp only [El.val]
           have hb := (hb0.ext hx2).ext hx3; obtain ⟨o0, o1, o2, o3, o4, o5⟩ := hb.six; have f0 := hb.free 0; have f1 := hb.free 1; have f2 := hb.free 2; have f3 := hb.free 3; have f4 := hb.free 4; have f5 := hb.free 5))
      have hx4 := ext_trans hx (ext_trans hx2 hx3)
      have hs2 := hx2.sz
      refine post_tree2 rfl rfl (hb.sto e2) rfl ⟨e2, rfl, ?_, ext_sto6 hx4 (Nat.le_refl _) _ _ _ _ _ _⟩
      exact TreeAt.keep (fun b hb _ => by omega) (keeps_sto w3 (by omega) e2) _ hT3
end Go.Proofs.Ytbhdkbbhhffldaa
