/-
  The builder of a match_all query.
-/
import Derived.Test.YtbhdkbbhhffldaaQ
namespace Go.Proofs.Ytbhdkbbhhffldaa
open Go.RowKit

abbrev s_match_all : ByteArray := ⟨#[109, 97, 116, 99, 104, 95, 97, 108, 108]⟩
abbrev s_boost : ByteArray := ⟨#[98, 111, 111, 115, 116]⟩
abbrev s_name : ByteArray := ⟨#[95, 110, 97, 109, 101]⟩
set_option maxHeartbeats 4000000 in
theorem matchAll_src {S : Nat → Prop} (w : World) (bq : Nat)  (v0 : Option Addr) (o0 : Option T) (h0 : FN S w v0 o0) (v1 : ByteArray) (o1 : Option T) (h1 : v1 = fT o1) (hbq : Box w bq #[.pointer v0, .string v1] 135) :
    Calls Try.prog 66 #[.pointer (some ⟨bq, 0, none⟩)] w fun r w' => ∃ v, r = .returned (.tuple #[v, .nilIface]) ∧ JAt (fun q => w.heap.size ≤ q) w' v (jMap [(s_match_all, jMap (jN s_boost (o0) ++ jT s_name (o1)))]) ∧ Ext w w' := by
  have tok0 := trivial
  have hblt := hbq.lt
  have H0 := Lib.hid h0
  have H1 := Lib.hid h1
  clear h0 h1
  go_enter Try.func66, Try.ntmps66
  go_upto_if 15 with (first
    | (at_mapUpdate; have _t := tok0; refine wp_put _ rfl _ _ _ 125 rfl 20 Try.underlying125 w.heap.size [] rfl ((MapAt.at rfl).alloc _) (by simp [maxLen]) s_match_all rfl (by decide) _ rfl ?_; intro w1 hm1 hg1; clear tok0
       have hx1 : Ext w w1 := ext_put (ext_alloc (ext_alloc (ext_refl _) _) _) hg1 (Nat.le_refl _)
       have hn1 : MapAt w1 (w.heap.size + 1) [] := (MapAt.at (by simp)).grown hg1 (by simp)
       have hb1 := hbq.ext hx1
       have hc0 := hb1.cell 0 _ rfl
       have hc1 := hb1.cell 1 _ rfl
       clear hg1))
  have hp0 : PJ (fun _ => False) w1 [] (([] : List (ByteArray × J))) := PJ.nil _ _
  go_cut [] (fun wc => Ext w wc ∧ MapAt wc w.heap.size [(s_match_all, .iface 125 (.map (some (w.heap.size + 1))))] ∧ ∃ rp, rp.length ≤ 1 ∧ MapAt wc (w.heap.size + 1) rp ∧ PJ (fun _ => False) wc rp (jN s_boost (o0)))
  case first =>
    cases o0 with
    | none =>
      have hv : v0 = none := H0.out
      subst hv
      go_wp2_with fail
      go_meet
      case rel =>
        refine ⟨hx1, hm1, [], by simp, hn1, ?_⟩
        rw [show jN s_boost none = [] from rfl]
        exact hp0
    | some t0 =>
      obtain ⟨cc, hv, hSc, hcc⟩ := H0.out
      subst hv
      have hcc := hx1.cell hcc
      go_wp2_with (at_mapUpdate; refine wp_put _ rfl _ _ _ 125 rfl 20 Try.underlying125 (w.heap.size + 1) [] rfl hn1 (by simp [maxLen]) s_boost rfl (by decide) _ rfl ?_; intro wn hnn hgn)
      go_meet
      case rel =>
        refine ⟨ext_put hx1 hgn (by omega), hm1.grown hgn (by simp), _, ?_, hnn, ?_⟩
        · rw [List.length_append]; exact Nat.succ_le_succ (by simp)
        · rw [show jN s_boost (some t0) = [(s_boost, .num t0.num)] from rfl]
          exact PJ.snoc (hp0.move) (by simp only [JAt]; rfl)
  case rest =>
    obtain ⟨hxc, hmc, rp, hr, hnc, hpc⟩ := hcut
    have hbc := hbq.ext hxc
    have hc0 := hbc.cell 0 _ rfl
    have hc1 := hbc.cell 1 _ rfl
    go_upto_if 28 with fail
    go_cut [] (fun wc => Ext w wc ∧ MapAt wc w.heap.size [(s_match_all, .iface 125 (.map (some (w.heap.size + 1))))] ∧ ∃ rp, rp.length ≤ 2 ∧ MapAt wc (w.heap.size + 1) rp ∧ PJ (fun _ => False) wc rp (jN s_boost (o0) ++ jT s_name (o1)))
    case first =>
      cases hE : v1.toList.isEmpty
      · go_wp2_with (at_mapUpdate; refine wp_put _ rfl _ _ _ 125 rfl 20 Try.underlying125 (w.heap.size + 1) rp rfl hnc (Nat.lt_of_le_of_lt hr (by decide)) s_name rfl (by decide) _ rfl ?_; intro wn hnn hgn)
        go_meet
        case rel =>
          refine ⟨ext_put hxc hgn (by omega), hmc.grown hgn (by simp), _, ?_, hnn, ?_⟩
          · rw [List.length_append]; exact Nat.succ_le_succ (by exact hr)
          · rw [jT_some H1.out hE]
            exact PJ.snoc (hpc.move) (by simp only [JAt]; rfl)
      · go_wp2_with fail
        go_meet
        case rel =>
          refine ⟨hxc, hmc, rp, Nat.le_succ_of_le hr, hnc, ?_⟩
          rw [jT_none H1.out hE, List.append_nil]
          exact hpc
    case rest =>
      obtain ⟨hxc, hmc, rp, hr, hnc, hpc⟩ := hcut
      have hbc := hbq.ext hxc
      have hc0 := hbc.cell 0 _ rfl
      have hc1 := hbc.cell 1 _ rfl
      go_wp2_with fail
      go_ret2
      refine ⟨_, rfl, ?_, hxc⟩
      exact jMap_one hmc (Nat.le_refl _) (hpc.no.map hnc (by omega) (by have := hpc.len; omega))

set_option maxHeartbeats 4000000 in
theorem matchAll_any {S : Nat → Prop}  (a : Option Addr) (n c : Nat) (ps : List (ByteArray × T)) (w : World) (h : PairsAt S w a n c ps) :
    Calls Try.prog 25 #[.slice a n c] w fun r w' => ∃ g : El, r = .returned (.tuple #[g.val, .bool true]) ∧ TreeAt (fun b => w.heap.size + 1 ≤ b) w' g (treeJ (jMap [(s_match_all, jMap (jN s_boost (lastOf ps s_boost) ++ jT s_name (lastOf ps s_name)))])) ∧ Ext w w' := by
  obtain ⟨hl, hn, hm, hc⟩ := h
  unfold maxLen at hm
  have HL := Lib.hid hl
  clear hl
  go_enter Try.func25, Try.ntmps25
  go_wp2_with go_in
  go_loopw [10] (fun i wr => Ext w wr ∧ w.heap.size + 2 ≤ wr.heap.size ∧ Box wr w.heap.size (El.arr El0) 26 ∧ ∃ (j : Nat) (v0 : Option Addr) (v1 : ByteArray), j ≤ n ∧ i = .int .i64 j ∧ Box wr (w.heap.size + 1) #[.pointer v0, .string v1] 135 ∧ FN (fun q => w.heap.size + 2 ≤ q) wr v0 (lastOf (ps.take j) s_boost) ∧ v1 = fT (lastOf (ps.take j) s_name)) (fun i _ => n - (intOf i).toNat)
  case atStart => exact ⟨by (repeat (first | exact ext_refl _ | assumption | refine ext_alloc ?_ _ | refine ext_drew ?_ | refine ext_set ?_ (by simp) _ | refine ext_trans ?_ (by assumption))), by simp, (Box.at rfl _ _).alloc _, 0, _, _, Nat.zero_le _, rfl, Box.at (by simp) _ _, rfl, rfl⟩
  case round =>
    obtain ⟨hx, hsz, hb0, j, v0, v1, hj, rfl, hbq, h0, h1⟩ := hrel
    have H0 := Lib.hid h0
    have H1 := Lib.hid h1
    clear h0 h1
    have hbql := hbq.lt
    by_cases hlt : j < n
    · obtain ⟨p, hp⟩ := some_of_lt HL.out hlt
      obtain ⟨b, off, ⟨k, x, d, y, ka, kn, kc, ca, m, cc⟩, rfl, hSb, hc7, hT⟩ := hc j p hp
      obtain ⟨z0, z1, z2, z3, z4, z5, z6⟩ := Cells7.ext hx hc7
      have HP := Lib.hid hp
      have hl0 : w.heap.size < wr.heap.size := by omega
      have hl1 : ¬ w.heap.size = wr.heap.size := by omega
      have hl2 : w.heap.size + 1 < wr.heap.size + 1 := by omega
      have hTx := Lib.hid hT.parts.2.1
      have hTd := Lib.hid hT.parts.2.2.1
      have hTy := Lib.hid hT.parts.2.2.2.1
      clear hp
      have hc0 := hbq.cell 0 _ rfl
      have hf0 := hbq.free 0
      have hc1 := hbq.cell 1 _ rfl
      have hf1 := hbq.free 1
      cases he0 : p.1.toList == [98, 111, 111, 115, 116]
      · have e0 : seq p.1 s_boost = false := by rw [seq, show s_boost.toList = [98, 111, 111, 115, 116] by rw [Lib.toList_data]]; exact he0
        cases he1 : p.1.toList == [95, 110, 97, 109, 101]
        · have e1 : seq p.1 s_name = false := by rw [seq, show s_name.toList = [95, 110, 97, 109, 101] by rw [Lib.toList_data]]; exact he1
          go_wp2_with go_in
          go_roundw
          case rel =>
            have hy := ext_alloc (ext_refl wr) (.cells #[.string p.1, .int .i64 k, .string x, .float .f64 d, .bool y, .slice ka kn kc, .slice ca m cc] 75)
            exact ⟨ext_trans hx hy, Nat.le_trans hsz hy.sz, hb0.ext hy, j + 1, v0, v1, by omega, by go_num, hbq.ext hy, by rw [last_miss HP.out e0]; exact FN.ext hy H0.out, by rw [last_miss HP.out e1]; exact H1.out⟩
          case measure => simp [intOf]; omega
        · have e1 : seq p.1 s_name = true := by rw [seq, show s_name.toList = [95, 110, 97, 109, 101] by rw [Lib.toList_data]]; exact he1
          go_wp2_with go_in
          go_roundw
          case rel =>
            have hk : Keeps (fun q => w.heap.size + 2 ≤ q) wr ((wr.setCell ⟨w.heap.size + 1, 1, none⟩ (.string x)).alloc (.cells #[.string p.1, .int .i64 k, .string x, .float .f64 d, .bool y, .slice ka kn kc, .slice ca m cc] 75)) := fun q hq hlt => (Below.heap_alloc _ _ _ (by simpa using hlt)).trans (Below.heap_setCell _ _ _ _ (by simp; omega))
            exact ⟨ext_alloc (ext_set hx (by simp) _) _, by simp; omega, (hb0.other (by simp) _).alloc _, j + 1, v0, x, by omega, by go_num, (hbq.set 1 _).alloc _, by rw [last_other HP.out e1 (seq_false.2 (by decide))]; exact FN.keep (fun _ h _ => h) hk H0.out, by rw [last_hit HP.out e1]; exact hTx.out⟩
          case measure => simp [intOf]; omega
      · have e0 : seq p.1 s_boost = true := by rw [seq, show s_boost.toList = [98, 111, 111, 115, 116] by rw [Lib.toList_data]]; exact he0
        go_wp2_with go_in
        go_roundw
        case rel =>
          have hk : Keeps (fun q => w.heap.size + 2 ≤ q) wr (((wr.setCell ⟨w.heap.size + 1, 0, none⟩ (.pointer (some ⟨wr.heap.size + 1, 0, none⟩))).alloc (.cells #[.string p.1, .int .i64 k, .string x, .float .f64 d, .bool y, .slice ka kn kc, .slice ca m cc] 75)).alloc (.cells #[.float .f64 d] 22)) := fun q hq hlt => (Below.heap_alloc _ _ _ (by simp; omega)).trans ((Below.heap_alloc _ _ _ (by simpa using hlt)).trans (Below.heap_setCell _ _ _ _ (by simp; omega)))
          have hnew : (((wr.setCell ⟨w.heap.size + 1, 0, none⟩ (.pointer (some ⟨wr.heap.size + 1, 0, none⟩))).alloc (.cells #[.string p.1, .int .i64 k, .string x, .float .f64 d, .bool y, .slice ka kn kc, .slice ca m cc] 75)).alloc (.cells #[.float .f64 d] 22)).cell? ⟨wr.heap.size + 1, 0, none⟩ = some (.float .f64 d) := (Box.at (by simp) _ _).cell 0 _ rfl
          exact ⟨ext_alloc (ext_alloc (ext_set hx (by simp) _) _) _, by simp; omega, ((hb0.other (by simp) _).alloc _).alloc _, j + 1, some ⟨wr.heap.size + 1, 0, none⟩, v1, by omega, by go_num, ((hbq.set 0 _).alloc _).alloc _, by rw [last_hit HP.out e0]; exact ⟨wr.heap.size + 1, rfl, by omega, by rw [← hTd.out]; exact hnew⟩, by rw [last_other HP.out e0 (seq_false.2 (by decide))]; exact H1.out⟩
        case measure => simp [intOf]; omega
    · have hjn : j = n := by omega
      have hfull : ps.take j = ps := List.take_of_length_le (by have := HL.out; omega)
      rw [hfull] at H0 H1
      have hS := matchAll_src (S := fun q => w.heap.size + 2 ≤ q) wr (w.heap.size + 1)  v0 _ H0.out v1 _ H1.out hbq
      go_wp2_with (first
        | (go_at_call 66; refine hS.mono ?_; rintro r w2 ⟨v, rfl, hJ, hx2⟩)
        | (go_at_call 45; refine (told_any v _ _ hJ).mono ?_; rintro r w3 ⟨e2, rfl, hT3, hx3⟩; simp only [El.val]
           have hb := (hb0.ext hx2).ext hx3; obtain ⟨o0, o1, o2, o3, o4, o5⟩ := hb.six; have f0 := hb.free 0; have f1 := hb.free 1; have f2 := hb.free 2; have f3 := hb.free 3; have f4 := hb.free 4; have f5 := hb.free 5))
      have hx4 := ext_trans hx (ext_trans hx2 hx3)
      have hs2 := hx2.sz
      refine post_tree2 rfl rfl (hb.sto e2) rfl ⟨e2, rfl, ?_, ext_sto6 hx4 (Nat.le_refl _) _ _ _ _ _ _⟩
      exact TreeAt.keep (fun b hb _ => by omega) (keeps_sto w3 (by omega) e2) _ hT3
end Go.Proofs.Ytbhdkbbhhffldaa
