/-
  What the builder of a query (Slice) makes of its settings.
-/
import Derived.Test.YtdpgmmkecghihaaNm
namespace Go.Proofs.Ytdpgmmkecghihaa
open Go.RowKit

set_option maxHeartbeats 4000000 in
theorem slice_src {S : Nat → Prop} (w : World) (bq : Nat) (v0 : ByteArray) (o0 : Option T) (h0 : v0 = fT o0) (v1 : Option Addr) (o1 : Option T) (h1 : FW S w v1 o1) (v2 : Option Addr) (o2 : Option T) (h2 : FW S w v2 o2) (hbq : Box w bq #[.string v0, .pointer v1, .pointer v2] 150) :
    Calls Try.prog 61 #[.pointer (some ⟨bq, 0, none⟩)] w fun r w' => ∃ v, r = .returned (.tuple #[v, .nilIface]) ∧ JAt (fun _ => True) w' v (jMap (jT s_field (o0) ++ jW s_id (o1) ++ jW s_max (o2))) ∧ Ext w w' := by
  have tok0 := trivial
  have hblt := hbq.lt
  have H0 := Lib.hid h0
  have H1 := Lib.hid h1
  have H2 := Lib.hid h2
  clear h0 h1 h2
  have hc0 := hbq.cell 0 _ rfl
  have hc1 := hbq.cell 1 _ rfl
  have hc2 := hbq.cell 2 _ rfl
  go_enter Try.func61, Try.ntmps61
  go_upto_if 10 with fail
  have hx0 : Ext w (w.alloc (.map #[] 0)) := ext_alloc (ext_refl _) _
  have hm0 : MapAt (w.alloc (.map #[] 0)) w.heap.size [] := MapAt.at (by simp)
  have hz0 := hm0.lt
  have hw0 : w.heap.size ≤ w.heap.size := by have := hx0.sz; omega
  have hp0 : PJ (fun b => b < w.heap.size) (w.alloc (.map #[] 0)) [] (([] : List (ByteArray × J))) := PJ.nil _ _
  go_cut [] (fun wc => Ext w wc ∧ ∃ rp, rp.length ≤ 1 ∧ MapAt wc w.heap.size rp ∧ PJ (fun b => b < w.heap.size) wc rp (jT s_field (o0)))
  case first =>
    cases hE : v0.toList.isEmpty
    · have hE1 := jT_some (k := s_field) H0.out hE
      go_wp2_with (at_mapUpdate; refine wp_put _ rfl _ _ _ 152 rfl 20 Try.underlying152 w.heap.size [] rfl hm0 (by simp [maxLen]) s_field rfl (by decide) _ rfl ?_; intro wn hnn hgn)
      go_meet
      case rel =>
        have hxn := ext_put hx0 hgn (by omega)
        refine ⟨hxn, _, ?_, hnn, ?_⟩
        · rw [List.length_append]; exact Nat.succ_le_succ (by simp)
        · rw [hE1]
          exact PJ.snoc (hp0.moveB hx0 hxn) (by simp only [JAt]; rfl)
    · have hE1 := jT_none (k := s_field) H0.out hE
      go_wp2_with fail
      go_meet
      case rel =>
        refine ⟨hx0, [], by simp, hm0, ?_⟩
        rw [hE1]
        exact hp0
  case rest =>
    obtain ⟨hxc, rp, hr, hnc, hpc⟩ := hcut
    have hbc := hbq.ext hxc
    have hc0 := hbc.cell 0 _ rfl
    have hc1 := hbc.cell 1 _ rfl
    have hc2 := hbc.cell 2 _ rfl
    go_upto_if 21 with fail
    go_cut [] (fun wc => Ext w wc ∧ ∃ rp, rp.length ≤ 2 ∧ MapAt wc w.heap.size rp ∧ PJ (fun b => b < w.heap.size) wc rp (jT s_field (o0) ++ jW s_id (o1)))
    case first =>
      cases o1 with
      | none =>
        have hv : v1 = none := H1.out
        subst hv
        go_wp2_with fail
        go_meet
        case rel =>
          refine ⟨hxc, rp, Nat.le_succ_of_le hr, hnc, ?_⟩
          rw [show jW s_id none = [] from rfl, List.append_nil]
          exact hpc
      | some t1 =>
        obtain ⟨cc, z1, hv, hSc, hcc, hzz⟩ := H1.out
        subst hv
        have hcc := hxc.cell hcc
        go_wp2_with (at_mapUpdate; refine wp_put _ rfl _ _ _ 152 rfl 20 Try.underlying152 w.heap.size rp rfl hnc (Nat.lt_of_le_of_lt hr (by decide)) s_id rfl (by decide) _ rfl ?_; intro wn hnn hgn)
        go_meet
        case rel =>
          have hxn := ext_put hxc hgn (by omega)
          refine ⟨hxn, _, ?_, hnn, ?_⟩
          · rw [List.length_append]; exact Nat.succ_le_succ (by exact hr)
          · rw [show jW s_id (some t1) = [(s_id, .int z1)] from jW_some hzz]
            exact PJ.snoc (hpc.moveB hxc hxn) (by simp only [JAt]; rfl)
    case rest =>
      obtain ⟨hxc, rp, hr, hnc, hpc⟩ := hcut
      have hbc := hbq.ext hxc
      have hc0 := hbc.cell 0 _ rfl
      have hc1 := hbc.cell 1 _ rfl
      have hc2 := hbc.cell 2 _ rfl
      go_upto_if 34 with fail
      go_cut [] (fun wc => Ext w wc ∧ ∃ rp, rp.length ≤ 3 ∧ MapAt wc w.heap.size rp ∧ PJ (fun b => b < w.heap.size) wc rp (jT s_field (o0) ++ jW s_id (o1) ++ jW s_max (o2)))
      case first =>
        cases o2 with
        | none =>
          have hv : v2 = none := H2.out
          subst hv
          go_wp2_with fail
          go_meet
          case rel =>
            refine ⟨hxc, rp, Nat.le_succ_of_le hr, hnc, ?_⟩
            rw [show jW s_max none = [] from rfl, List.append_nil]
            exact hpc
        | some t2 =>
          obtain ⟨cc, z2, hv, hSc, hcc, hzz⟩ := H2.out
          subst hv
          have hcc := hxc.cell hcc
          go_wp2_with (at_mapUpdate; refine wp_put _ rfl _ _ _ 152 rfl 20 Try.underlying152 w.heap.size rp rfl hnc (Nat.lt_of_le_of_lt hr (by decide)) s_max rfl (by decide) _ rfl ?_; intro wn hnn hgn)
          go_meet
          case rel =>
            have hxn := ext_put hxc hgn (by omega)
            refine ⟨hxn, _, ?_, hnn, ?_⟩
            · rw [List.length_append]; exact Nat.succ_le_succ (by exact hr)
            · rw [show jW s_max (some t2) = [(s_max, .int z2)] from jW_some hzz]
              exact PJ.snoc (hpc.moveB hxc hxn) (by simp only [JAt]; rfl)
      case rest =>
        obtain ⟨hxc, rp, hr, hnc, hpc⟩ := hcut
        have hbc := hbq.ext hxc
        have hc0 := hbc.cell 0 _ rfl
        have hc1 := hbc.cell 1 _ rfl
        have hc2 := hbc.cell 2 _ rfl
        go_wp2_with fail
        go_ret2
        refine ⟨_, rfl, ?_, hxc⟩
        exact hpc.wide.map hnc trivial (by have := hpc.len; omega)
end Go.Proofs.Ytdpgmmkecghihaa
