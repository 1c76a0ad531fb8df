/-
  What the builder of a query (ConstantScore) makes of its settings.
-/
import Derived.Test.YtpkkdmopcfcnkaaNm
import Derived.Test.YtpkkdmopcfcnkaaGv
namespace Go.Proofs.Ytpkkdmopcfcnkaa
open Go.RowKit

set_option maxRecDepth 20000 in
set_option maxHeartbeats 4000000 in
theorem constantScore_src {S : Nat → Prop} (w : World) (bq : Nat) (ge : El) (gt : T) (hg : TreeAt (fun _ => True) w ge gt) (hgF : FullT gt) (v1 : Option Addr) (o1 : Option T) (h1 : FN S w v1 o1) (hbq : Box w bq #[.iface 73 ge.val, .pointer v1] 160) :
    Calls Try.prog 50 #[.pointer (some ⟨bq, 0, none⟩)] w fun r w' => ∃ v, r = .returned (.tuple #[v, .nilIface]) ∧ JAt (fun _ => True) w' v (jMap [(s_constant_score, jMap ([(s_filter, jFull gt)] ++ jN s_boost (o1)))]) ∧ Ext w w' := by
  have tok0 := trivial
  have hblt := hbq.lt
  have H1 := Lib.hid h1
  clear h1
  have Hg := Lib.hid hg
  clear hg
  go_enter Try.func50, Try.ntmps50
  go_upto_if 30 with (first
    | (at_mapUpdate; have _t := tok0; refine wp_put _ rfl _ _ _ 162 rfl 20 Try.underlying162 w.heap.size [] rfl ((MapAt.at (by simp)).alloc _) (by simp [maxLen]) s_constant_score rfl (by decide) _ rfl ?_; intro w1 hm hg; clear tok0
       have hx1 : Ext w w1 := ext_put (ext_alloc (ext_alloc (ext_refl _) _) _) hg (by omega)
       have hl0_1 := hm
       have hs0_1 := hl0_1.lt
       have hl1_1 : MapAt w1 (w.heap.size + 1) [] := (MapAt.at (by simp)).grown hg (someNe (by omega))
       have hs1_1 := hl1_1.lt
       have hb1 := hbq.ext hx1
       have hc0 := hb1.cell 0 _ rfl
       have hc1 := hb1.cell 1 _ rfl
       clear hg hm)
    | (go_at_call 184; refine (given_src ge gt _ (Hg.out.ext (hx1)) hgF).mono ?_; rintro r wqg ⟨gty, gx, rfl, hgJ, hgx⟩
       have hxg : Ext w wqg := ext_trans (hx1) hgx
       have hl0_g : MapAt wqg w.heap.size [(s_constant_score, .iface 162 (.map (some (w.heap.size + 1))))] := MapAt.ext (hl0_1) hgx
       have hs0_g := hl0_g.lt
       have hl1_g : MapAt wqg (w.heap.size + 1) [] := MapAt.ext (hl1_1) hgx
       have hs1_g := hl1_g.lt
       have HJg := Lib.hid (hgJ.to (S' := (fun b => b ≠ w.heap.size ∧ b ≠ w.heap.size + 1)) (fun b hb _ => by (try simp at hb); omega))
       have hbg := hbq.ext hxg
       have hc0 := hbg.cell 0 _ rfl
       have hc1 := hbg.cell 1 _ rfl
       clear hgJ)
    | (at_mapUpdate; refine wp_put _ rfl _ _ _ 162 rfl 20 Try.underlying162 (w.heap.size + 1) [] rfl (hl1_g) (by simp [maxLen]) s_filter rfl (by decide) _ rfl ?_; intro w2 hm hg
       have hx2 : Ext w w2 := ext_put (hxg) hg (by omega)
       have hl0_2 : MapAt w2 w.heap.size [(s_constant_score, .iface 162 (.map (some (w.heap.size + 1))))] := (hl0_g).grown hg (someNe (by omega))
       have hs0_2 := hl0_2.lt
       have hl1_2 := hm
       have hs1_2 := hl1_2.lt
       have HJg := Lib.hid (JAt.keep (S' := (fun b => b ≠ w.heap.size ∧ b ≠ w.heap.size + 1)) (fun _ h _ => h) (keeps_grown hg (fun b hb e => by simp only [Option.some.injEq] at e; omega)) _ HJg.out)
       have hb2 := hbq.ext hx2
       have hc0 := hb2.cell 0 _ rfl
       have hc1 := hb2.cell 1 _ rfl
       clear hg hm hl0_1 hl1_1)
    | fail)
  have hx0 : Ext w w2 := hx2
  have hm0 : MapAt w2 w.heap.size [(s_constant_score, .iface 162 (.map (some (w.heap.size + 1))))] := hl0_2
  have hm1 : MapAt w2 (w.heap.size + 1) [(s_filter, .iface gty gx)] := hl1_2
  have hz0 := hm0.lt
  have hz1 := hm1.lt
  have hne0 : w.heap.size ≠ (w.heap.size + 1) := by omega
  have hw1 : w.heap.size ≤ (w.heap.size + 1) := by have := hx0.sz; omega
  have hp0 : PJ (fun b => b ≠ w.heap.size ∧ b ≠ w.heap.size + 1) w2 [(s_filter, .iface gty gx)] ([(s_filter, jFull gt)]) := ⟨rfl, by simp only [List.map_cons, List.map_nil, JsAt]; exact ⟨HJg.out, trivial⟩⟩
  go_cut [] (fun wc => Ext w wc ∧ MapAt wc w.heap.size [(s_constant_score, .iface 162 (.map (some (w.heap.size + 1))))] ∧ ∃ rp, rp.length ≤ 2 ∧ MapAt wc (w.heap.size + 1) rp ∧ PJ (fun b => b ≠ w.heap.size ∧ b ≠ w.heap.size + 1) wc rp ([(s_filter, jFull gt)] ++ jN s_boost (o1)))
  case first =>
    cases o1 with
    | none =>
      have hv : v1 = none := H1.out
      subst hv
      go_wp2_with fail
      go_meet
      case rel =>
        refine ⟨hx0, hm0, [(s_filter, .iface gty gx)], by simp, hm1, ?_⟩
        rw [show jN s_boost none = [] from rfl, List.append_nil]
        exact hp0
    | some t1 =>
      obtain ⟨cc, hv, hSc, hcc⟩ := H1.out
      subst hv
      have hcc := hx0.cell hcc
      go_wp2_with (at_mapUpdate; refine wp_put _ rfl _ _ _ 162 rfl 20 Try.underlying162 (w.heap.size + 1) [(s_filter, .iface gty gx)] rfl hm1 (by simp [maxLen]) s_boost rfl (by decide) _ rfl ?_; intro wn hnn hgn)
      go_meet
      case rel =>
        have hxn := ext_put hx0 hgn (by omega)
        refine ⟨hxn, hm0.grown hgn (someNe hne0), _, ?_, hnn, ?_⟩
        · rw [List.length_append]; exact Nat.succ_le_succ (by simp)
        · rw [show jN s_boost (some t1) = [(s_boost, .num t1.num)] from rfl]
          exact PJ.snoc (hp0.keep (fun _ h _ => h) (keeps_grown hgn (fun b hb e => by simp only [Option.some.injEq] at e; omega))) (by simp only [JAt]; rfl)
  case rest =>
    obtain ⟨hxc, hm0_0, rp, hr, hnc, hpc⟩ := hcut
    have hbc := hbq.ext hxc
    have hc0 := hbc.cell 0 _ rfl
    have hc1 := hbc.cell 1 _ rfl
    go_wp2_with fail
    go_ret2
    refine ⟨_, rfl, ?_, hxc⟩
    exact jMap_one hm0_0 trivial (hpc.wide.map hnc trivial (by have := hpc.len; omega))
end Go.Proofs.Ytpkkdmopcfcnkaa
