/-
  What the builder of a query (SpanFirst) makes of its settings.
-/
import Derived.Test.YtpkkdmopcfcnkaaNm
import Derived.Test.YtpkkdmopcfcnkaaGv
namespace Go.Proofs.Ytpkkdmopcfcnkaa
open Go.RowKit

set_option maxRecDepth 20000 in
set_option maxHeartbeats 4000000 in
theorem spanFirst_src {S : Nat → Prop} (w : World) (bq : Nat) (ge : El) (gt : T) (hg : TreeAt (fun _ => True) w ge gt) (hgF : FullT gt) (z0 : Int) (v2 : Option Addr) (o2 : Option T) (h2 : FN S w v2 o2) (v3 : ByteArray) (o3 : Option T) (h3 : v3 = fT o3) (hbq : Box w bq #[.iface 73 ge.val, .int .i64 z0, .pointer v2, .string v3] 175) :
    Calls Try.prog 85 #[.pointer (some ⟨bq, 0, none⟩)] w fun r w' => ∃ v, r = .returned (.tuple #[v, .nilIface]) ∧ JAt (fun _ => True) w' v (jMap [(s_span_first, jMap ([(s_match, jFull gt)] ++ [(s_end, J.int z0)] ++ jN s_boost (o2) ++ jT s_query_name (o3)))]) ∧ Ext w w' := by
  have tok0 := trivial
  have hblt := hbq.lt
  have H2 := Lib.hid h2
  have H3 := Lib.hid h3
  clear h2 h3
  have Hg := Lib.hid hg
  clear hg
  have hc0 := ((hbq.alloc (.map #[] 0)).alloc (.map #[] 0)).cell 0 _ rfl
  have hc1 := ((hbq.alloc (.map #[] 0)).alloc (.map #[] 0)).cell 1 _ rfl
  have hc2 := ((hbq.alloc (.map #[] 0)).alloc (.map #[] 0)).cell 2 _ rfl
  have hc3 := ((hbq.alloc (.map #[] 0)).alloc (.map #[] 0)).cell 3 _ rfl
  go_enter Try.func85, Try.ntmps85
  go_upto_if 43 with (first
    | (go_at_call 184; refine (given_src ge gt _ (Hg.out.ext (ext_alloc (ext_alloc (ext_refl _) _) _)) hgF).mono ?_; rintro r wqg ⟨gty, gx, rfl, hgJ, hgx⟩
       have hxg : Ext w wqg := ext_trans (ext_alloc (ext_alloc (ext_refl _) _) _) hgx
       have hl0_g : MapAt wqg w.heap.size [] := MapAt.ext ((MapAt.at (by simp)).alloc _) hgx
       have hs0_g := hl0_g.lt
       have hl1_g : MapAt wqg (w.heap.size + 1) [] := MapAt.ext (MapAt.at (by simp)) hgx
       have hs1_g := hl1_g.lt
       have HJg := Lib.hid (hgJ.to (S' := (fun b => b ≠ w.heap.size ∧ b ≠ w.heap.size + 1)) (fun b hb _ => by (try simp at hb); omega))
       have hbg := hbq.ext hxg
       have hc0 := hbg.cell 0 _ rfl
       have hc1 := hbg.cell 1 _ rfl
       have hc2 := hbg.cell 2 _ rfl
       have hc3 := hbg.cell 3 _ rfl
       clear hgJ)
    | (at_mapUpdate; have _t := tok0; refine wp_put _ rfl _ _ _ 162 rfl 20 Try.underlying162 (w.heap.size + 1) [] rfl (hl1_g) (by simp [maxLen]) s_match rfl (by decide) _ rfl ?_; intro w1 hm hg; clear tok0
       have hx1 : Ext w w1 := ext_put (hxg) hg (by omega)
       have hl0_1 : MapAt w1 w.heap.size [] := (hl0_g).grown hg (someNe (by omega))
       have hs0_1 := hl0_1.lt
       have hl1_1 := hm
       have hs1_1 := hl1_1.lt
       have HJg := Lib.hid (JAt.keep (S' := (fun b => b ≠ w.heap.size ∧ b ≠ w.heap.size + 1)) (fun _ h _ => h) (keeps_grown hg (fun b hb e => by simp only [Option.some.injEq] at e; omega)) _ HJg.out)
       have hb1 := hbq.ext hx1
       have hc0 := hb1.cell 0 _ rfl
       have hc1 := hb1.cell 1 _ rfl
       have hc2 := hb1.cell 2 _ rfl
       have hc3 := hb1.cell 3 _ rfl
       clear hg hm)
    | (at_mapUpdate; refine wp_put _ rfl _ _ _ 162 rfl 20 Try.underlying162 (w.heap.size + 1) [(s_match, .iface gty gx)] rfl (hl1_1) (by simp [maxLen]) s_end rfl (by decide) _ rfl ?_; intro w2 hm hg
       have hx2 : Ext w w2 := ext_put (hx1) hg (by omega)
       have hl0_2 : MapAt w2 w.heap.size [] := (hl0_1).grown hg (someNe (by omega))
       have hs0_2 := hl0_2.lt
       have hl1_2 := hm
       have hs1_2 := hl1_2.lt
       have HJg := Lib.hid (JAt.keep (S' := (fun b => b ≠ w.heap.size ∧ b ≠ w.heap.size + 1)) (fun _ h _ => h) (keeps_grown hg (fun b hb e => by simp only [Option.some.injEq] at e; omega)) _ HJg.out)
       have hb2 := hbq.ext hx2
       have hc0 := hb2.cell 0 _ rfl
       have hc1 := hb2.cell 1 _ rfl
       have hc2 := hb2.cell 2 _ rfl
       have hc3 := hb2.cell 3 _ rfl
       clear hg hm hl0_1 hl1_1)
    | fail)
  have hx0 : Ext w w2 := hx2
  have hm0 : MapAt w2 w.heap.size [] := hl0_2
  have hm1 : MapAt w2 (w.heap.size + 1) [(s_match, .iface gty gx), (s_end, .iface 3 (.int .i64 z0))] := hl1_2
  have hz0 := hm0.lt
  have hz1 := hm1.lt
  have hne0 : w.heap.size ≠ (w.heap.size + 1) := by omega
  have hw1 : w.heap.size ≤ (w.heap.size + 1) := by have := hx0.sz; omega
  have hp0 : PJ (fun b => b ≠ w.heap.size ∧ b ≠ w.heap.size + 1) w2 [(s_match, .iface gty gx), (s_end, .iface 3 (.int .i64 z0))] ([(s_match, jFull gt)] ++ [(s_end, J.int z0)]) := ⟨rfl, by simp only [List.cons_append, List.nil_append, List.map_cons, List.map_nil, JsAt]; exact ⟨HJg.out, (by simp [JAt]), trivial⟩⟩
  go_cut [] (fun wc => Ext w wc ∧ MapAt wc w.heap.size [] ∧ ∃ rp, rp.length ≤ 3 ∧ MapAt wc (w.heap.size + 1) rp ∧ PJ (fun b => b ≠ w.heap.size ∧ b ≠ w.heap.size + 1) wc rp ([(s_match, jFull gt)] ++ [(s_end, J.int z0)] ++ jN s_boost (o2)))
  case first =>
    cases o2 with
    | none =>
      have hv : v2 = none := H2.out
      subst hv
      go_wp2_with fail
      go_meet
      case rel =>
        refine ⟨hx0, hm0, [(s_match, .iface gty gx), (s_end, .iface 3 (.int .i64 z0))], by simp, hm1, ?_⟩
        rw [show jN s_boost none = [] from rfl, List.append_nil]
        exact hp0
    | some t2 =>
      obtain ⟨cc, hv, hSc, hcc⟩ := H2.out
      subst hv
      have hcc := hx0.cell hcc
      go_wp2_with (at_mapUpdate; refine wp_put _ rfl _ _ _ 162 rfl 20 Try.underlying162 (w.heap.size + 1) [(s_match, .iface gty gx), (s_end, .iface 3 (.int .i64 z0))] rfl hm1 (by simp [maxLen]) s_boost rfl (by decide) _ rfl ?_; intro wn hnn hgn)
      go_meet
      case rel =>
        have hxn := ext_put hx0 hgn (by omega)
        refine ⟨hxn, hm0.grown hgn (someNe hne0), _, ?_, hnn, ?_⟩
        · rw [List.length_append]; exact Nat.succ_le_succ (by simp)
        · rw [show jN s_boost (some t2) = [(s_boost, .num t2.num)] from rfl]
          exact PJ.snoc (hp0.keep (fun _ h _ => h) (keeps_grown hgn (fun b hb e => by simp only [Option.some.injEq] at e; omega))) (by simp only [JAt]; rfl)
  case rest =>
    obtain ⟨hxc, hm0_0, rp, hr, hnc, hpc⟩ := hcut
    have hbc := hbq.ext hxc
    have hc0 := hbc.cell 0 _ rfl
    have hc1 := hbc.cell 1 _ rfl
    have hc2 := hbc.cell 2 _ rfl
    have hc3 := hbc.cell 3 _ rfl
    go_upto_if 54 with fail
    go_cut [] (fun wc => Ext w wc ∧ MapAt wc w.heap.size [] ∧ ∃ rp, rp.length ≤ 4 ∧ MapAt wc (w.heap.size + 1) rp ∧ PJ (fun b => b ≠ w.heap.size ∧ b ≠ w.heap.size + 1) wc rp ([(s_match, jFull gt)] ++ [(s_end, J.int z0)] ++ jN s_boost (o2) ++ jT s_query_name (o3)))
    case first =>
      cases hE : v3.toList.isEmpty
      · have hE1 := jT_some (k := s_query_name) H3.out hE
        go_wp2_with (at_mapUpdate; refine wp_put _ rfl _ _ _ 162 rfl 20 Try.underlying162 (w.heap.size + 1) rp rfl hnc (Nat.lt_of_le_of_lt hr (by decide)) s_query_name rfl (by decide) _ rfl ?_; intro wn hnn hgn)
        go_meet
        case rel =>
          have hxn := ext_put hxc hgn (by omega)
          refine ⟨hxn, hm0_0.grown hgn (someNe hne0), _, ?_, hnn, ?_⟩
          · rw [List.length_append]; exact Nat.succ_le_succ (by exact hr)
          · rw [hE1]
            exact PJ.snoc (hpc.keep (fun _ h _ => h) (keeps_grown hgn (fun b hb e => by simp only [Option.some.injEq] at e; omega))) (by simp only [JAt]; rfl)
      · have hE1 := jT_none (k := s_query_name) H3.out hE
        go_wp2_with fail
        go_meet
        case rel =>
          refine ⟨hxc, hm0_0, rp, Nat.le_succ_of_le hr, hnc, ?_⟩
          rw [hE1, List.append_nil]
          exact hpc
    case rest =>
      obtain ⟨hxc, hm0_1, rp, hr, hnc, hpc⟩ := hcut
      have hbc := hbq.ext hxc
      have hc0 := hbc.cell 0 _ rfl
      have hc1 := hbc.cell 1 _ rfl
      have hc2 := hbc.cell 2 _ rfl
      have hc3 := hbc.cell 3 _ rfl
      go_wp2_with (first
        | (at_mapUpdate; refine wp_put _ rfl _ _ _ 162 rfl 20 Try.underlying162 w.heap.size [] rfl hm0_1 (by simp [maxLen]) s_span_first rfl (by decide) _ rfl ?_; intro wt0 hmt0 hgt
           have hxt0 := ext_put hxc hgt (by omega)
           have hnt0 := hnc.grown hgt (someNe (by omega))
           have hpt0 := hpc.keep (S' := (fun b => b ≠ w.heap.size ∧ b ≠ w.heap.size + 1)) (fun _ h _ => h) (keeps_grown hgt (fun b hb e => by simp only [Option.some.injEq] at e; omega))
           have hbt := hbq.ext hxt0
           have hc0 := hbt.cell 0 _ rfl
           have hc1 := hbt.cell 1 _ rfl
           have hc2 := hbt.cell 2 _ rfl
           have hc3 := hbt.cell 3 _ rfl
           clear hgt hbt))
      go_ret2
      refine ⟨_, rfl, ?_, hxt0⟩
      exact jMap_one hmt0 trivial (hpt0.wide.map hnt0 trivial (by have := hpc.len; omega))
end Go.Proofs.Ytpkkdmopcfcnkaa
