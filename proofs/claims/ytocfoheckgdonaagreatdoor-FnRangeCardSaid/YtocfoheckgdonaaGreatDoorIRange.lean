/-
  What the builder of a range query gives behind settings, in order.
-/
import Derived.Test.YtocfoheckgdonaaGreatDoorAny
namespace Go.Proofs.YtocfoheckgdonaaGreatDoor
open Go.RowKit

def jU : Option T → J
  | none => .null
  | some t => if t.kind = 0 then .null else jOf t
/-- A field that holds a value or nothing. -/
def FU (v : Value) (o : Option T) : Prop := ∀ w, JAt (fun _ => False) w v (jU o)
/-- The last value under one of three names. -/
def bound (a b c : ByteArray) (ps : List (ByteArray × T)) : Option T := ps.foldl (fun o p => if p.1 = a then some p.2 else if p.1 = b then some p.2 else if p.1 = c then some p.2 else o) none
/-- Whether a bound is included: one name says no, one yes, one as told. -/
def incl (no yes told : ByteArray) (ps : List (ByteArray × T)) : Bool := ps.foldl (fun o p => if p.1 = no then false else if p.1 = yes then true else if p.1 = told then p.2.yes else o) true
theorem bound_snoc {a b c : ByteArray} {ps : List (ByteArray × T)} {j : Nat} {p : ByteArray × T} (h : ps[j]? = some p) : bound a b c (ps.take (j + 1)) = if p.1 = a then some p.2 else if p.1 = b then some p.2 else if p.1 = c then some p.2 else bound a b c (ps.take j) := by
  unfold bound
  rw [take_snoc h, List.foldl_append]
  rfl
theorem incl_snoc {a b c : ByteArray} {ps : List (ByteArray × T)} {j : Nat} {p : ByteArray × T} (h : ps[j]? = some p) : incl a b c (ps.take (j + 1)) = if p.1 = a then false else if p.1 = b then true else if p.1 = c then p.2.yes else incl a b c (ps.take j) := by
  unfold incl
  rw [take_snoc h, List.foldl_append]
  rfl
/-- The plain value of a scalar, or of nothing. -/
def UT (t : T) : Prop := t.kind = 0 ∨ PlainT t
set_option maxHeartbeats 1000000 in
theorem plain_u {S : Nat → Prop} (e : El) (t : T) (w : World) (h : TreeAt S w e t) (hs : UT t) : Calls Tryz.prog 36 #[e.val] w fun r w' => ∃ v, r = .returned v ∧ (v = .nilIface ∨ ∃ ty x, v = .iface ty x) ∧ (∀ w, JAt (fun _ => False) w v (jU (some t))) ∧ Ext w w' := by
  by_cases h0 : t.kind = 0
  · obtain ⟨k, x, d, y, ka, n, kc, ca, m, cc⟩ := e
    have hk := h.parts.1
    simp only at hk
    rw [h0] at hk
    subst hk
    clear h
    have hj : jU (some t) = .null := by simp [jU, h0]
    rw [hj]
    clear hj hs h0
    simp only [El.val]
    go_enter Tryz.func36, Tryz.ntmps36
    go_wp2_with fail
    go_ret
    exact ⟨_, rfl, .inl rfl, fun _ => by simp [JAt], by (repeat (first | exact ext_refl _ | assumption | refine ext_alloc ?_ _ | refine ext_drew ?_ | refine ext_set ?_ (by simp) _ | refine ext_trans ?_ (by assumption)))⟩
  · have hp : PlainT t := hs.resolve_left h0
    refine (plain_kind e t w h hp).mono ?_
    rintro r w2 ⟨ty, x, rfl, hJ, hx⟩
    have hj : jU (some t) = jOf t := by simp [jU, h0]
    exact ⟨_, rfl, .inr ⟨_, _, rfl⟩, fun w => by rw [hj]; exact JAt.no hJ, hx⟩
/-- All settings of a name are scalars or nothing. -/
def UAt (ps : List (ByteArray × T)) (k : ByteArray) : Prop := ∀ p ∈ ps, seq p.1 k = true → UT p.2
end Go.Proofs.YtocfoheckgdonaaGreatDoor

namespace Go.Proofs.YtocfoheckgdonaaGreatDoor
open Go.RowKit

set_option maxRecDepth 20000 in
set_option maxHeartbeats 4000000 in
theorem range_src {S : Nat → Prop} (w : World) (bq : Nat) (f : ByteArray) (hf_le : f.size ≤ maxLen) (v1 : Value) (o1 : Option T) (h1 : FU v1 o1) (v2 : Value) (o2 : Option T) (h2 : FU v2 o2) (v3 : ByteArray) (o3 : Option T) (h3 : v3 = fT o3) (v4 : Bool) (v5 : Bool) (v6 : Option Addr) (o6 : Option T) (h6 : FN S w v6 o6) (v7 : ByteArray) (o7 : Option T) (h7 : v7 = fT o7) (v8 : ByteArray) (o8 : Option T) (h8 : v8 = fT o8) (v9 : ByteArray) (o9 : Option T) (h9 : v9 = fT o9) (hbq : Box w bq #[.string f, v1, v2, .string v3, .bool v4, .bool v5, .pointer v6, .string v7, .string v8, .string v9] 139) :
    Calls Tryz.prog 100 #[.pointer (some ⟨bq, 0, none⟩)] w fun r w' => ∃ v, r = .returned (.tuple #[v, .nilIface]) ∧ JAt (fun _ => True) w' v (jMap [(s_range, jMap ([(f, jMap ([(s_from, jU o1)] ++ [(s_to, jU o2)] ++ jT s_time_zone (o3) ++ jT s_format (o8) ++ jT s_relation (o9) ++ jN s_boost (o6) ++ [(s_include_lower, J.yes v4)] ++ [(s_include_upper, J.yes v5)]))] ++ jT s_name (o7)))]) ∧ Ext w w' := by
  have tok0 := trivial
  have hblt := hbq.lt
  have H3 := Lib.hid h3
  have H6 := Lib.hid h6
  have H7 := Lib.hid h7
  have H8 := Lib.hid h8
  have H9 := Lib.hid h9
  clear h3 h6 h7 h8 h9
  have H1 := Lib.hid h1
  clear h1
  have H2 := Lib.hid h2
  clear h2
  go_enter Tryz.func100, Tryz.ntmps100
  go_upto_if 34 with (first
    | (at_mapUpdate; have _t := tok0; refine wp_put _ rfl _ _ _ 122 rfl 20 Tryz.underlying122 w.heap.size [] rfl ((MapAt.at (by simp)).alloc _) (by simp [maxLen]) s_range rfl (by decide) _ rfl ?_; intro w1 hm hg; clear tok0
       have hx1 : Ext w w1 := ext_put (ext_alloc (ext_alloc (ext_refl _) _) _) hg (by omega)
       have hl0_1 := hm
       have hs0_1 := hl0_1.lt
       have hl1_1 : MapAt w1 (w.heap.size + 1) [] := (MapAt.at (by simp)).grown hg (someNe (by omega))
       have hs1_1 := hl1_1.lt
       have hb1 := hbq.ext hx1
       have hq1 := hb1.lt
       have hc0 := hb1.cell 0 _ rfl
       have hc1 := hb1.cell 1 _ rfl
       have hc2 := hb1.cell 2 _ rfl
       have hc3 := hb1.cell 3 _ rfl
       have hc4 := hb1.cell 4 _ rfl
       have hc5 := hb1.cell 5 _ rfl
       have hc6 := hb1.cell 6 _ rfl
       have hc7 := hb1.cell 7 _ rfl
       have hc8 := hb1.cell 8 _ rfl
       have hc9 := hb1.cell 9 _ rfl
       clear hg hm)
    | (at_mapUpdate; refine wp_put _ rfl _ _ _ 122 rfl 20 Tryz.underlying122 (w.heap.size + 1) [] rfl ((hl1_1).alloc _) (by simp [maxLen]) f rfl hf_le _ rfl ?_; intro w2 hm hg
       have hx2 : Ext w w2 := ext_put (ext_alloc (hx1) _) hg (by omega)
       have hl0_2 : MapAt w2 w.heap.size [(s_range, .iface 122 (.map (some (w.heap.size + 1))))] := ((hl0_1).alloc _).grown hg (someNe (by omega))
       have hs0_2 := hl0_2.lt
       have hl1_2 := hm
       have hs1_2 := hl1_2.lt
       have hl2_2 : MapAt w2 w1.heap.size [] := (MapAt.at (by simp)).grown hg (someNe (by omega))
       have hs2_2 := hl2_2.lt
       have hb2 := hbq.ext hx2
       have hc0 := hb2.cell 0 _ rfl
       have hc1 := hb2.cell 1 _ rfl
       have hc2 := hb2.cell 2 _ rfl
       have hc3 := hb2.cell 3 _ rfl
       have hc4 := hb2.cell 4 _ rfl
       have hc5 := hb2.cell 5 _ rfl
       have hc6 := hb2.cell 6 _ rfl
       have hc7 := hb2.cell 7 _ rfl
       have hc8 := hb2.cell 8 _ rfl
       have hc9 := hb2.cell 9 _ rfl
       clear hg hm hl0_1 hl1_1)
    | (at_mapUpdate; refine wp_put _ rfl _ _ _ 122 rfl 20 Tryz.underlying122 w1.heap.size [] rfl (hl2_2) (by simp [maxLen]) s_from rfl (by decide) _ rfl ?_; intro w3 hm hg
       have hx3 : Ext w w3 := ext_put (hx2) hg (by omega)
       have hl0_3 : MapAt w3 w.heap.size [(s_range, .iface 122 (.map (some (w.heap.size + 1))))] := (hl0_2).grown hg (someNe (by omega))
       have hs0_3 := hl0_3.lt
       have hl1_3 : MapAt w3 (w.heap.size + 1) [(f, .iface 122 (.map (some w1.heap.size)))] := (hl1_2).grown hg (someNe (by omega))
       have hs1_3 := hl1_3.lt
       have hl2_3 := hm
       have hs2_3 := hl2_3.lt
       have hb3 := hbq.ext hx3
       have hc0 := hb3.cell 0 _ rfl
       have hc1 := hb3.cell 1 _ rfl
       have hc2 := hb3.cell 2 _ rfl
       have hc3 := hb3.cell 3 _ rfl
       have hc4 := hb3.cell 4 _ rfl
       have hc5 := hb3.cell 5 _ rfl
       have hc6 := hb3.cell 6 _ rfl
       have hc7 := hb3.cell 7 _ rfl
       have hc8 := hb3.cell 8 _ rfl
       have hc9 := hb3.cell 9 _ rfl
       clear hg hm hl0_2 hl1_2 hl2_2)
    | (at_mapUpdate; refine wp_put _ rfl _ _ _ 122 rfl 20 Tryz.underlying122 w1.heap.size [(s_from, v1)] rfl (hl2_3) (by simp [maxLen]) s_to rfl (by decide) _ rfl ?_; intro w4 hm hg
       have hx4 : Ext w w4 := ext_put (hx3) hg (by omega)
       have hl0_4 : MapAt w4 w.heap.size [(s_range, .iface 122 (.map (some (w.heap.size + 1))))] := (hl0_3).grown hg (someNe (by omega))
       have hs0_4 := hl0_4.lt
       have hl1_4 : MapAt w4 (w.heap.size + 1) [(f, .iface 122 (.map (some w1.heap.size)))] := (hl1_3).grown hg (someNe (by omega))
       have hs1_4 := hl1_4.lt
       have hl2_4 := hm
       have hs2_4 := hl2_4.lt
       have hb4 := hbq.ext hx4
       have hc0 := hb4.cell 0 _ rfl
       have hc1 := hb4.cell 1 _ rfl
       have hc2 := hb4.cell 2 _ rfl
       have hc3 := hb4.cell 3 _ rfl
       have hc4 := hb4.cell 4 _ rfl
       have hc5 := hb4.cell 5 _ rfl
       have hc6 := hb4.cell 6 _ rfl
       have hc7 := hb4.cell 7 _ rfl
       have hc8 := hb4.cell 8 _ rfl
       have hc9 := hb4.cell 9 _ rfl
       clear hg hm hl0_3 hl1_3 hl2_3)
    | fail)
  have hx0 : Ext w w4 := hx4
  have hm0 : MapAt w4 w.heap.size [(s_range, .iface 122 (.map (some (w.heap.size + 1))))] := hl0_4
  have hm1 : MapAt w4 (w.heap.size + 1) [(f, .iface 122 (.map (some w1.heap.size)))] := hl1_4
  have hm2 : MapAt w4 w1.heap.size [(s_from, v1), (s_to, v2)] := hl2_4
  have hz0 := hm0.lt
  have hz1 := hm1.lt
  have hz2 := hm2.lt
  have hne0 : w.heap.size ≠ w1.heap.size := by omega
  have hne1 : (w.heap.size + 1) ≠ w1.heap.size := by omega
  have hw2 : w.heap.size ≤ w1.heap.size := by have := hx0.sz; omega
  have hp0 : PJ (fun b => b < w.heap.size) w4 [(s_from, v1), (s_to, v2)] ([(s_from, jU o1)] ++ [(s_to, jU o2)]) := ⟨rfl, by simp only [List.cons_append, List.nil_append, List.map_cons, List.map_nil, JsAt]; exact ⟨(JAt.no (w := w) (H1.out w)), (JAt.no (w := w) (H2.out w)), trivial⟩⟩
  go_cut [] (fun wc => Ext w wc ∧ MapAt wc w.heap.size [(s_range, .iface 122 (.map (some (w.heap.size + 1))))] ∧ MapAt wc (w.heap.size + 1) [(f, .iface 122 (.map (some w1.heap.size)))] ∧ ∃ rp, rp.length ≤ 3 ∧ MapAt wc w1.heap.size rp ∧ PJ (fun b => b < w.heap.size) wc rp ([(s_from, jU o1)] ++ [(s_to, jU o2)] ++ jT s_time_zone (o3)))
  case first =>
    cases hE : v3.toList.isEmpty
    · have hE1 := jT_some (k := s_time_zone) H3.out hE
      go_wp2_with (at_mapUpdate; refine wp_put _ rfl _ _ _ 122 rfl 20 Tryz.underlying122 w1.heap.size [(s_from, v1), (s_to, v2)] rfl hm2 (by simp [maxLen]) s_time_zone rfl (by decide) _ rfl ?_; intro wn hnn hgn)
      go_meet
      case rel =>
        have hxn := ext_put hx0 hgn (by omega)
        refine ⟨hxn, hm0.grown hgn (someNe hne0), hm1.grown hgn (someNe hne1), _, ?_, hnn, ?_⟩
        · rw [List.length_append]; exact Nat.succ_le_succ (by simp)
        · rw [hE1]
          exact PJ.snoc (hp0.moveB hx0 hxn) (by simp only [JAt]; rfl)
    · have hE1 := jT_none (k := s_time_zone) H3.out hE
      go_wp2_with fail
      go_meet
      case rel =>
        refine ⟨hx0, hm0, hm1, [(s_from, v1), (s_to, v2)], by simp, hm2, ?_⟩
        rw [hE1, List.append_nil]
        exact hp0
  case rest =>
    obtain ⟨hxc, hm0_0, hm1_0, rp, hr, hnc, hpc⟩ := hcut
    have hbc := hbq.ext hxc
    have hc0 := hbc.cell 0 _ rfl
    have hc1 := hbc.cell 1 _ rfl
    have hc2 := hbc.cell 2 _ rfl
    have hc3 := hbc.cell 3 _ rfl
    have hc4 := hbc.cell 4 _ rfl
    have hc5 := hbc.cell 5 _ rfl
    have hc6 := hbc.cell 6 _ rfl
    have hc7 := hbc.cell 7 _ rfl
    have hc8 := hbc.cell 8 _ rfl
    have hc9 := hbc.cell 9 _ rfl
    go_upto_if 45 with fail
    go_cut [] (fun wc => Ext w wc ∧ MapAt wc w.heap.size [(s_range, .iface 122 (.map (some (w.heap.size + 1))))] ∧ MapAt wc (w.heap.size + 1) [(f, .iface 122 (.map (some w1.heap.size)))] ∧ ∃ rp, rp.length ≤ 4 ∧ MapAt wc w1.heap.size rp ∧ PJ (fun b => b < w.heap.size) wc rp ([(s_from, jU o1)] ++ [(s_to, jU o2)] ++ jT s_time_zone (o3) ++ jT s_format (o8)))
    case first =>
      cases hE : v8.toList.isEmpty
      · have hE1 := jT_some (k := s_format) H8.out hE
        go_wp2_with (at_mapUpdate; refine wp_put _ rfl _ _ _ 122 rfl 20 Tryz.underlying122 w1.heap.size rp rfl hnc (Nat.lt_of_le_of_lt hr (by decide)) s_format rfl (by decide) _ rfl ?_; intro wn hnn hgn)
        go_meet
        case rel =>
          have hxn := ext_put hxc hgn (by omega)
          refine ⟨hxn, hm0_0.grown hgn (someNe hne0), hm1_0.grown hgn (someNe hne1), _, ?_, hnn, ?_⟩
          · rw [List.length_append]; exact Nat.succ_le_succ (by exact hr)
          · rw [hE1]
            exact PJ.snoc (hpc.moveB hxc hxn) (by simp only [JAt]; rfl)
      · have hE1 := jT_none (k := s_format) H8.out hE
        go_wp2_with fail
        go_meet
        case rel =>
          refine ⟨hxc, hm0_0, hm1_0, rp, Nat.le_succ_of_le hr, hnc, ?_⟩
          rw [hE1, List.append_nil]
          exact hpc
    case rest =>
      obtain ⟨hxc, hm0_1, hm1_1, rp, hr, hnc, hpc⟩ := hcut
      have hbc := hbq.ext hxc
      have hc0 := hbc.cell 0 _ rfl
      have hc1 := hbc.cell 1 _ rfl
      have hc2 := hbc.cell 2 _ rfl
      have hc3 := hbc.cell 3 _ rfl
      have hc4 := hbc.cell 4 _ rfl
      have hc5 := hbc.cell 5 _ rfl
      have hc6 := hbc.cell 6 _ rfl
      have hc7 := hbc.cell 7 _ rfl
      have hc8 := hbc.cell 8 _ rfl
      have hc9 := hbc.cell 9 _ rfl
      go_upto_if 56 with fail
      go_cut [] (fun wc => Ext w wc ∧ MapAt wc w.heap.size [(s_range, .iface 122 (.map (some (w.heap.size + 1))))] ∧ MapAt wc (w.heap.size + 1) [(f, .iface 122 (.map (some w1.heap.size)))] ∧ ∃ rp, rp.length ≤ 5 ∧ MapAt wc w1.heap.size rp ∧ PJ (fun b => b < w.heap.size) wc rp ([(s_from, jU o1)] ++ [(s_to, jU o2)] ++ jT s_time_zone (o3) ++ jT s_format (o8) ++ jT s_relation (o9)))
      case first =>
        cases hE : v9.toList.isEmpty
        · have hE1 := jT_some (k := s_relation) H9.out hE
          go_wp2_with (at_mapUpdate; refine wp_put _ rfl _ _ _ 122 rfl 20 Tryz.underlying122 w1.heap.size rp rfl hnc (Nat.lt_of_le_of_lt hr (by decide)) s_relation rfl (by decide) _ rfl ?_; intro wn hnn hgn)
          go_meet
          case rel =>
            have hxn := ext_put hxc hgn (by omega)
            refine ⟨hxn, hm0_1.grown hgn (someNe hne0), hm1_1.grown hgn (someNe hne1), _, ?_, hnn, ?_⟩
            · rw [List.length_append]; exact Nat.succ_le_succ (by exact hr)
            · rw [hE1]
              exact PJ.snoc (hpc.moveB hxc hxn) (by simp only [JAt]; rfl)
        · have hE1 := jT_none (k := s_relation) H9.out hE
          go_wp2_with fail
          go_meet
          case rel =>
            refine ⟨hxc, hm0_1, hm1_1, rp, Nat.le_succ_of_le hr, hnc, ?_⟩
            rw [hE1, List.append_nil]
            exact hpc
      case rest =>
        obtain ⟨hxc, hm0_2, hm1_2, rp, hr, hnc, hpc⟩ := hcut
        have hbc := hbq.ext hxc
        have hc0 := hbc.cell 0 _ rfl
        have hc1 := hbc.cell 1 _ rfl
        have hc2 := hbc.cell 2 _ rfl
        have hc3 := hbc.cell 3 _ rfl
        have hc4 := hbc.cell 4 _ rfl
        have hc5 := hbc.cell 5 _ rfl
        have hc6 := hbc.cell 6 _ rfl
        have hc7 := hbc.cell 7 _ rfl
        have hc8 := hbc.cell 8 _ rfl
        have hc9 := hbc.cell 9 _ rfl
        go_upto_if 67 with fail
        go_cut [] (fun wc => Ext w wc ∧ MapAt wc w.heap.size [(s_range, .iface 122 (.map (some (w.heap.size + 1))))] ∧ MapAt wc (w.heap.size + 1) [(f, .iface 122 (.map (some w1.heap.size)))] ∧ ∃ rp, rp.length ≤ 6 ∧ MapAt wc w1.heap.size rp ∧ PJ (fun b => b < w.heap.size) wc rp ([(s_from, jU o1)] ++ [(s_to, jU o2)] ++ jT s_time_zone (o3) ++ jT s_format (o8) ++ jT s_relation (o9) ++ jN s_boost (o6)))
        case first =>
          cases o6 with
          | none =>
            have hv : v6 = none := H6.out
            subst hv
            go_wp2_with fail
            go_meet
            case rel =>
              refine ⟨hxc, hm0_2, hm1_2, rp, Nat.le_succ_of_le hr, hnc, ?_⟩
              rw [show jN s_boost none = [] from rfl, List.append_nil]
              exact hpc
          | some t6 =>
            obtain ⟨cc, hv, hSc, hcc⟩ := H6.out
            subst hv
            have hcc := hxc.cell hcc
            go_wp2_with (at_mapUpdate; refine wp_put _ rfl _ _ _ 122 rfl 20 Tryz.underlying122 w1.heap.size rp rfl hnc (Nat.lt_of_le_of_lt hr (by decide)) s_boost rfl (by decide) _ rfl ?_; intro wn hnn hgn)
            go_meet
            case rel =>
              have hxn := ext_put hxc hgn (by omega)
              refine ⟨hxn, hm0_2.grown hgn (someNe hne0), hm1_2.grown hgn (someNe hne1), _, ?_, hnn, ?_⟩
              · rw [List.length_append]; exact Nat.succ_le_succ (by exact hr)
              · rw [show jN s_boost (some t6) = [(s_boost, .num t6.num)] from rfl]
                exact PJ.snoc (hpc.moveB hxc hxn) (by simp only [JAt]; rfl)
        case rest =>
          obtain ⟨hxc, hm0_3, hm1_3, rp, hr, hnc, hpc⟩ := hcut
          have hbc := hbq.ext hxc
          have hc0 := hbc.cell 0 _ rfl
          have hc1 := hbc.cell 1 _ rfl
          have hc2 := hbc.cell 2 _ rfl
          have hc3 := hbc.cell 3 _ rfl
          have hc4 := hbc.cell 4 _ rfl
          have hc5 := hbc.cell 5 _ rfl
          have hc6 := hbc.cell 6 _ rfl
          have hc7 := hbc.cell 7 _ rfl
          have hc8 := hbc.cell 8 _ rfl
          have hc9 := hbc.cell 9 _ rfl
          have tokE := trivial
          have tokF := trivial
          go_upto_if 92 with (first
            | (at_mapUpdate; have _t := tokE; clear _t tokE; refine wp_put _ rfl _ _ _ 122 rfl 20 Tryz.underlying122 w1.heap.size (rp) rfl hnc (Nat.lt_of_le_of_lt hr (by decide)) s_include_lower rfl (by decide) _ rfl ?_; intro we1 hme1 hge1
               have hxe1 := ext_put hxc hge1 (by omega)
               have hoa1 := hm0_3.grown hge1 (someNe hne0)
               have hob1 := hm1_3.grown hge1 (someNe hne1)
               have hpe1 := PJ.snoc (hpc.moveB hxc hxe1) (k := s_include_lower) (v := .iface 4 (.bool v4)) (j := .yes v4) (by simp only [JAt])
               have hbe1 := hbq.ext hxe1
               have hc0 := hbe1.cell 0 _ rfl; have hc1 := hbe1.cell 1 _ rfl; have hc2 := hbe1.cell 2 _ rfl; have hc3 := hbe1.cell 3 _ rfl; have hc4 := hbe1.cell 4 _ rfl; have hc5 := hbe1.cell 5 _ rfl; have hc6 := hbe1.cell 6 _ rfl; have hc7 := hbe1.cell 7 _ rfl; have hc8 := hbe1.cell 8 _ rfl; have hc9 := hbe1.cell 9 _ rfl
               clear hge1)
            | (at_mapUpdate; have _t := tokF; clear _t tokF; refine wp_put _ rfl _ _ _ 122 rfl 20 Tryz.underlying122 w1.heap.size (rp ++ [(s_include_lower, .iface 4 (.bool v4))]) rfl hme1 (by rw [List.length_append]; exact Nat.lt_of_le_of_lt (Nat.succ_le_succ hr) (by decide)) s_include_upper rfl (by decide) _ rfl ?_; intro we2 hme2 hge2
               have hxe2 := ext_put hxe1 hge2 (by omega)
               have hoa2 := hoa1.grown hge2 (someNe hne0)
               have hob2 := hob1.grown hge2 (someNe hne1)
               have hpe2 := PJ.snoc (hpe1.moveB hxe1 hxe2) (k := s_include_upper) (v := .iface 4 (.bool v5)) (j := .yes v5) (by simp only [JAt])
               have hbe2 := hbq.ext hxe2
               have hc0 := hbe2.cell 0 _ rfl; have hc1 := hbe2.cell 1 _ rfl; have hc2 := hbe2.cell 2 _ rfl; have hc3 := hbe2.cell 3 _ rfl; have hc4 := hbe2.cell 4 _ rfl; have hc5 := hbe2.cell 5 _ rfl; have hc6 := hbe2.cell 6 _ rfl; have hc7 := hbe2.cell 7 _ rfl; have hc8 := hbe2.cell 8 _ rfl; have hc9 := hbe2.cell 9 _ rfl
               clear hge2)
            | fail)
          have hin : JAt (fun _ => True) we2 (.iface 122 (.map (some w1.heap.size))) (jMap _) := hpe2.wide.map hme2 trivial (by have := hpe2.len; simp only [List.length_append, List.length_cons, List.length_nil] at this ⊢; omega)
          cases hE7 : v7.toList.isEmpty
          · go_wp2_with (at_mapUpdate; refine wp_put _ rfl _ _ _ 122 rfl 20 Tryz.underlying122 (w.heap.size + 1) [(f, .iface 122 (.map (some w1.heap.size)))] rfl hob2 (by simp [maxLen]) s_name rfl (by decide) _ rfl ?_; intro wn hnn hgn)
            go_ret2
            have hxn := ext_put hxe2 hgn (by omega)
            have hq0 := hoa2.grown hgn (someNe (by omega))
            have hqM := hme2.grown hgn (someNe hne1.symm)
            have hin2 : JAt (fun _ => True) wn (.iface 122 (.map (some w1.heap.size))) (jMap _) := (hpe2.moveB hxe2 hxn).wide.map hqM trivial (by have := hpe2.len; simp only [List.length_append, List.length_cons, List.length_nil] at this ⊢; omega)
            refine ⟨_, rfl, ?_, hxn⟩
            rw [jT_some (k := s_name) H7.out hE7]
            refine jMap_one hq0 trivial (PJ.map (rp := [(f, .iface 122 (.map (some w1.heap.size))), (s_name, .iface 9 (.string v7))]) (pj := [(f, _), (s_name, .str v7)]) ⟨rfl, ?_⟩ hnn trivial (by simp))
            simp only [List.map_cons, List.map_nil, JsAt]
            exact ⟨hin2, by simp [JAt], trivial⟩
          · go_wp2_with fail
            go_ret2
            refine ⟨_, rfl, ?_, hxe2⟩
            rw [jT_none (k := s_name) H7.out hE7]
            exact jMap_one hoa2 trivial (jMap_one hob2 trivial hin)
end Go.Proofs.YtocfoheckgdonaaGreatDoor

namespace Go.Proofs.YtocfoheckgdonaaGreatDoor
open Go.RowKit

/-- The tree of a range query behind settings. -/
def rangeJ (f : ByteArray) (ps : List (ByteArray × T)) : J := jMap [(s_range, jMap ([(f, jMap ([(s_from, jU (bound s_from s_gt s_gte (ps)))] ++ [(s_to, jU (bound s_to s_lt s_lte (ps)))] ++ jT s_time_zone (lastOf (ps) s_time_zone) ++ jT s_format (lastOf (ps) s_format) ++ jT s_relation (lastOf (ps) s_relation) ++ jN s_boost (lastOf (ps) s_boost) ++ [(s_include_lower, J.yes (incl s_gt s_gte s_include_lower (ps)))] ++ [(s_include_upper, J.yes (incl s_lt s_lte s_include_upper (ps)))]))] ++ jT s_name (lastOf (ps) s_name)))]
set_option maxRecDepth 20000 in
set_option maxHeartbeats 8000000 in
theorem range_any {S : Nat → Prop} (a : Option Addr) (n c : Nat) (ps : List (ByteArray × T)) (w : World) (f : ByteArray) (hf_le : f.size ≤ maxLen) (hU : ∀ p ∈ ps, seq p.1 s_from = true ∨ seq p.1 s_to = true ∨ seq p.1 s_gt = true ∨ seq p.1 s_gte = true ∨ seq p.1 s_lt = true ∨ seq p.1 s_lte = true → UT p.2) (h : PairsAt S w a n c ps) :
    Calls Tryz.prog 25 #[.string f, .slice a n c] w fun r w' => ∃ g : El, r = .returned (.tuple #[g.val, .bool true]) ∧ TreeAt (fun b => w.heap.size + 1 ≤ b) w' g (treeJ (rangeJ f ps)) ∧ Ext w w' := by
  obtain ⟨hl, hn, hm, hc⟩ := h
  unfold maxLen at hm
  have HL := Lib.hid hl
  have HU := Lib.hid hU
  clear hl hU
  go_enter Tryz.func25, Tryz.ntmps25
  go_wp2_with go_in
  go_loopw [13] (fun i wr => Ext w wr ∧ (w.heap.size + 1) + 1 ≤ wr.heap.size ∧ Box wr w.heap.size (El.arr El0) 26 ∧ ∃ (j : Nat) (v1 : Value) (v2 : Value) (v3 : ByteArray) (v4 : Bool) (v5 : Bool) (v6 : Option Addr) (v7 : ByteArray) (v8 : ByteArray) (v9 : ByteArray), j ≤ n ∧ i = .int .i64 j ∧ Box wr (w.heap.size + 1) #[.string f, v1, v2, .string v3, .bool v4, .bool v5, .pointer v6, .string v7, .string v8, .string v9] 139 ∧ FU v1 (bound s_from s_gt s_gte (ps.take j)) ∧ FU v2 (bound s_to s_lt s_lte (ps.take j)) ∧ v3 = fT (lastOf (ps.take j) s_time_zone) ∧ v4 = incl s_gt s_gte s_include_lower (ps.take j) ∧ v5 = incl s_lt s_lte s_include_upper (ps.take j) ∧ FN (fun q => q ≠ (w.heap.size + 1)) wr v6 (lastOf (ps.take j) s_boost) ∧ v7 = fT (lastOf (ps.take j) s_name) ∧ v8 = fT (lastOf (ps.take j) s_format) ∧ v9 = fT (lastOf (ps.take j) s_relation)) (fun i _ => n - (intOf i).toNat)
  case atStart => exact ⟨by (repeat (first | exact ext_refl _ | assumption | refine ext_alloc ?_ _ | refine ext_drew ?_ | refine ext_set ?_ (by simp) _ | refine ext_trans ?_ (by assumption))), by simp, (Box.at rfl _ _).alloc _, 0, .nilIface, .nilIface, ⟨#[]⟩, true, true, none, ⟨#[]⟩, ⟨#[]⟩, ⟨#[]⟩, Nat.zero_le _, rfl, Box.at (by simp) _ _, fun w => by simp [jU, JAt, bound], fun w => by simp [jU, JAt, bound], rfl, rfl, rfl, rfl, rfl, rfl, rfl⟩
  case round =>
    obtain ⟨hx, hsz, hb0, j, v1, v2, v3, v4, v5, v6, v7, v8, v9, hj, rfl, hbq, h1, h2, h3, h4, h5, h6, h7, h8, h9⟩ := hrel
    have H1 := Lib.hid h1
    have H2 := Lib.hid h2
    have H3 := Lib.hid h3
    have H4 := Lib.hid h4
    have H5 := Lib.hid h5
    have H6 := Lib.hid h6
    have H7 := Lib.hid h7
    have H8 := Lib.hid h8
    have H9 := Lib.hid h9
    clear h1 h2 h3 h4 h5 h6 h7 h8 h9
    have hbql := hbq.lt
    by_cases hlt : j < n
    · obtain ⟨p, hp⟩ := some_of_lt HL.out hlt
      obtain ⟨b, off, ⟨k, x, d, y, ka, kn, kc, ca, m, cc⟩, rfl, hSb, hc7, hT⟩ := hc j p hp
      obtain ⟨z0, z1, z2, z3, z4, z5, z6⟩ := Cells7.ext hx hc7
      have HP := Lib.hid hp
      have hl0 : w.heap.size < wr.heap.size := by omega
      have hl1 : ¬ w.heap.size = wr.heap.size := by omega
      have hl2 : (w.heap.size + 1) < wr.heap.size + 1 := by omega
      have hTx := Lib.hid hT.parts.2.1
      have hTd := Lib.hid hT.parts.2.2.1
      have hTy := Lib.hid hT.parts.2.2.2.1
      have HTT := Lib.hid (fun (w1 : World) (xx : Ext w w1) (hs : UT p.2) => plain_u _ _ w1 (hT.ext xx) hs)
      clear hp hT
      have hc0 := hbq.cell 0 _ rfl
      have hf0 := hbq.free 0
      have hc1 := hbq.cell 1 _ rfl
      have hf1 := hbq.free 1
      have hc2 := hbq.cell 2 _ rfl
      have hf2 := hbq.free 2
      have hc3 := hbq.cell 3 _ rfl
      have hf3 := hbq.free 3
      have hc4 := hbq.cell 4 _ rfl
      have hf4 := hbq.free 4
      have hc5 := hbq.cell 5 _ rfl
      have hf5 := hbq.free 5
      have hc6 := hbq.cell 6 _ rfl
      have hf6 := hbq.free 6
      have hc7 := hbq.cell 7 _ rfl
      have hf7 := hbq.free 7
      have hc8 := hbq.cell 8 _ rfl
      have hf8 := hbq.free 8
      have hc9 := hbq.cell 9 _ rfl
      have hf9 := hbq.free 9
      cases he0 : p.1.toList == [102, 114, 111, 109]
      · have e0 : seq p.1 s_from = false := by rw [seq, show s_from.toList = [102, 114, 111, 109] by rw [Lib.toList_data]]; exact he0
        cases he1 : p.1.toList == [116, 111]
        · have e1 : seq p.1 s_to = false := by rw [seq, show s_to.toList = [116, 111] by rw [Lib.toList_data]]; exact he1
          cases he2 : p.1.toList == [103, 116]
          · have e2 : seq p.1 s_gt = false := by rw [seq, show s_gt.toList = [103, 116] by rw [Lib.toList_data]]; exact he2
            cases he3 : p.1.toList == [103, 116, 101]
            · have e3 : seq p.1 s_gte = false := by rw [seq, show s_gte.toList = [103, 116, 101] by rw [Lib.toList_data]]; exact he3
              cases he4 : p.1.toList == [108, 116]
              · have e4 : seq p.1 s_lt = false := by rw [seq, show s_lt.toList = [108, 116] by rw [Lib.toList_data]]; exact he4
                cases he5 : p.1.toList == [108, 116, 101]
                · have e5 : seq p.1 s_lte = false := by rw [seq, show s_lte.toList = [108, 116, 101] by rw [Lib.toList_data]]; exact he5
                  cases he6 : p.1.toList == [105, 110, 99, 108, 117, 100, 101, 95, 108, 111, 119, 101, 114]
                  · have e6 : seq p.1 s_include_lower = false := by rw [seq, show s_include_lower.toList = [105, 110, 99, 108, 117, 100, 101, 95, 108, 111, 119, 101, 114] by rw [Lib.toList_data]]; exact he6
                    cases he7 : p.1.toList == [105, 110, 99, 108, 117, 100, 101, 95, 117, 112, 112, 101, 114]
                    · have e7 : seq p.1 s_include_upper = false := by rw [seq, show s_include_upper.toList = [105, 110, 99, 108, 117, 100, 101, 95, 117, 112, 112, 101, 114] by rw [Lib.toList_data]]; exact he7
                      cases he8 : p.1.toList == [98, 111, 111, 115, 116]
                      · have e8 : seq p.1 s_boost = false := by rw [seq, show s_boost.toList = [98, 111, 111, 115, 116] by rw [Lib.toList_data]]; exact he8
                        cases he9 : p.1.toList == [102, 111, 114, 109, 97, 116]
                        · have e9 : seq p.1 s_format = false := by rw [seq, show s_format.toList = [102, 111, 114, 109, 97, 116] by rw [Lib.toList_data]]; exact he9
                          cases he10 : p.1.toList == [114, 101, 108, 97, 116, 105, 111, 110]
                          · have e10 : seq p.1 s_relation = false := by rw [seq, show s_relation.toList = [114, 101, 108, 97, 116, 105, 111, 110] by rw [Lib.toList_data]]; exact he10
                            cases he11 : p.1.toList == [116, 105, 109, 101, 95, 122, 111, 110, 101]
                            · have e11 : seq p.1 s_time_zone = false := by rw [seq, show s_time_zone.toList = [116, 105, 109, 101, 95, 122, 111, 110, 101] by rw [Lib.toList_data]]; exact he11
                              cases he12 : p.1.toList == [95, 110, 97, 109, 101]
                              · have e12 : seq p.1 s_name = false := by rw [seq, show s_name.toList = [95, 110, 97, 109, 101] by rw [Lib.toList_data]]; exact he12
                                go_wp2_with go_in
                                go_roundw
                                case rel =>
                                  have hy := ext_alloc (ext_refl wr) (.cells #[.string p.1, .int .i64 k, .string x, .float .f64 d, .bool y, .slice ka kn kc, .slice ca m cc] 52)
                                  exact ⟨ext_trans hx hy, Nat.le_trans hsz hy.sz, hb0.ext hy, j + 1, v1, v2, v3, v4, v5, v6, v7, v8, v9, by omega, by go_num, hbq.ext hy, by rw [bound_snoc HP.out, if_neg (seq_false.1 e0), if_neg (seq_false.1 e2), if_neg (seq_false.1 e3)]; exact H1.out, by rw [bound_snoc HP.out, if_neg (seq_false.1 e1), if_neg (seq_false.1 e4), if_neg (seq_false.1 e5)]; exact H2.out, by rw [last_miss HP.out e11]; exact H3.out, by rw [incl_snoc HP.out, if_neg (seq_false.1 e2), if_neg (seq_false.1 e3), if_neg (seq_false.1 e6)]; exact H4.out, by rw [incl_snoc HP.out, if_neg (seq_false.1 e4), if_neg (seq_false.1 e5), if_neg (seq_false.1 e7)]; exact H5.out, by rw [last_miss HP.out e8]; exact FN.ext hy H6.out, by rw [last_miss HP.out e12]; exact H7.out, by rw [last_miss HP.out e9]; exact H8.out, by rw [last_miss HP.out e10]; exact H9.out⟩
                                case measure => simp [intOf]; omega
                              · have e12 : seq p.1 s_name = true := by rw [seq, show s_name.toList = [95, 110, 97, 109, 101] by rw [Lib.toList_data]]; exact he12
                                go_wp2_with go_in
                                go_roundw
                                case rel =>
                                  have hk : Keeps (fun q => q ≠ (w.heap.size + 1)) wr ((wr.setCell ⟨(w.heap.size + 1), 7, none⟩ (.string x)).alloc (.cells #[.string p.1, .int .i64 k, .string x, .float .f64 d, .bool y, .slice ka kn kc, .slice ca m cc] 52)) := fun q hq hlt => (Below.heap_alloc _ _ _ (by simpa using hlt)).trans (Below.heap_setCell _ _ _ _ (by simp; omega))
                                  exact ⟨ext_alloc (ext_set hx (by simp) _) _, by simp; omega, (hb0.other (by simp) _).alloc _, j + 1, v1, v2, v3, v4, v5, v6, x, v8, v9, by omega, by go_num, (hbq.set 7 _).alloc _, by rw [bound_snoc HP.out, if_neg (fun h9 => absurd (h9.symm.trans (seq_iff.1 e12)) (by decide)), if_neg (fun h9 => absurd (h9.symm.trans (seq_iff.1 e12)) (by decide)), if_neg (fun h9 => absurd (h9.symm.trans (seq_iff.1 e12)) (by decide))]; exact H1.out, by rw [bound_snoc HP.out, if_neg (fun h9 => absurd (h9.symm.trans (seq_iff.1 e12)) (by decide)), if_neg (fun h9 => absurd (h9.symm.trans (seq_iff.1 e12)) (by decide)), if_neg (fun h9 => absurd (h9.symm.trans (seq_iff.1 e12)) (by decide))]; exact H2.out, by rw [last_other HP.out e12 (seq_false.2 (by decide))]; exact H3.out, by rw [incl_snoc HP.out, if_neg (fun h9 => absurd (h9.symm.trans (seq_iff.1 e12)) (by decide)), if_neg (fun h9 => absurd (h9.symm.trans (seq_iff.1 e12)) (by decide)), if_neg (fun h9 => absurd (h9.symm.trans (seq_iff.1 e12)) (by decide))]; exact H4.out, by rw [incl_snoc HP.out, if_neg (fun h9 => absurd (h9.symm.trans (seq_iff.1 e12)) (by decide)), if_neg (fun h9 => absurd (h9.symm.trans (seq_iff.1 e12)) (by decide)), if_neg (fun h9 => absurd (h9.symm.trans (seq_iff.1 e12)) (by decide))]; exact H5.out, by rw [last_other HP.out e12 (seq_false.2 (by decide))]; exact FN.keep (fun _ h _ => h) hk H6.out, by rw [last_hit HP.out e12]; exact hTx.out, by rw [last_other HP.out e12 (seq_false.2 (by decide))]; exact H8.out, by rw [last_other HP.out e12 (seq_false.2 (by decide))]; exact H9.out⟩
                                case measure => simp [intOf]; omega
                            · have e11 : seq p.1 s_time_zone = true := by rw [seq, show s_time_zone.toList = [116, 105, 109, 101, 95, 122, 111, 110, 101] by rw [Lib.toList_data]]; exact he11
                              go_wp2_with go_in
                              go_roundw
                              case rel =>
                                have hk : Keeps (fun q => q ≠ (w.heap.size + 1)) wr ((wr.setCell ⟨(w.heap.size + 1), 3, none⟩ (.string x)).alloc (.cells #[.string p.1, .int .i64 k, .string x, .float .f64 d, .bool y, .slice ka kn kc, .slice ca m cc] 52)) := fun q hq hlt => (Below.heap_alloc _ _ _ (by simpa using hlt)).trans (Below.heap_setCell _ _ _ _ (by simp; omega))
                                exact ⟨ext_alloc (ext_set hx (by simp) _) _, by simp; omega, (hb0.other (by simp) _).alloc _, j + 1, v1, v2, x, v4, v5, v6, v7, v8, v9, by omega, by go_num, (hbq.set 3 _).alloc _, by rw [bound_snoc HP.out, if_neg (fun h9 => absurd (h9.symm.trans (seq_iff.1 e11)) (by decide)), if_neg (fun h9 => absurd (h9.symm.trans (seq_iff.1 e11)) (by decide)), if_neg (fun h9 => absurd (h9.symm.trans (seq_iff.1 e11)) (by decide))]; exact H1.out, by rw [bound_snoc HP.out, if_neg (fun h9 => absurd (h9.symm.trans (seq_iff.1 e11)) (by decide)), if_neg (fun h9 => absurd (h9.symm.trans (seq_iff.1 e11)) (by decide)), if_neg (fun h9 => absurd (h9.symm.trans (seq_iff.1 e11)) (by decide))]; exact H2.out, by rw [last_hit HP.out e11]; exact hTx.out, by rw [incl_snoc HP.out, if_neg (fun h9 => absurd (h9.symm.trans (seq_iff.1 e11)) (by decide)), if_neg (fun h9 => absurd (h9.symm.trans (seq_iff.1 e11)) (by decide)), if_neg (fun h9 => absurd (h9.symm.trans (seq_iff.1 e11)) (by decide))]; exact H4.out, by rw [incl_snoc HP.out, if_neg (fun h9 => absurd (h9.symm.trans (seq_iff.1 e11)) (by decide)), if_neg (fun h9 => absurd (h9.symm.trans (seq_iff.1 e11)) (by decide)), if_neg (fun h9 => absurd (h9.symm.trans (seq_iff.1 e11)) (by decide))]; exact H5.out, by rw [last_other HP.out e11 (seq_false.2 (by decide))]; exact FN.keep (fun _ h _ => h) hk H6.out, by rw [last_other HP.out e11 (seq_false.2 (by decide))]; exact H7.out, by rw [last_other HP.out e11 (seq_false.2 (by decide))]; exact H8.out, by rw [last_other HP.out e11 (seq_false.2 (by decide))]; exact H9.out⟩
                              case measure => simp [intOf]; omega
                          · have e10 : seq p.1 s_relation = true := by rw [seq, show s_relation.toList = [114, 101, 108, 97, 116, 105, 111, 110] by rw [Lib.toList_data]]; exact he10
                            go_wp2_with go_in
                            go_roundw
                            case rel =>
                              have hk : Keeps (fun q => q ≠ (w.heap.size + 1)) wr ((wr.setCell ⟨(w.heap.size + 1), 9, none⟩ (.string x)).alloc (.cells #[.string p.1, .int .i64 k, .string x, .float .f64 d, .bool y, .slice ka kn kc, .slice ca m cc] 52)) := fun q hq hlt => (Below.heap_alloc _ _ _ (by simpa using hlt)).trans (Below.heap_setCell _ _ _ _ (by simp; omega))
                              exact ⟨ext_alloc (ext_set hx (by simp) _) _, by simp; omega, (hb0.other (by simp) _).alloc _, j + 1, v1, v2, v3, v4, v5, v6, v7, v8, x, by omega, by go_num, (hbq.set 9 _).alloc _, by rw [bound_snoc HP.out, if_neg (fun h9 => absurd (h9.symm.trans (seq_iff.1 e10)) (by decide)), if_neg (fun h9 => absurd (h9.symm.trans (seq_iff.1 e10)) (by decide)), if_neg (fun h9 => absurd (h9.symm.trans (seq_iff.1 e10)) (by decide))]; exact H1.out, by rw [bound_snoc HP.out, if_neg (fun h9 => absurd (h9.symm.trans (seq_iff.1 e10)) (by decide)), if_neg (fun h9 => absurd (h9.symm.trans (seq_iff.1 e10)) (by decide)), if_neg (fun h9 => absurd (h9.symm.trans (seq_iff.1 e10)) (by decide))]; exact H2.out, by rw [last_other HP.out e10 (seq_false.2 (by decide))]; exact H3.out, by rw [incl_snoc HP.out, if_neg (fun h9 => absurd (h9.symm.trans (seq_iff.1 e10)) (by decide)), if_neg (fun h9 => absurd (h9.symm.trans (seq_iff.1 e10)) (by decide)), if_neg (fun h9 => absurd (h9.symm.trans (seq_iff.1 e10)) (by decide))]; exact H4.out, by rw [incl_snoc HP.out, if_neg (fun h9 => absurd (h9.symm.trans (seq_iff.1 e10)) (by decide)), if_neg (fun h9 => absurd (h9.symm.trans (seq_iff.1 e10)) (by decide)), if_neg (fun h9 => absurd (h9.symm.trans (seq_iff.1 e10)) (by decide))]; exact H5.out, by rw [last_other HP.out e10 (seq_false.2 (by decide))]; exact FN.keep (fun _ h _ => h) hk H6.out, by rw [last_other HP.out e10 (seq_false.2 (by decide))]; exact H7.out, by rw [last_other HP.out e10 (seq_false.2 (by decide))]; exact H8.out, by rw [last_hit HP.out e10]; exact hTx.out⟩
                            case measure => simp [intOf]; omega
                        · have e9 : seq p.1 s_format = true := by rw [seq, show s_format.toList = [102, 111, 114, 109, 97, 116] by rw [Lib.toList_data]]; exact he9
                          go_wp2_with go_in
                          go_roundw
                          case rel =>
                            have hk : Keeps (fun q => q ≠ (w.heap.size + 1)) wr ((wr.setCell ⟨(w.heap.size + 1), 8, none⟩ (.string x)).alloc (.cells #[.string p.1, .int .i64 k, .string x, .float .f64 d, .bool y, .slice ka kn kc, .slice ca m cc] 52)) := fun q hq hlt => (Below.heap_alloc _ _ _ (by simpa using hlt)).trans (Below.heap_setCell _ _ _ _ (by simp; omega))
                            exact ⟨ext_alloc (ext_set hx (by simp) _) _, by simp; omega, (hb0.other (by simp) _).alloc _, j + 1, v1, v2, v3, v4, v5, v6, v7, x, v9, by omega, by go_num, (hbq.set 8 _).alloc _, by rw [bound_snoc HP.out, if_neg (fun h9 => absurd (h9.symm.trans (seq_iff.1 e9)) (by decide)), if_neg (fun h9 => absurd (h9.symm.trans (seq_iff.1 e9)) (by decide)), if_neg (fun h9 => absurd (h9.symm.trans (seq_iff.1 e9)) (by decide))]; exact H1.out, by rw [bound_snoc HP.out, if_neg (fun h9 => absurd (h9.symm.trans (seq_iff.1 e9)) (by decide)), if_neg (fun h9 => absurd (h9.symm.trans (seq_iff.1 e9)) (by decide)), if_neg (fun h9 => absurd (h9.symm.trans (seq_iff.1 e9)) (by decide))]; exact H2.out, by rw [last_other HP.out e9 (seq_false.2 (by decide))]; exact H3.out, by rw [incl_snoc HP.out, if_neg (fun h9 => absurd (h9.symm.trans (seq_iff.1 e9)) (by decide)), if_neg (fun h9 => absurd (h9.symm.trans (seq_iff.1 e9)) (by decide)), if_neg (fun h9 => absurd (h9.symm.trans (seq_iff.1 e9)) (by decide))]; exact H4.out, by rw [incl_snoc HP.out, if_neg (fun h9 => absurd (h9.symm.trans (seq_iff.1 e9)) (by decide)), if_neg (fun h9 => absurd (h9.symm.trans (seq_iff.1 e9)) (by decide)), if_neg (fun h9 => absurd (h9.symm.trans (seq_iff.1 e9)) (by decide))]; exact H5.out, by rw [last_other HP.out e9 (seq_false.2 (by decide))]; exact FN.keep (fun _ h _ => h) hk H6.out, by rw [last_other HP.out e9 (seq_false.2 (by decide))]; exact H7.out, by rw [last_hit HP.out e9]; exact hTx.out, by rw [last_other HP.out e9 (seq_false.2 (by decide))]; exact H9.out⟩
                          case measure => simp [intOf]; omega
                      · have e8 : seq p.1 s_boost = true := by rw [seq, show s_boost.toList = [98, 111, 111, 115, 116] by rw [Lib.toList_data]]; exact he8
                        go_wp2_with go_in
                        go_roundw
                        case rel =>
                          have hk : Keeps (fun q => q ≠ (w.heap.size + 1)) wr (((wr.setCell ⟨(w.heap.size + 1), 6, none⟩ (.pointer (some ⟨wr.heap.size + 1, 0, none⟩))).alloc (.cells #[.string p.1, .int .i64 k, .string x, .float .f64 d, .bool y, .slice ka kn kc, .slice ca m cc] 52)).alloc (.cells #[.float .f64 d] 22)) := fun q hq hlt => (Below.heap_alloc _ _ _ (by simp; omega)).trans ((Below.heap_alloc _ _ _ (by simpa using hlt)).trans (Below.heap_setCell _ _ _ _ (by simp; omega)))
                          have hnew : (((wr.setCell ⟨(w.heap.size + 1), 6, none⟩ (.pointer (some ⟨wr.heap.size + 1, 0, none⟩))).alloc (.cells #[.string p.1, .int .i64 k, .string x, .float .f64 d, .bool y, .slice ka kn kc, .slice ca m cc] 52)).alloc (.cells #[.float .f64 d] 22)).cell? ⟨wr.heap.size + 1, 0, none⟩ = some (.float .f64 d) := (Box.at (by simp) _ _).cell 0 _ rfl
                          exact ⟨ext_alloc (ext_alloc (ext_set hx (by simp) _) _) _, by simp; omega, ((hb0.other (by simp) _).alloc _).alloc _, j + 1, v1, v2, v3, v4, v5, some ⟨wr.heap.size + 1, 0, none⟩, v7, v8, v9, by omega, by go_num, ((hbq.set 6 _).alloc _).alloc _, by rw [bound_snoc HP.out, if_neg (fun h9 => absurd (h9.symm.trans (seq_iff.1 e8)) (by decide)), if_neg (fun h9 => absurd (h9.symm.trans (seq_iff.1 e8)) (by decide)), if_neg (fun h9 => absurd (h9.symm.trans (seq_iff.1 e8)) (by decide))]; exact H1.out, by rw [bound_snoc HP.out, if_neg (fun h9 => absurd (h9.symm.trans (seq_iff.1 e8)) (by decide)), if_neg (fun h9 => absurd (h9.symm.trans (seq_iff.1 e8)) (by decide)), if_neg (fun h9 => absurd (h9.symm.trans (seq_iff.1 e8)) (by decide))]; exact H2.out, by rw [last_other HP.out e8 (seq_false.2 (by decide))]; exact H3.out, by rw [incl_snoc HP.out, if_neg (fun h9 => absurd (h9.symm.trans (seq_iff.1 e8)) (by decide)), if_neg (fun h9 => absurd (h9.symm.trans (seq_iff.1 e8)) (by decide)), if_neg (fun h9 => absurd (h9.symm.trans (seq_iff.1 e8)) (by decide))]; exact H4.out, by rw [incl_snoc HP.out, if_neg (fun h9 => absurd (h9.symm.trans (seq_iff.1 e8)) (by decide)), if_neg (fun h9 => absurd (h9.symm.trans (seq_iff.1 e8)) (by decide)), if_neg (fun h9 => absurd (h9.symm.trans (seq_iff.1 e8)) (by decide))]; exact H5.out, by rw [last_hit HP.out e8]; exact ⟨wr.heap.size + 1, rfl, by omega, by rw [← hTd.out]; exact hnew⟩, by rw [last_other HP.out e8 (seq_false.2 (by decide))]; exact H7.out, by rw [last_other HP.out e8 (seq_false.2 (by decide))]; exact H8.out, by rw [last_other HP.out e8 (seq_false.2 (by decide))]; exact H9.out⟩
                        case measure => simp [intOf]; omega
                    · have e7 : seq p.1 s_include_upper = true := by rw [seq, show s_include_upper.toList = [105, 110, 99, 108, 117, 100, 101, 95, 117, 112, 112, 101, 114] by rw [Lib.toList_data]]; exact he7
                      go_wp2_with go_in
                      go_roundw
                      case rel =>
                        have hk : Keeps (fun q => q ≠ (w.heap.size + 1)) wr ((wr.setCell ⟨(w.heap.size + 1), 5, none⟩ (.bool y)).alloc (.cells #[.string p.1, .int .i64 k, .string x, .float .f64 d, .bool y, .slice ka kn kc, .slice ca m cc] 52)) := fun q hq hlt => (Below.heap_alloc _ _ _ (by simpa using hlt)).trans (Below.heap_setCell _ _ _ _ (by simp; omega))
                        exact ⟨ext_alloc (ext_set hx (by simp) _) _, by simp; omega, (hb0.other (by simp) _).alloc _, j + 1, v1, v2, v3, v4, y, v6, v7, v8, v9, by omega, by go_num, (hbq.set 5 _).alloc _, by rw [bound_snoc HP.out, if_neg (fun h9 => absurd (h9.symm.trans (seq_iff.1 e7)) (by decide)), if_neg (fun h9 => absurd (h9.symm.trans (seq_iff.1 e7)) (by decide)), if_neg (fun h9 => absurd (h9.symm.trans (seq_iff.1 e7)) (by decide))]; exact H1.out, by rw [bound_snoc HP.out, if_neg (fun h9 => absurd (h9.symm.trans (seq_iff.1 e7)) (by decide)), if_neg (fun h9 => absurd (h9.symm.trans (seq_iff.1 e7)) (by decide)), if_neg (fun h9 => absurd (h9.symm.trans (seq_iff.1 e7)) (by decide))]; exact H2.out, by rw [last_other HP.out e7 (seq_false.2 (by decide))]; exact H3.out, by rw [incl_snoc HP.out, if_neg (fun h9 => absurd (h9.symm.trans (seq_iff.1 e7)) (by decide)), if_neg (fun h9 => absurd (h9.symm.trans (seq_iff.1 e7)) (by decide)), if_neg (fun h9 => absurd (h9.symm.trans (seq_iff.1 e7)) (by decide))]; exact H4.out, by rw [incl_snoc HP.out, if_neg (fun h9 => absurd (h9.symm.trans (seq_iff.1 e7)) (by decide)), if_neg (fun h9 => absurd (h9.symm.trans (seq_iff.1 e7)) (by decide)), if_pos (seq_iff.1 e7)]; exact hTy.out, by rw [last_other HP.out e7 (seq_false.2 (by decide))]; exact FN.keep (fun _ h _ => h) hk H6.out, by rw [last_other HP.out e7 (seq_false.2 (by decide))]; exact H7.out, by rw [last_other HP.out e7 (seq_false.2 (by decide))]; exact H8.out, by rw [last_other HP.out e7 (seq_false.2 (by decide))]; exact H9.out⟩
                      case measure => simp [intOf]; omega
                  · have e6 : seq p.1 s_include_lower = true := by rw [seq, show s_include_lower.toList = [105, 110, 99, 108, 117, 100, 101, 95, 108, 111, 119, 101, 114] by rw [Lib.toList_data]]; exact he6
                    go_wp2_with go_in
                    go_roundw
                    case rel =>
                      have hk : Keeps (fun q => q ≠ (w.heap.size + 1)) wr ((wr.setCell ⟨(w.heap.size + 1), 4, none⟩ (.bool y)).alloc (.cells #[.string p.1, .int .i64 k, .string x, .float .f64 d, .bool y, .slice ka kn kc, .slice ca m cc] 52)) := fun q hq hlt => (Below.heap_alloc _ _ _ (by simpa using hlt)).trans (Below.heap_setCell _ _ _ _ (by simp; omega))
                      exact ⟨ext_alloc (ext_set hx (by simp) _) _, by simp; omega, (hb0.other (by simp) _).alloc _, j + 1, v1, v2, v3, y, v5, v6, v7, v8, v9, by omega, by go_num, (hbq.set 4 _).alloc _, by rw [bound_snoc HP.out, if_neg (fun h9 => absurd (h9.symm.trans (seq_iff.1 e6)) (by decide)), if_neg (fun h9 => absurd (h9.symm.trans (seq_iff.1 e6)) (by decide)), if_neg (fun h9 => absurd (h9.symm.trans (seq_iff.1 e6)) (by decide))]; exact H1.out, by rw [bound_snoc HP.out, if_neg (fun h9 => absurd (h9.symm.trans (seq_iff.1 e6)) (by decide)), if_neg (fun h9 => absurd (h9.symm.trans (seq_iff.1 e6)) (by decide)), if_neg (fun h9 => absurd (h9.symm.trans (seq_iff.1 e6)) (by decide))]; exact H2.out, by rw [last_other HP.out e6 (seq_false.2 (by decide))]; exact H3.out, by rw [incl_snoc HP.out, if_neg (fun h9 => absurd (h9.symm.trans (seq_iff.1 e6)) (by decide)), if_neg (fun h9 => absurd (h9.symm.trans (seq_iff.1 e6)) (by decide)), if_pos (seq_iff.1 e6)]; exact hTy.out, by rw [incl_snoc HP.out, if_neg (fun h9 => absurd (h9.symm.trans (seq_iff.1 e6)) (by decide)), if_neg (fun h9 => absurd (h9.symm.trans (seq_iff.1 e6)) (by decide)), if_neg (fun h9 => absurd (h9.symm.trans (seq_iff.1 e6)) (by decide))]; exact H5.out, by rw [last_other HP.out e6 (seq_false.2 (by decide))]; exact FN.keep (fun _ h _ => h) hk H6.out, by rw [last_other HP.out e6 (seq_false.2 (by decide))]; exact H7.out, by rw [last_other HP.out e6 (seq_false.2 (by decide))]; exact H8.out, by rw [last_other HP.out e6 (seq_false.2 (by decide))]; exact H9.out⟩
                    case measure => simp [intOf]; omega
                · have e5 : seq p.1 s_lte = true := by rw [seq, show s_lte.toList = [108, 116, 101] by rw [Lib.toList_data]]; exact he5
                  have hSC := HU.out p (List.mem_of_getElem? HP.out) (.inr (.inr (.inr (.inr (.inr e5)))))
                  have hnn := ext_alloc (ext_refl wr) (.cells #[.string p.1, .int .i64 k, .string x, .float .f64 d, .bool y, .slice ka kn kc, .slice ca m cc] 52)
                  have HPL := Lib.hid (HTT.out _ (ext_trans hx hnn) hSC)
                  clear hSC
                  go_wp2_with (first
                    | (go_at_call 36; refine HPL.out.mono ?_; rintro r wl ⟨pv, rfl, hone, hJ, hxl⟩; have HJ := Lib.hid hJ; clear hJ
                       have hyl := ext_trans hnn hxl; have hbl := hbq.ext hyl; have hbl0 := hb0.ext hyl; have hsl := hyl.sz
                       have hc0 := hbl.cell 0 _ rfl; have hf0 := hbl.free 0
                       have hc1 := hbl.cell 1 _ rfl; have hf1 := hbl.free 1
                       have hc2 := hbl.cell 2 _ rfl; have hf2 := hbl.free 2
                       have hc3 := hbl.cell 3 _ rfl; have hf3 := hbl.free 3
                       have hc4 := hbl.cell 4 _ rfl; have hf4 := hbl.free 4
                       have hc5 := hbl.cell 5 _ rfl; have hf5 := hbl.free 5
                       have hc6 := hbl.cell 6 _ rfl; have hf6 := hbl.free 6
                       have hc7 := hbl.cell 7 _ rfl; have hf7 := hbl.free 7
                       have hc8 := hbl.cell 8 _ rfl; have hf8 := hbl.free 8
                       have hc9 := hbl.cell 9 _ rfl; have hf9 := hbl.free 9
                       have g0 := hbl.lt; have g1 : ¬ w.heap.size = wl.heap.size := by omega
                       rcases hone with rfl | ⟨pty, px, rfl⟩)
                    | go_in)
                  · go_roundw
                    case rel =>
                      have hk : Keeps (fun q => q ≠ (w.heap.size + 1)) wr ((wl.setCell ⟨(w.heap.size + 1), 2, none⟩ (.nilIface)).setCell ⟨(w.heap.size + 1), 5, none⟩ (.bool true)) := fun q hq hlt => (Below.heap_setCell _ _ _ _ (by simp; omega)).trans ((Below.heap_setCell _ _ _ _ (by simp; omega)).trans (hyl.block q hlt))
                      repeat apply Exists.intro
                      refine And.intro ?_ rfl
                      exact ⟨ext_set (ext_set (ext_trans hx hyl) (by simp) (.nilIface)) (by simp) (.bool true), by simp; omega, ((hbl0).other (p := ⟨(w.heap.size + 1), 2, none⟩) (by simp) (.nilIface)).other (p := ⟨(w.heap.size + 1), 5, none⟩) (by simp) (.bool true), j + 1, v1, (.nilIface), v3, v4, true, v6, v7, v8, v9, by omega, by go_num, ((hbl).set 2 (.nilIface)).set 5 (.bool true), by rw [bound_snoc HP.out, if_neg (fun h9 => absurd (h9.symm.trans (seq_iff.1 e5)) (by decide)), if_neg (fun h9 => absurd (h9.symm.trans (seq_iff.1 e5)) (by decide)), if_neg (fun h9 => absurd (h9.symm.trans (seq_iff.1 e5)) (by decide))]; exact H1.out, by rw [bound_snoc HP.out, if_neg (fun h9 => absurd (h9.symm.trans (seq_iff.1 e5)) (by decide)), if_neg (fun h9 => absurd (h9.symm.trans (seq_iff.1 e5)) (by decide)), if_pos (seq_iff.1 e5)]; exact fun w => HJ.out w, by rw [last_other HP.out e5 (seq_false.2 (by decide))]; exact H3.out, by rw [incl_snoc HP.out, if_neg (fun h9 => absurd (h9.symm.trans (seq_iff.1 e5)) (by decide)), if_neg (fun h9 => absurd (h9.symm.trans (seq_iff.1 e5)) (by decide)), if_neg (fun h9 => absurd (h9.symm.trans (seq_iff.1 e5)) (by decide))]; exact H4.out, by rw [incl_snoc HP.out, if_neg (fun h9 => absurd (h9.symm.trans (seq_iff.1 e5)) (by decide)), if_pos (seq_iff.1 e5)], by rw [last_other HP.out e5 (seq_false.2 (by decide))]; exact FN.keep (fun _ h _ => h) hk H6.out, by rw [last_other HP.out e5 (seq_false.2 (by decide))]; exact H7.out, by rw [last_other HP.out e5 (seq_false.2 (by decide))]; exact H8.out, by rw [last_other HP.out e5 (seq_false.2 (by decide))]; exact H9.out⟩
                    case measure => simp [intOf]; omega
                  · go_roundw
                    case rel =>
                      have hk : Keeps (fun q => q ≠ (w.heap.size + 1)) wr ((wl.setCell ⟨(w.heap.size + 1), 2, none⟩ (.iface pty px)).setCell ⟨(w.heap.size + 1), 5, none⟩ (.bool true)) := fun q hq hlt => (Below.heap_setCell _ _ _ _ (by simp; omega)).trans ((Below.heap_setCell _ _ _ _ (by simp; omega)).trans (hyl.block q hlt))
                      repeat apply Exists.intro
                      refine And.intro ?_ rfl
                      exact ⟨ext_set (ext_set (ext_trans hx hyl) (by simp) (.iface pty px)) (by simp) (.bool true), by simp; omega, ((hbl0).other (p := ⟨(w.heap.size + 1), 2, none⟩) (by simp) (.iface pty px)).other (p := ⟨(w.heap.size + 1), 5, none⟩) (by simp) (.bool true), j + 1, v1, (.iface pty px), v3, v4, true, v6, v7, v8, v9, by omega, by go_num, ((hbl).set 2 (.iface pty px)).set 5 (.bool true), by rw [bound_snoc HP.out, if_neg (fun h9 => absurd (h9.symm.trans (seq_iff.1 e5)) (by decide)), if_neg (fun h9 => absurd (h9.symm.trans (seq_iff.1 e5)) (by decide)), if_neg (fun h9 => absurd (h9.symm.trans (seq_iff.1 e5)) (by decide))]; exact H1.out, by rw [bound_snoc HP.out, if_neg (fun h9 => absurd (h9.symm.trans (seq_iff.1 e5)) (by decide)), if_neg (fun h9 => absurd (h9.symm.trans (seq_iff.1 e5)) (by decide)), if_pos (seq_iff.1 e5)]; exact fun w => HJ.out w, by rw [last_other HP.out e5 (seq_false.2 (by decide))]; exact H3.out, by rw [incl_snoc HP.out, if_neg (fun h9 => absurd (h9.symm.trans (seq_iff.1 e5)) (by decide)), if_neg (fun h9 => absurd (h9.symm.trans (seq_iff.1 e5)) (by decide)), if_neg (fun h9 => absurd (h9.symm.trans (seq_iff.1 e5)) (by decide))]; exact H4.out, by rw [incl_snoc HP.out, if_neg (fun h9 => absurd (h9.symm.trans (seq_iff.1 e5)) (by decide)), if_pos (seq_iff.1 e5)], by rw [last_other HP.out e5 (seq_false.2 (by decide))]; exact FN.keep (fun _ h _ => h) hk H6.out, by rw [last_other HP.out e5 (seq_false.2 (by decide))]; exact H7.out, by rw [last_other HP.out e5 (seq_false.2 (by decide))]; exact H8.out, by rw [last_other HP.out e5 (seq_false.2 (by decide))]; exact H9.out⟩
                    case measure => simp [intOf]; omega
              · have e4 : seq p.1 s_lt = true := by rw [seq, show s_lt.toList = [108, 116] by rw [Lib.toList_data]]; exact he4
                have hSC := HU.out p (List.mem_of_getElem? HP.out) (.inr (.inr (.inr (.inr (.inl e4)))))
                have hnn := ext_alloc (ext_refl wr) (.cells #[.string p.1, .int .i64 k, .string x, .float .f64 d, .bool y, .slice ka kn kc, .slice ca m cc] 52)
                have HPL := Lib.hid (HTT.out _ (ext_trans hx hnn) hSC)
                clear hSC
                go_wp2_with (first
                  | (go_at_call 36; refine HPL.out.mono ?_; rintro r wl ⟨pv, rfl, hone, hJ, hxl⟩; have HJ := Lib.hid hJ; clear hJ
                     have hyl := ext_trans hnn hxl; have hbl := hbq.ext hyl; have hbl0 := hb0.ext hyl; have hsl := hyl.sz
                     have hc0 := hbl.cell 0 _ rfl; have hf0 := hbl.free 0
                     have hc1 := hbl.cell 1 _ rfl; have hf1 := hbl.free 1
                     have hc2 := hbl.cell 2 _ rfl; have hf2 := hbl.free 2
                     have hc3 := hbl.cell 3 _ rfl; have hf3 := hbl.free 3
                     have hc4 := hbl.cell 4 _ rfl; have hf4 := hbl.free 4
                     have hc5 := hbl.cell 5 _ rfl; have hf5 := hbl.free 5
                     have hc6 := hbl.cell 6 _ rfl; have hf6 := hbl.free 6
                     have hc7 := hbl.cell 7 _ rfl; have hf7 := hbl.free 7
                     have hc8 := hbl.cell 8 _ rfl; have hf8 := hbl.free 8
                     have hc9 := hbl.cell 9 _ rfl; have hf9 := hbl.free 9
                     have g0 := hbl.lt; have g1 : ¬ w.heap.size = wl.heap.size := by omega
                     rcases hone with rfl | ⟨pty, px, rfl⟩)
                  | go_in)
                · go_roundw
                  case rel =>
                    have hk : Keeps (fun q => q ≠ (w.heap.size + 1)) wr ((wl.setCell ⟨(w.heap.size + 1), 2, none⟩ (.nilIface)).setCell ⟨(w.heap.size + 1), 5, none⟩ (.bool false)) := fun q hq hlt => (Below.heap_setCell _ _ _ _ (by simp; omega)).trans ((Below.heap_setCell _ _ _ _ (by simp; omega)).trans (hyl.block q hlt))
                    repeat apply Exists.intro
                    refine And.intro ?_ rfl
                    exact ⟨ext_set (ext_set (ext_trans hx hyl) (by simp) (.nilIface)) (by simp) (.bool false), by simp; omega, ((hbl0).other (p := ⟨(w.heap.size + 1), 2, none⟩) (by simp) (.nilIface)).other (p := ⟨(w.heap.size + 1), 5, none⟩) (by simp) (.bool false), j + 1, v1, (.nilIface), v3, v4, false, v6, v7, v8, v9, by omega, by go_num, ((hbl).set 2 (.nilIface)).set 5 (.bool false), by rw [bound_snoc HP.out, if_neg (fun h9 => absurd (h9.symm.trans (seq_iff.1 e4)) (by decide)), if_neg (fun h9 => absurd (h9.symm.trans (seq_iff.1 e4)) (by decide)), if_neg (fun h9 => absurd (h9.symm.trans (seq_iff.1 e4)) (by decide))]; exact H1.out, by rw [bound_snoc HP.out, if_neg (fun h9 => absurd (h9.symm.trans (seq_iff.1 e4)) (by decide)), if_pos (seq_iff.1 e4)]; exact fun w => HJ.out w, by rw [last_other HP.out e4 (seq_false.2 (by decide))]; exact H3.out, by rw [incl_snoc HP.out, if_neg (fun h9 => absurd (h9.symm.trans (seq_iff.1 e4)) (by decide)), if_neg (fun h9 => absurd (h9.symm.trans (seq_iff.1 e4)) (by decide)), if_neg (fun h9 => absurd (h9.symm.trans (seq_iff.1 e4)) (by decide))]; exact H4.out, by rw [incl_snoc HP.out, if_pos (seq_iff.1 e4)], by rw [last_other HP.out e4 (seq_false.2 (by decide))]; exact FN.keep (fun _ h _ => h) hk H6.out, by rw [last_other HP.out e4 (seq_false.2 (by decide))]; exact H7.out, by rw [last_other HP.out e4 (seq_false.2 (by decide))]; exact H8.out, by rw [last_other HP.out e4 (seq_false.2 (by decide))]; exact H9.out⟩
                  case measure => simp [intOf]; omega
                · go_roundw
                  case rel =>
                    have hk : Keeps (fun q => q ≠ (w.heap.size + 1)) wr ((wl.setCell ⟨(w.heap.size + 1), 2, none⟩ (.iface pty px)).setCell ⟨(w.heap.size + 1), 5, none⟩ (.bool false)) := fun q hq hlt => (Below.heap_setCell _ _ _ _ (by simp; omega)).trans ((Below.heap_setCell _ _ _ _ (by simp; omega)).trans (hyl.block q hlt))
                    repeat apply Exists.intro
                    refine And.intro ?_ rfl
                    exact ⟨ext_set (ext_set (ext_trans hx hyl) (by simp) (.iface pty px)) (by simp) (.bool false), by simp; omega, ((hbl0).other (p := ⟨(w.heap.size + 1), 2, none⟩) (by simp) (.iface pty px)).other (p := ⟨(w.heap.size + 1), 5, none⟩) (by simp) (.bool false), j + 1, v1, (.iface pty px), v3, v4, false, v6, v7, v8, v9, by omega, by go_num, ((hbl).set 2 (.iface pty px)).set 5 (.bool false), by rw [bound_snoc HP.out, if_neg (fun h9 => absurd (h9.symm.trans (seq_iff.1 e4)) (by decide)), if_neg (fun h9 => absurd (h9.symm.trans (seq_iff.1 e4)) (by decide)), if_neg (fun h9 => absurd (h9.symm.trans (seq_iff.1 e4)) (by decide))]; exact H1.out, by rw [bound_snoc HP.out, if_neg (fun h9 => absurd (h9.symm.trans (seq_iff.1 e4)) (by decide)), if_pos (seq_iff.1 e4)]; exact fun w => HJ.out w, by rw [last_other HP.out e4 (seq_false.2 (by decide))]; exact H3.out, by rw [incl_snoc HP.out, if_neg (fun h9 => absurd (h9.symm.trans (seq_iff.1 e4)) (by decide)), if_neg (fun h9 => absurd (h9.symm.trans (seq_iff.1 e4)) (by decide)), if_neg (fun h9 => absurd (h9.symm.trans (seq_iff.1 e4)) (by decide))]; exact H4.out, by rw [incl_snoc HP.out, if_pos (seq_iff.1 e4)], by rw [last_other HP.out e4 (seq_false.2 (by decide))]; exact FN.keep (fun _ h _ => h) hk H6.out, by rw [last_other HP.out e4 (seq_false.2 (by decide))]; exact H7.out, by rw [last_other HP.out e4 (seq_false.2 (by decide))]; exact H8.out, by rw [last_other HP.out e4 (seq_false.2 (by decide))]; exact H9.out⟩
                  case measure => simp [intOf]; omega
            · have e3 : seq p.1 s_gte = true := by rw [seq, show s_gte.toList = [103, 116, 101] by rw [Lib.toList_data]]; exact he3
              have hSC := HU.out p (List.mem_of_getElem? HP.out) (.inr (.inr (.inr (.inl e3))))
              have hnn := ext_alloc (ext_refl wr) (.cells #[.string p.1, .int .i64 k, .string x, .float .f64 d, .bool y, .slice ka kn kc, .slice ca m cc] 52)
              have HPL := Lib.hid (HTT.out _ (ext_trans hx hnn) hSC)
              clear hSC
              go_wp2_with (first
                | (go_at_call 36; refine HPL.out.mono ?_; rintro r wl ⟨pv, rfl, hone, hJ, hxl⟩; have HJ := Lib.hid hJ; clear hJ
                   have hyl := ext_trans hnn hxl; have hbl := hbq.ext hyl; have hbl0 := hb0.ext hyl; have hsl := hyl.sz
                   have hc0 := hbl.cell 0 _ rfl; have hf0 := hbl.free 0
                   have hc1 := hbl.cell 1 _ rfl; have hf1 := hbl.free 1
                   have hc2 := hbl.cell 2 _ rfl; have hf2 := hbl.free 2
                   have hc3 := hbl.cell 3 _ rfl; have hf3 := hbl.free 3
                   have hc4 := hbl.cell 4 _ rfl; have hf4 := hbl.free 4
                   have hc5 := hbl.cell 5 _ rfl; have hf5 := hbl.free 5
                   have hc6 := hbl.cell 6 _ rfl; have hf6 := hbl.free 6
                   have hc7 := hbl.cell 7 _ rfl; have hf7 := hbl.free 7
                   have hc8 := hbl.cell 8 _ rfl; have hf8 := hbl.free 8
                   have hc9 := hbl.cell 9 _ rfl; have hf9 := hbl.free 9
                   have g0 := hbl.lt; have g1 : ¬ w.heap.size = wl.heap.size := by omega
                   rcases hone with rfl | ⟨pty, px, rfl⟩)
                | go_in)
              · go_roundw
                case rel =>
                  have hk : Keeps (fun q => q ≠ (w.heap.size + 1)) wr ((wl.setCell ⟨(w.heap.size + 1), 1, none⟩ (.nilIface)).setCell ⟨(w.heap.size + 1), 4, none⟩ (.bool true)) := fun q hq hlt => (Below.heap_setCell _ _ _ _ (by simp; omega)).trans ((Below.heap_setCell _ _ _ _ (by simp; omega)).trans (hyl.block q hlt))
                  repeat apply Exists.intro
                  refine And.intro ?_ rfl
                  exact ⟨ext_set (ext_set (ext_trans hx hyl) (by simp) (.nilIface)) (by simp) (.bool true), by simp; omega, ((hbl0).other (p := ⟨(w.heap.size + 1), 1, none⟩) (by simp) (.nilIface)).other (p := ⟨(w.heap.size + 1), 4, none⟩) (by simp) (.bool true), j + 1, (.nilIface), v2, v3, true, v5, v6, v7, v8, v9, by omega, by go_num, ((hbl).set 1 (.nilIface)).set 4 (.bool true), by rw [bound_snoc HP.out, if_neg (fun h9 => absurd (h9.symm.trans (seq_iff.1 e3)) (by decide)), if_neg (fun h9 => absurd (h9.symm.trans (seq_iff.1 e3)) (by decide)), if_pos (seq_iff.1 e3)]; exact fun w => HJ.out w, by rw [bound_snoc HP.out, if_neg (fun h9 => absurd (h9.symm.trans (seq_iff.1 e3)) (by decide)), if_neg (fun h9 => absurd (h9.symm.trans (seq_iff.1 e3)) (by decide)), if_neg (fun h9 => absurd (h9.symm.trans (seq_iff.1 e3)) (by decide))]; exact H2.out, by rw [last_other HP.out e3 (seq_false.2 (by decide))]; exact H3.out, by rw [incl_snoc HP.out, if_neg (fun h9 => absurd (h9.symm.trans (seq_iff.1 e3)) (by decide)), if_pos (seq_iff.1 e3)], by rw [incl_snoc HP.out, if_neg (fun h9 => absurd (h9.symm.trans (seq_iff.1 e3)) (by decide)), if_neg (fun h9 => absurd (h9.symm.trans (seq_iff.1 e3)) (by decide)), if_neg (fun h9 => absurd (h9.symm.trans (seq_iff.1 e3)) (by decide))]; exact H5.out, by rw [last_other HP.out e3 (seq_false.2 (by decide))]; exact FN.keep (fun _ h _ => h) hk H6.out, by rw [last_other HP.out e3 (seq_false.2 (by decide))]; exact H7.out, by rw [last_other HP.out e3 (seq_false.2 (by decide))]; exact H8.out, by rw [last_other HP.out e3 (seq_false.2 (by decide))]; exact H9.out⟩
                case measure => simp [intOf]; omega
              · go_roundw
                case rel =>
                  have hk : Keeps (fun q => q ≠ (w.heap.size + 1)) wr ((wl.setCell ⟨(w.heap.size + 1), 1, none⟩ (.iface pty px)).setCell ⟨(w.heap.size + 1), 4, none⟩ (.bool true)) := fun q hq hlt => (Below.heap_setCell _ _ _ _ (by simp; omega)).trans ((Below.heap_setCell _ _ _ _ (by simp; omega)).trans (hyl.block q hlt))
                  repeat apply Exists.intro
                  refine And.intro ?_ rfl
                  exact ⟨ext_set (ext_set (ext_trans hx hyl) (by simp) (.iface pty px)) (by simp) (.bool true), by simp; omega, ((hbl0).other (p := ⟨(w.heap.size + 1), 1, none⟩) (by simp) (.iface pty px)).other (p := ⟨(w.heap.size + 1), 4, none⟩) (by simp) (.bool true), j + 1, (.iface pty px), v2, v3, true, v5, v6, v7, v8, v9, by omega, by go_num, ((hbl).set 1 (.iface pty px)).set 4 (.bool true), by rw [bound_snoc HP.out, if_neg (fun h9 => absurd (h9.symm.trans (seq_iff.1 e3)) (by decide)), if_neg (fun h9 => absurd (h9.symm.trans (seq_iff.1 e3)) (by decide)), if_pos (seq_iff.1 e3)]; exact fun w => HJ.out w, by rw [bound_snoc HP.out, if_neg (fun h9 => absurd (h9.symm.trans (seq_iff.1 e3)) (by decide)), if_neg (fun h9 => absurd (h9.symm.trans (seq_iff.1 e3)) (by decide)), if_neg (fun h9 => absurd (h9.symm.trans (seq_iff.1 e3)) (by decide))]; exact H2.out, by rw [last_other HP.out e3 (seq_false.2 (by decide))]; exact H3.out, by rw [incl_snoc HP.out, if_neg (fun h9 => absurd (h9.symm.trans (seq_iff.1 e3)) (by decide)), if_pos (seq_iff.1 e3)], by rw [incl_snoc HP.out, if_neg (fun h9 => absurd (h9.symm.trans (seq_iff.1 e3)) (by decide)), if_neg (fun h9 => absurd (h9.symm.trans (seq_iff.1 e3)) (by decide)), if_neg (fun h9 => absurd (h9.symm.trans (seq_iff.1 e3)) (by decide))]; exact H5.out, by rw [last_other HP.out e3 (seq_false.2 (by decide))]; exact FN.keep (fun _ h _ => h) hk H6.out, by rw [last_other HP.out e3 (seq_false.2 (by decide))]; exact H7.out, by rw [last_other HP.out e3 (seq_false.2 (by decide))]; exact H8.out, by rw [last_other HP.out e3 (seq_false.2 (by decide))]; exact H9.out⟩
                case measure => simp [intOf]; omega
          · have e2 : seq p.1 s_gt = true := by rw [seq, show s_gt.toList = [103, 116] by rw [Lib.toList_data]]; exact he2
            have hSC := HU.out p (List.mem_of_getElem? HP.out) (.inr (.inr (.inl e2)))
            have hnn := ext_alloc (ext_refl wr) (.cells #[.string p.1, .int .i64 k, .string x, .float .f64 d, .bool y, .slice ka kn kc, .slice ca m cc] 52)
            have HPL := Lib.hid (HTT.out _ (ext_trans hx hnn) hSC)
            clear hSC
            go_wp2_with (first
              | (go_at_call 36; refine HPL.out.mono ?_; rintro r wl ⟨pv, rfl, hone, hJ, hxl⟩; have HJ := Lib.hid hJ; clear hJ
                 have hyl := ext_trans hnn hxl; have hbl := hbq.ext hyl; have hbl0 := hb0.ext hyl; have hsl := hyl.sz
                 have hc0 := hbl.cell 0 _ rfl; have hf0 := hbl.free 0
                 have hc1 := hbl.cell 1 _ rfl; have hf1 := hbl.free 1
                 have hc2 := hbl.cell 2 _ rfl; have hf2 := hbl.free 2
                 have hc3 := hbl.cell 3 _ rfl; have hf3 := hbl.free 3
                 have hc4 := hbl.cell 4 _ rfl; have hf4 := hbl.free 4
                 have hc5 := hbl.cell 5 _ rfl; have hf5 := hbl.free 5
                 have hc6 := hbl.cell 6 _ rfl; have hf6 := hbl.free 6
                 have hc7 := hbl.cell 7 _ rfl; have hf7 := hbl.free 7
                 have hc8 := hbl.cell 8 _ rfl; have hf8 := hbl.free 8
                 have hc9 := hbl.cell 9 _ rfl; have hf9 := hbl.free 9
                 have g0 := hbl.lt; have g1 : ¬ w.heap.size = wl.heap.size := by omega
                 rcases hone with rfl | ⟨pty, px, rfl⟩)
              | go_in)
            · go_roundw
              case rel =>
                have hk : Keeps (fun q => q ≠ (w.heap.size + 1)) wr ((wl.setCell ⟨(w.heap.size + 1), 1, none⟩ (.nilIface)).setCell ⟨(w.heap.size + 1), 4, none⟩ (.bool false)) := fun q hq hlt => (Below.heap_setCell _ _ _ _ (by simp; omega)).trans ((Below.heap_setCell _ _ _ _ (by simp; omega)).trans (hyl.block q hlt))
                repeat apply Exists.intro
                refine And.intro ?_ rfl
                exact ⟨ext_set (ext_set (ext_trans hx hyl) (by simp) (.nilIface)) (by simp) (.bool false), by simp; omega, ((hbl0).other (p := ⟨(w.heap.size + 1), 1, none⟩) (by simp) (.nilIface)).other (p := ⟨(w.heap.size + 1), 4, none⟩) (by simp) (.bool false), j + 1, (.nilIface), v2, v3, false, v5, v6, v7, v8, v9, by omega, by go_num, ((hbl).set 1 (.nilIface)).set 4 (.bool false), by rw [bound_snoc HP.out, if_neg (fun h9 => absurd (h9.symm.trans (seq_iff.1 e2)) (by decide)), if_pos (seq_iff.1 e2)]; exact fun w => HJ.out w, by rw [bound_snoc HP.out, if_neg (fun h9 => absurd (h9.symm.trans (seq_iff.1 e2)) (by decide)), if_neg (fun h9 => absurd (h9.symm.trans (seq_iff.1 e2)) (by decide)), if_neg (fun h9 => absurd (h9.symm.trans (seq_iff.1 e2)) (by decide))]; exact H2.out, by rw [last_other HP.out e2 (seq_false.2 (by decide))]; exact H3.out, by rw [incl_snoc HP.out, if_pos (seq_iff.1 e2)], by rw [incl_snoc HP.out, if_neg (fun h9 => absurd (h9.symm.trans (seq_iff.1 e2)) (by decide)), if_neg (fun h9 => absurd (h9.symm.trans (seq_iff.1 e2)) (by decide)), if_neg (fun h9 => absurd (h9.symm.trans (seq_iff.1 e2)) (by decide))]; exact H5.out, by rw [last_other HP.out e2 (seq_false.2 (by decide))]; exact FN.keep (fun _ h _ => h) hk H6.out, by rw [last_other HP.out e2 (seq_false.2 (by decide))]; exact H7.out, by rw [last_other HP.out e2 (seq_false.2 (by decide))]; exact H8.out, by rw [last_other HP.out e2 (seq_false.2 (by decide))]; exact H9.out⟩
              case measure => simp [intOf]; omega
            · go_roundw
              case rel =>
                have hk : Keeps (fun q => q ≠ (w.heap.size + 1)) wr ((wl.setCell ⟨(w.heap.size + 1), 1, none⟩ (.iface pty px)).setCell ⟨(w.heap.size + 1), 4, none⟩ (.bool false)) := fun q hq hlt => (Below.heap_setCell _ _ _ _ (by simp; omega)).trans ((Below.heap_setCell _ _ _ _ (by simp; omega)).trans (hyl.block q hlt))
                repeat apply Exists.intro
                refine And.intro ?_ rfl
                exact ⟨ext_set (ext_set (ext_trans hx hyl) (by simp) (.iface pty px)) (by simp) (.bool false), by simp; omega, ((hbl0).other (p := ⟨(w.heap.size + 1), 1, none⟩) (by simp) (.iface pty px)).other (p := ⟨(w.heap.size + 1), 4, none⟩) (by simp) (.bool false), j + 1, (.iface pty px), v2, v3, false, v5, v6, v7, v8, v9, by omega, by go_num, ((hbl).set 1 (.iface pty px)).set 4 (.bool false), by rw [bound_snoc HP.out, if_neg (fun h9 => absurd (h9.symm.trans (seq_iff.1 e2)) (by decide)), if_pos (seq_iff.1 e2)]; exact fun w => HJ.out w, by rw [bound_snoc HP.out, if_neg (fun h9 => absurd (h9.symm.trans (seq_iff.1 e2)) (by decide)), if_neg (fun h9 => absurd (h9.symm.trans (seq_iff.1 e2)) (by decide)), if_neg (fun h9 => absurd (h9.symm.trans (seq_iff.1 e2)) (by decide))]; exact H2.out, by rw [last_other HP.out e2 (seq_false.2 (by decide))]; exact H3.out, by rw [incl_snoc HP.out, if_pos (seq_iff.1 e2)], by rw [incl_snoc HP.out, if_neg (fun h9 => absurd (h9.symm.trans (seq_iff.1 e2)) (by decide)), if_neg (fun h9 => absurd (h9.symm.trans (seq_iff.1 e2)) (by decide)), if_neg (fun h9 => absurd (h9.symm.trans (seq_iff.1 e2)) (by decide))]; exact H5.out, by rw [last_other HP.out e2 (seq_false.2 (by decide))]; exact FN.keep (fun _ h _ => h) hk H6.out, by rw [last_other HP.out e2 (seq_false.2 (by decide))]; exact H7.out, by rw [last_other HP.out e2 (seq_false.2 (by decide))]; exact H8.out, by rw [last_other HP.out e2 (seq_false.2 (by decide))]; exact H9.out⟩
              case measure => simp [intOf]; omega
        · have e1 : seq p.1 s_to = true := by rw [seq, show s_to.toList = [116, 111] by rw [Lib.toList_data]]; exact he1
          have hSC := HU.out p (List.mem_of_getElem? HP.out) (.inr (.inl e1))
          have hnn := ext_alloc (ext_refl wr) (.cells #[.string p.1, .int .i64 k, .string x, .float .f64 d, .bool y, .slice ka kn kc, .slice ca m cc] 52)
          have HPL := Lib.hid (HTT.out _ (ext_trans hx hnn) hSC)
          clear hSC
          go_wp2_with (first
            | (go_at_call 36; refine HPL.out.mono ?_; rintro r wl ⟨pv, rfl, hone, hJ, hxl⟩; have HJ := Lib.hid hJ; clear hJ
               have hyl := ext_trans hnn hxl; have hbl := hbq.ext hyl; have hbl0 := hb0.ext hyl; have hsl := hyl.sz
               have hc0 := hbl.cell 0 _ rfl; have hf0 := hbl.free 0
               have hc1 := hbl.cell 1 _ rfl; have hf1 := hbl.free 1
               have hc2 := hbl.cell 2 _ rfl; have hf2 := hbl.free 2
               have hc3 := hbl.cell 3 _ rfl; have hf3 := hbl.free 3
               have hc4 := hbl.cell 4 _ rfl; have hf4 := hbl.free 4
               have hc5 := hbl.cell 5 _ rfl; have hf5 := hbl.free 5
               have hc6 := hbl.cell 6 _ rfl; have hf6 := hbl.free 6
               have hc7 := hbl.cell 7 _ rfl; have hf7 := hbl.free 7
               have hc8 := hbl.cell 8 _ rfl; have hf8 := hbl.free 8
               have hc9 := hbl.cell 9 _ rfl; have hf9 := hbl.free 9
               have g0 := hbl.lt; have g1 : ¬ w.heap.size = wl.heap.size := by omega
               rcases hone with rfl | ⟨pty, px, rfl⟩)
            | go_in)
          · go_roundw
            case rel =>
              have hk : Keeps (fun q => q ≠ (w.heap.size + 1)) wr (wl.setCell ⟨(w.heap.size + 1), 2, none⟩ (.nilIface)) := fun q hq hlt => (Below.heap_setCell _ _ _ _ (by simp; omega)).trans (hyl.block q hlt)
              repeat apply Exists.intro
              refine And.intro ?_ rfl
              exact ⟨ext_set (ext_trans hx hyl) (by simp) (.nilIface), by simp; omega, (hbl0).other (p := ⟨(w.heap.size + 1), 2, none⟩) (by simp) (.nilIface), j + 1, v1, (.nilIface), v3, v4, v5, v6, v7, v8, v9, by omega, by go_num, (hbl).set 2 (.nilIface), by rw [bound_snoc HP.out, if_neg (fun h9 => absurd (h9.symm.trans (seq_iff.1 e1)) (by decide)), if_neg (fun h9 => absurd (h9.symm.trans (seq_iff.1 e1)) (by decide)), if_neg (fun h9 => absurd (h9.symm.trans (seq_iff.1 e1)) (by decide))]; exact H1.out, by rw [bound_snoc HP.out, if_pos (seq_iff.1 e1)]; exact fun w => HJ.out w, by rw [last_other HP.out e1 (seq_false.2 (by decide))]; exact H3.out, by rw [incl_snoc HP.out, if_neg (fun h9 => absurd (h9.symm.trans (seq_iff.1 e1)) (by decide)), if_neg (fun h9 => absurd (h9.symm.trans (seq_iff.1 e1)) (by decide)), if_neg (fun h9 => absurd (h9.symm.trans (seq_iff.1 e1)) (by decide))]; exact H4.out, by rw [incl_snoc HP.out, if_neg (fun h9 => absurd (h9.symm.trans (seq_iff.1 e1)) (by decide)), if_neg (fun h9 => absurd (h9.symm.trans (seq_iff.1 e1)) (by decide)), if_neg (fun h9 => absurd (h9.symm.trans (seq_iff.1 e1)) (by decide))]; exact H5.out, by rw [last_other HP.out e1 (seq_false.2 (by decide))]; exact FN.keep (fun _ h _ => h) hk H6.out, by rw [last_other HP.out e1 (seq_false.2 (by decide))]; exact H7.out, by rw [last_other HP.out e1 (seq_false.2 (by decide))]; exact H8.out, by rw [last_other HP.out e1 (seq_false.2 (by decide))]; exact H9.out⟩
            case measure => simp [intOf]; omega
          · go_roundw
            case rel =>
              have hk : Keeps (fun q => q ≠ (w.heap.size + 1)) wr (wl.setCell ⟨(w.heap.size + 1), 2, none⟩ (.iface pty px)) := fun q hq hlt => (Below.heap_setCell _ _ _ _ (by simp; omega)).trans (hyl.block q hlt)
              repeat apply Exists.intro
              refine And.intro ?_ rfl
              exact ⟨ext_set (ext_trans hx hyl) (by simp) (.iface pty px), by simp; omega, (hbl0).other (p := ⟨(w.heap.size + 1), 2, none⟩) (by simp) (.iface pty px), j + 1, v1, (.iface pty px), v3, v4, v5, v6, v7, v8, v9, by omega, by go_num, (hbl).set 2 (.iface pty px), by rw [bound_snoc HP.out, if_neg (fun h9 => absurd (h9.symm.trans (seq_iff.1 e1)) (by decide)), if_neg (fun h9 => absurd (h9.symm.trans (seq_iff.1 e1)) (by decide)), if_neg (fun h9 => absurd (h9.symm.trans (seq_iff.1 e1)) (by decide))]; exact H1.out, by rw [bound_snoc HP.out, if_pos (seq_iff.1 e1)]; exact fun w => HJ.out w, by rw [last_other HP.out e1 (seq_false.2 (by decide))]; exact H3.out, by rw [incl_snoc HP.out, if_neg (fun h9 => absurd (h9.symm.trans (seq_iff.1 e1)) (by decide)), if_neg (fun h9 => absurd (h9.symm.trans (seq_iff.1 e1)) (by decide)), if_neg (fun h9 => absurd (h9.symm.trans (seq_iff.1 e1)) (by decide))]; exact H4.out, by rw [incl_snoc HP.out, if_neg (fun h9 => absurd (h9.symm.trans (seq_iff.1 e1)) (by decide)), if_neg (fun h9 => absurd (h9.symm.trans (seq_iff.1 e1)) (by decide)), if_neg (fun h9 => absurd (h9.symm.trans (seq_iff.1 e1)) (by decide))]; exact H5.out, by rw [last_other HP.out e1 (seq_false.2 (by decide))]; exact FN.keep (fun _ h _ => h) hk H6.out, by rw [last_other HP.out e1 (seq_false.2 (by decide))]; exact H7.out, by rw [last_other HP.out e1 (seq_false.2 (by decide))]; exact H8.out, by rw [last_other HP.out e1 (seq_false.2 (by decide))]; exact H9.out⟩
            case measure => simp [intOf]; omega
      · have e0 : seq p.1 s_from = true := by rw [seq, show s_from.toList = [102, 114, 111, 109] by rw [Lib.toList_data]]; exact he0
        have hSC := HU.out p (List.mem_of_getElem? HP.out) (.inl e0)
        have hnn := ext_alloc (ext_refl wr) (.cells #[.string p.1, .int .i64 k, .string x, .float .f64 d, .bool y, .slice ka kn kc, .slice ca m cc] 52)
        have HPL := Lib.hid (HTT.out _ (ext_trans hx hnn) hSC)
        clear hSC
        go_wp2_with (first
          | (go_at_call 36; refine HPL.out.mono ?_; rintro r wl ⟨pv, rfl, hone, hJ, hxl⟩; have HJ := Lib.hid hJ; clear hJ
             have hyl := ext_trans hnn hxl; have hbl := hbq.ext hyl; have hbl0 := hb0.ext hyl; have hsl := hyl.sz
             have hc0 := hbl.cell 0 _ rfl; have hf0 := hbl.free 0
             have hc1 := hbl.cell 1 _ rfl; have hf1 := hbl.free 1
             have hc2 := hbl.cell 2 _ rfl; have hf2 := hbl.free 2
             have hc3 := hbl.cell 3 _ rfl; have hf3 := hbl.free 3
             have hc4 := hbl.cell 4 _ rfl; have hf4 := hbl.free 4
             have hc5 := hbl.cell 5 _ rfl; have hf5 := hbl.free 5
             have hc6 := hbl.cell 6 _ rfl; have hf6 := hbl.free 6
             have hc7 := hbl.cell 7 _ rfl; have hf7 := hbl.free 7
             have hc8 := hbl.cell 8 _ rfl; have hf8 := hbl.free 8
             have hc9 := hbl.cell 9 _ rfl; have hf9 := hbl.free 9
             have g0 := hbl.lt; have g1 : ¬ w.heap.size = wl.heap.size := by omega
             rcases hone with rfl | ⟨pty, px, rfl⟩)
          | go_in)
        · go_roundw
          case rel =>
            have hk : Keeps (fun q => q ≠ (w.heap.size + 1)) wr (wl.setCell ⟨(w.heap.size + 1), 1, none⟩ (.nilIface)) := fun q hq hlt => (Below.heap_setCell _ _ _ _ (by simp; omega)).trans (hyl.block q hlt)
            repeat apply Exists.intro
            refine And.intro ?_ rfl
            exact ⟨ext_set (ext_trans hx hyl) (by simp) (.nilIface), by simp; omega, (hbl0).other (p := ⟨(w.heap.size + 1), 1, none⟩) (by simp) (.nilIface), j + 1, (.nilIface), v2, v3, v4, v5, v6, v7, v8, v9, by omega, by go_num, (hbl).set 1 (.nilIface), by rw [bound_snoc HP.out, if_pos (seq_iff.1 e0)]; exact fun w => HJ.out w, by rw [bound_snoc HP.out, if_neg (fun h9 => absurd (h9.symm.trans (seq_iff.1 e0)) (by decide)), if_neg (fun h9 => absurd (h9.symm.trans (seq_iff.1 e0)) (by decide)), if_neg (fun h9 => absurd (h9.symm.trans (seq_iff.1 e0)) (by decide))]; exact H2.out, by rw [last_other HP.out e0 (seq_false.2 (by decide))]; exact H3.out, by rw [incl_snoc HP.out, if_neg (fun h9 => absurd (h9.symm.trans (seq_iff.1 e0)) (by decide)), if_neg (fun h9 => absurd (h9.symm.trans (seq_iff.1 e0)) (by decide)), if_neg (fun h9 => absurd (h9.symm.trans (seq_iff.1 e0)) (by decide))]; exact H4.out, by rw [incl_snoc HP.out, if_neg (fun h9 => absurd (h9.symm.trans (seq_iff.1 e0)) (by decide)), if_neg (fun h9 => absurd (h9.symm.trans (seq_iff.1 e0)) (by decide)), if_neg (fun h9 => absurd (h9.symm.trans (seq_iff.1 e0)) (by decide))]; exact H5.out, by rw [last_other HP.out e0 (seq_false.2 (by decide))]; exact FN.keep (fun _ h _ => h) hk H6.out, by rw [last_other HP.out e0 (seq_false.2 (by decide))]; exact H7.out, by rw [last_other HP.out e0 (seq_false.2 (by decide))]; exact H8.out, by rw [last_other HP.out e0 (seq_false.2 (by decide))]; exact H9.out⟩
          case measure => simp [intOf]; omega
        · go_roundw
          case rel =>
            have hk : Keeps (fun q => q ≠ (w.heap.size + 1)) wr (wl.setCell ⟨(w.heap.size + 1), 1, none⟩ (.iface pty px)) := fun q hq hlt => (Below.heap_setCell _ _ _ _ (by simp; omega)).trans (hyl.block q hlt)
            repeat apply Exists.intro
            refine And.intro ?_ rfl
            exact ⟨ext_set (ext_trans hx hyl) (by simp) (.iface pty px), by simp; omega, (hbl0).other (p := ⟨(w.heap.size + 1), 1, none⟩) (by simp) (.iface pty px), j + 1, (.iface pty px), v2, v3, v4, v5, v6, v7, v8, v9, by omega, by go_num, (hbl).set 1 (.iface pty px), by rw [bound_snoc HP.out, if_pos (seq_iff.1 e0)]; exact fun w => HJ.out w, by rw [bound_snoc HP.out, if_neg (fun h9 => absurd (h9.symm.trans (seq_iff.1 e0)) (by decide)), if_neg (fun h9 => absurd (h9.symm.trans (seq_iff.1 e0)) (by decide)), if_neg (fun h9 => absurd (h9.symm.trans (seq_iff.1 e0)) (by decide))]; exact H2.out, by rw [last_other HP.out e0 (seq_false.2 (by decide))]; exact H3.out, by rw [incl_snoc HP.out, if_neg (fun h9 => absurd (h9.symm.trans (seq_iff.1 e0)) (by decide)), if_neg (fun h9 => absurd (h9.symm.trans (seq_iff.1 e0)) (by decide)), if_neg (fun h9 => absurd (h9.symm.trans (seq_iff.1 e0)) (by decide))]; exact H4.out, by rw [incl_snoc HP.out, if_neg (fun h9 => absurd (h9.symm.trans (seq_iff.1 e0)) (by decide)), if_neg (fun h9 => absurd (h9.symm.trans (seq_iff.1 e0)) (by decide)), if_neg (fun h9 => absurd (h9.symm.trans (seq_iff.1 e0)) (by decide))]; exact H5.out, by rw [last_other HP.out e0 (seq_false.2 (by decide))]; exact FN.keep (fun _ h _ => h) hk H6.out, by rw [last_other HP.out e0 (seq_false.2 (by decide))]; exact H7.out, by rw [last_other HP.out e0 (seq_false.2 (by decide))]; exact H8.out, by rw [last_other HP.out e0 (seq_false.2 (by decide))]; exact H9.out⟩
          case measure => simp [intOf]; omega
    · have hjn : j = n := by omega
      have hfull : ps.take j = ps := List.take_of_length_le (by have := HL.out; omega)
      rw [hfull] at H1 H2 H3 H4 H5 H6 H7 H8 H9
      have e4 := H4.out
      have e5 := H5.out
      subst e4 e5
      have hS := range_src (S := fun q => q ≠ (w.heap.size + 1)) wr (w.heap.size + 1) f hf_le v1 _ H1.out v2 _ H2.out v3 _ H3.out _ _ v6 _ H6.out v7 _ H7.out v8 _ H8.out v9 _ H9.out hbq
      go_wp2_with (first
        | (go_at_call 100; refine hS.mono ?_; rintro r w2 ⟨v, rfl, hJ, hx2⟩)
        | (go_at_call 42; refine (told_any v _ _ hJ).mono ?_; rintro r w3 ⟨e2, rfl, hT3, hx3⟩; simp only [El.val]
           have hb := (hb0.ext hx2).ext hx3; obtain ⟨o0, o1, o2, o3, o4, o5⟩ := hb.six; have f0 := hb.free 0; have f1 := hb.free 1; have f2 := hb.free 2; have f3 := hb.free 3; have f4 := hb.free 4; have f5 := hb.free 5))
      have hx4 := ext_trans hx (ext_trans hx2 hx3)
      have hs2 := hx2.sz
      refine post_tree2 rfl rfl (hb.sto e2) rfl ⟨e2, rfl, ?_, ext_sto6 hx4 (by omega) _ _ _ _ _ _⟩
      exact TreeAt.keep (S := fun b => w2.heap.size ≤ b) (S' := fun b => w.heap.size + 1 ≤ b) (fun b hb _ => by omega) (keeps_sto (b := w.heap.size) w3 (by omega) e2) _ hT3
end Go.Proofs.YtocfoheckgdonaaGreatDoor

