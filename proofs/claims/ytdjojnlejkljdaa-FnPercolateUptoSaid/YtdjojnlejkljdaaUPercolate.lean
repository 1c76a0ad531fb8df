/-
  A percolate query has its field and its documents, or where a document is, and its settings: the statement FnPercolate where what comes in is of bulk at most 1048576.
-/
import Derived.Test.YtdjojnlejkljdaaNm2
import Derived.Test.YtdjojnlejkljdaaPn
import Derived.Test.YtdjojnlejkljdaaAny
import Derived.Deep.CutBlock
import Derived.Test.YtdjojnlejkljdaaP4
import Derived.Test.YtdjojnlejkljdaaTx
import Derived.Test.YtdjojnlejkljdaaLx
import Derived.Test.YtdjojnlejkljdaaSm
import Derived.Test.YtdjojnlejkljdaaR2
import Derived.Test.YtdjojnlejkljdaaWo
import Derived.Test.YtdjojnlejkljdaaTr
import Derived.Test.YtdjojnlejkljdaaLq
import Derived.Test.YtdjojnlejkljdaaZz
import Derived.Test.YtdjojnlejkljdaaBk
import Derived.Test.YtdjojnlejkljdaaPq
import Derived.Test.YtdjojnlejkljdaaOpen
import Derived.Lib.Strings
import Derived.Test.YtdjojnlejkljdaaRows
import Derived.Test.YtdjojnlejkljdaaPf
namespace Go.Proofs.Ytdjojnlejkljdaa
open Go.RowKit

def jL (k : ByteArray) : Option T → List (ByteArray × J)
  | none => []
  | some t => match floatToIntVal .f64 t.num .i64 with | some z => [(k, .long z)] | none => []
theorem jL_some {k : ByteArray} {t : T} {z : Int} (h : floatToIntVal .f64 t.num .i64 = some z) : jL k (some t) = [(k, .long z)] := by simp only [jL, h]
/-- One document stands alone, more stand in a list. -/
def jD : List J → List (ByteArray × J)
  | [] => []
  | [j] => [(s_document, j)]
  | j :: k :: r => [(s_documents, .list (j :: k :: r))]
theorem jD_many {us : List J} (h : 1 < us.length) : jD us = [(s_documents, .list us)] := by
  match us, h with
  | j :: k :: r, _ => rfl
def DocsAt (S : Nat → Prop) (w : World) (v : Value) (us : List J) : Prop := JAt S w (.iface 96 v) (.list us)
theorem DocsAt.keep {S S' : Nat → Prop} {w w' : World} {v : Value} {us : List J} (h : DocsAt S w v us) (hS : ∀ b, S b → b < w.heap.size → S' b) (k : Keeps S w w') (_ : w.heap.size ≤ w'.heap.size) : DocsAt S' w' v us := JAt.keep hS k _ h
theorem DocsAt.ext {S : Nat → Prop} {w w' : World} {v : Value} {us : List J} (h : DocsAt S w v us) (x : Ext w w') : DocsAt S w' v us := JAt.ext x h
theorem DocsAt.to {S S' : Nat → Prop} {w : World} {v : Value} {us : List J} (h : DocsAt S w v us) (hS : ∀ b, S b → b < w.heap.size → S' b) : DocsAt S' w v us := JAt.to h hS
theorem DocsAt.cases {S : Nat → Prop} {w : World} {a : Option Addr} {n c : Nat} {us : List J} (h : DocsAt S w (.slice a n c) us) : (us = [] ∧ n = 0) ∨ (∃ j u b off, us = [j] ∧ n = 1 ∧ a = some ⟨b, off, none⟩ ∧ w.cell? ⟨b, off, none⟩ = some u ∧ JAt S w u j) ∨ (1 < us.length ∧ 1 < n) := by
  unfold DocsAt at h
  simp only [JAt] at h
  obtain ⟨a', n', c', vs, he, h1, h2, h3, h4, h5, h6⟩ := h
  simp only [Value.iface.injEq, Value.slice.injEq, true_and] at he
  obtain ⟨rfl, rfl, rfl⟩ := he
  match us, vs, h6 with
  | [], _, _ => exact .inl ⟨rfl, by simpa using h2.symm⟩
  | [j], [u], h6 =>
    obtain ⟨b, off, ha, -, hc⟩ := h5 0 u rfl
    simp only [JsAt] at h6
    exact .inr (.inl ⟨j, u, b, off, rfl, by simpa using h2.symm, ha, hc, h6.1⟩)
  | j :: k :: r, _, _ => exact .inr (.inr ⟨by simp, by rw [← h2]; simp⟩)
theorem JAt.cell1 {S : Nat → Prop} {w : World} {v : Value} {j : J} (h : JAt S w v j) : v.oneCell' = true := by
  cases j <;> simp only [JAt] at h
  case texts => obtain ⟨a, n, c, rfl, -⟩ := h; rfl
  case list => obtain ⟨a, n, c, vs, rfl, -⟩ := h; rfl
  case map => obtain ⟨b, vs, rfl, -⟩ := h; rfl
  all_goals (subst h; rfl)
theorem JsAt.cells1 {S : Nat → Prop} {w : World} : ∀ {vs : List Value} {js : List J}, JsAt S w vs js → ∀ u ∈ vs, u.oneCell' = true
  | [], _, _, u, h => by cases h
  | v :: vs, j :: js, h, u, hu => by
    simp only [JsAt] at h
    rcases List.mem_cons.1 hu with e | hu
    · rw [e]; exact h.1.cell1
    · exact JsAt.cells1 h.2 u hu
  | v :: vs, [], h, _, _ => by simp [JsAt] at h
set_option maxRecDepth 20000 in
set_option maxHeartbeats 1000000 in
theorem document_any {S : Nat → Prop} (w w0 : World) (bq : Nat) (z0 z1 z2 z4 z5 z6 z7 z8 z9 : Value) (hbq : Box w bq #[z0, z1, z2, .slice none 0 0, z4, z5, z6, z7, z8, z9] 154) (g n c : Nat) (us : List J) (hJ : DocsAt S w (.slice (some ⟨g, 0, none⟩) n c) us) (hS : ∀ b, S b → b ≠ bq) (hx0 : Ext w0 w) (h0 : w0.heap.size ≤ bq) :
    Calls Try.prog 62 #[.pointer (some ⟨bq, 0, none⟩), .slice (some ⟨g, 0, none⟩) n c] w fun r w' => ∃ da dc, r = .returned (.pointer (some ⟨bq, 0, none⟩)) ∧ Box w' bq #[z0, z1, z2, .slice da n dc, z4, z5, z6, z7, z8, z9] 154 ∧ DocsAt (fun b => b ≠ bq) w' (.slice da n dc) us ∧ Ext w0 w' := by
  have HJ := Lib.hid hJ
  unfold DocsAt at hJ
  simp only [JAt] at hJ
  obtain ⟨a', n', c', vs, he, h1, h2, h3, h4, h5, h6⟩ := hJ
  simp only [Value.iface.injEq, Value.slice.injEq, true_and] at he
  obtain ⟨rfl, rfl, rfl⟩ := he
  have hvl : vs.length = n := by rw [← h2]; exact JsAt.len h6
  have hc3 := hbq.cell 3 _ rfl
  have hf3 := hbq.free 3
  have hbl := hbq.lt
  have hn1 : n ≤ 4294967296 := by omega
  have H5 := Lib.hid h5
  have H6 := Lib.hid h6
  have HV := Lib.hid hvl
  clear h5 h6 hvl
  go_enter Try.func62, Try.ntmps62
  by_cases hz : n = 0
  · subst hz
    have hus : us = [] := List.length_eq_zero_iff.1 h2
    subst hus
    go_wp2_with fail
    go_ret
    refine ⟨_, _, rfl, by have h9 := hbq.set 3 (.slice none 0 0); simpa using h9, ?_, ext_set hx0 (by simp; omega) _⟩
    unfold DocsAt
    simp only [JAt]
    exact ⟨_, _, _, [], rfl, by simp, rfl, Nat.le_refl _, by simp [maxLen], fun i u hu => by simp at hu, by simp [JsAt]⟩
  · have hnp : 0 < n := by omega
    go_wp2_with (first
      | (at_builtin; refine list_append_any _ rfl _ _ rfl w.heap.size _ [] rfl ⟨rfl, .inl ⟨rfl, rfl⟩⟩ g 0 c vs (by have := HV.out; omega) H6.out.cells1 (by rw [HV.out]; rfl) (fun i u hi => by
           obtain ⟨b, off, e, -, h⟩ := H5.out i u hi
           cases e
           exact h) (by have := HV.out; simp; omega) (Nat.le_refl _) ?_; intro ug ucap w1 hown hgrow hlies hglt
         have hb1 := hbq.grown hgrow (show some bq ≠ none by simp)
         have hc3 := hb1.cell 3 _ rfl
         have hf3 := hb1.free 3
         have hbl1 := hb1.lt
         have HO := Lib.hid hown
         have hx1 : Ext w w1 := ext_grown (ext_refl _) hgrow (fun k hk => by cases hk)
         clear hown hgrow hlies)
      | fail)
    go_ret
    have hO := HO.out
    simp only [List.length_nil, Nat.zero_add, List.nil_append] at hO
    have hug : w.heap.size ≤ ug := (World.ownsRow.lt hO ug rfl).1
    obtain ⟨da, dc, he, hl1, hl2, hcs⟩ := hO.cells (S := fun b => b ≠ bq) (fun b hb => by have e9 : ug = b := Option.some.inj hb; omega)
    simp only [Value.slice.injEq] at he
    obtain ⟨rfl, -, rfl⟩ := he
    refine ⟨_, _, rfl, by have h9 := hb1.set 3 (.slice (some ⟨ug, 0, none⟩) n ucap); simpa [HV.out] using h9, ?_, ext_set (ext_trans hx0 hx1) (by simp; omega) _⟩
    have hD : DocsAt (fun b => b ≠ bq) w1 (.slice (some ⟨ug, 0, none⟩) n ucap) us := by
      unfold DocsAt
      simp only [JAt]
      exact ⟨_, _, _, vs, rfl, h1, h2, by rw [← HV.out]; exact hl1, hl2, hcs, JsAt.keep (fun b hb _ => hS b hb) (hx1.keeps _) us H6.out⟩
    have hD2 := JAt.keep (S' := fun b => b ≠ bq) (fun _ h _ => h) (fun q hq _ => Below.heap_setCell w1 ⟨bq, 3, none⟩ (.slice (some ⟨ug, 0, none⟩) n ucap) q (by simpa using hq)) _ hD
    simpa [DocsAt, HV.out] using hD2
end Go.Proofs.Ytdjojnlejkljdaa

namespace Go.Proofs.Ytdjojnlejkljdaa
open Go.RowKit

set_option maxRecDepth 20000 in
set_option maxHeartbeats 4000000 in
theorem percolate_src {S : Nat → Prop} (w : World) (bq : Nat) (f : ByteArray) (hfp : 0 < f.size) (v1 : ByteArray) (o1 : Option T) (h1 : v1 = fT o1) (ua : Option Addr) (un uc : Nat) (us : List J) (hu : DocsAt (fun b => b < w.heap.size) w (.slice ua un uc) us) (v4 : ByteArray) (o4 : Option T) (h4 : v4 = fT o4) (v6 : ByteArray) (o6 : Option T) (h6 : v6 = fT o6) (v7 : ByteArray) (o7 : Option T) (h7 : v7 = fT o7) (v8 : ByteArray) (o8 : Option T) (h8 : v8 = fT o8) (v9 : Option Addr) (o9 : Option T) (h9 : FW S w v9 o9) (hbq : Box w bq #[.string f, .string v1, .string ⟨#[]⟩, .slice ua un uc, .string v4, .string ⟨#[]⟩, .string v6, .string v7, .string v8, .pointer v9] 154) :
    Calls Try.prog 70 #[.pointer (some ⟨bq, 0, none⟩)] w fun r w' => ∃ v, r = .returned (.tuple #[v, .nilIface]) ∧ JAt (fun _ => True) w' v (jMap [(s_percolate, jMap ([(s_field, J.str f)] ++ jT s_plain_name (o1) ++ jD us ++ jT s_index (o4) ++ jT s_id (o6) ++ jT s_routing (o7) ++ jT s_preference (o8) ++ jL s_version (o9)))]) ∧ Ext w w' := by
  have tok0 := trivial
  have hblt := hbq.lt
  have H1 := Lib.hid h1
  have H4 := Lib.hid h4
  have H6 := Lib.hid h6
  have H7 := Lib.hid h7
  have H8 := Lib.hid h8
  have H9 := Lib.hid h9
  clear h1 h4 h6 h7 h8 h9
  have Hu := Lib.hid hu
  clear hu
  have hc0 := hbq.cell 0 _ rfl
  have hc1 := hbq.cell 1 _ rfl
  have hc2 := hbq.cell 2 _ rfl
  have hc3 := hbq.cell 3 _ rfl
  have hc4 := hbq.cell 4 _ rfl
  have hc5 := hbq.cell 5 _ rfl
  have hc6 := hbq.cell 6 _ rfl
  have hc7 := hbq.cell 7 _ rfl
  have hc8 := hbq.cell 8 _ rfl
  have hc9 := hbq.cell 9 _ rfl
  go_enter Try.func70, Try.ntmps70
  go_upto_if 45 with (first
    | (at_mapUpdate; have _t := tok0; refine wp_put _ rfl _ _ _ 149 rfl 20 Try.underlying149 w.heap.size [] rfl ((MapAt.at (by simp)).alloc _) (by simp [maxLen]) s_percolate rfl (by decide) _ rfl ?_; intro w1 hm hg; clear tok0
       have hx1 : Ext w w1 := ext_put (ext_alloc (ext_alloc (ext_refl _) _) _) hg (by omega)
       have hl0_1 := hm
       have hs0_1 := hl0_1.lt
       have hl1_1 : MapAt w1 (w.heap.size + 1) [] := (MapAt.at (by simp)).grown hg (someNe (by omega))
       have hs1_1 := hl1_1.lt
       have hb1 := hbq.ext hx1
       have hc0 := hb1.cell 0 _ rfl
       have hc1 := hb1.cell 1 _ rfl
       have hc2 := hb1.cell 2 _ rfl
       have hc3 := hb1.cell 3 _ rfl
       have hc4 := hb1.cell 4 _ rfl
       have hc5 := hb1.cell 5 _ rfl
       have hc6 := hb1.cell 6 _ rfl
       have hc7 := hb1.cell 7 _ rfl
       have hc8 := hb1.cell 8 _ rfl
       have hc9 := hb1.cell 9 _ rfl
       clear hg hm)
    | (at_mapUpdate; refine wp_put _ rfl _ _ _ 149 rfl 20 Try.underlying149 (w.heap.size + 1) [] rfl (hl1_1) (by simp [maxLen]) s_field rfl (by decide) _ rfl ?_; intro w2 hm hg
       have hx2 : Ext w w2 := ext_put (hx1) hg (by omega)
       have hl0_2 : MapAt w2 w.heap.size [(s_percolate, .iface 149 (.map (some (w.heap.size + 1))))] := (hl0_1).grown hg (someNe (by omega))
       have hs0_2 := hl0_2.lt
       have hl1_2 := hm
       have hs1_2 := hl1_2.lt
       have hb2 := hbq.ext hx2
       have hc0 := hb2.cell 0 _ rfl
       have hc1 := hb2.cell 1 _ rfl
       have hc2 := hb2.cell 2 _ rfl
       have hc3 := hb2.cell 3 _ rfl
       have hc4 := hb2.cell 4 _ rfl
       have hc5 := hb2.cell 5 _ rfl
       have hc6 := hb2.cell 6 _ rfl
       have hc7 := hb2.cell 7 _ rfl
       have hc8 := hb2.cell 8 _ rfl
       have hc9 := hb2.cell 9 _ rfl
       clear hg hm hl0_1 hl1_1)
    | fail)
  have hx0 : Ext w w2 := hx2
  have hm0 : MapAt w2 w.heap.size [(s_percolate, .iface 149 (.map (some (w.heap.size + 1))))] := hl0_2
  have hm1 : MapAt w2 (w.heap.size + 1) [(s_field, .iface 9 (.string f))] := hl1_2
  have hz0 := hm0.lt
  have hz1 := hm1.lt
  have hne0 : w.heap.size ≠ (w.heap.size + 1) := by omega
  have hw1 : w.heap.size ≤ (w.heap.size + 1) := by have := hx0.sz; omega
  have hp0 : PJ (fun b => b < w.heap.size) w2 [(s_field, .iface 9 (.string f))] ([(s_field, J.str f)]) := ⟨rfl, by simp only [List.map_cons, List.map_nil, JsAt]; exact ⟨(by simp [JAt]), trivial⟩⟩
  go_cut [] (fun wc => Ext w wc ∧ MapAt wc w.heap.size [(s_percolate, .iface 149 (.map (some (w.heap.size + 1))))] ∧ ∃ rp, rp.length ≤ 2 ∧ MapAt wc (w.heap.size + 1) rp ∧ PJ (fun b => b < w.heap.size) wc rp ([(s_field, J.str f)] ++ jT s_plain_name (o1)))
  case first =>
    cases hE : v1.toList.isEmpty
    · have hE1 := jT_some (k := s_plain_name) H1.out hE
      go_wp2_with (at_mapUpdate; refine wp_put _ rfl _ _ _ 149 rfl 20 Try.underlying149 (w.heap.size + 1) [(s_field, .iface 9 (.string f))] rfl hm1 (by simp [maxLen]) s_plain_name rfl (by decide) _ rfl ?_; intro wn hnn hgn)
      go_meet
      case rel =>
        have hxn := ext_put hx0 hgn (by omega)
        refine ⟨hxn, hm0.grown hgn (someNe hne0), _, ?_, hnn, ?_⟩
        · rw [List.length_append]; exact Nat.succ_le_succ (by simp)
        · rw [hE1]
          exact PJ.snoc (hp0.moveB hx0 hxn) (by simp only [JAt]; rfl)
    · have hE1 := jT_none (k := s_plain_name) H1.out hE
      go_wp2_with fail
      go_meet
      case rel =>
        refine ⟨hx0, hm0, [(s_field, .iface 9 (.string f))], by simp, hm1, ?_⟩
        rw [hE1, List.append_nil]
        exact hp0
  case rest =>
    obtain ⟨hxc, hm0_0, rp, hr, hnc, hpc⟩ := hcut
    have hbc := hbq.ext hxc
    have hc0 := hbc.cell 0 _ rfl
    have hc1 := hbc.cell 1 _ rfl
    have hc2 := hbc.cell 2 _ rfl
    have hc3 := hbc.cell 3 _ rfl
    have hc4 := hbc.cell 4 _ rfl
    have hc5 := hbc.cell 5 _ rfl
    have hc6 := hbc.cell 6 _ rfl
    have hc7 := hbc.cell 7 _ rfl
    have hc8 := hbc.cell 8 _ rfl
    have hc9 := hbc.cell 9 _ rfl
    go_upto_block 0 with fail
    go_cut [] (fun wc => Ext w wc ∧ MapAt wc w.heap.size [(s_percolate, .iface 149 (.map (some (w.heap.size + 1))))] ∧ ∃ rp, rp.length ≤ 3 ∧ MapAt wc (w.heap.size + 1) rp ∧ PJ (fun b => b < w.heap.size) wc rp ([(s_field, J.str f)] ++ jT s_plain_name (o1) ++ jD us))
    case first =>
      rcases DocsAt.cases Hu.out with ⟨hd1, hd2⟩ | ⟨jd, ud, bd, od, hd1, hd2, hd3, hdc, hdJ⟩ | ⟨hd1, hd2⟩
      · subst hd1 hd2
        go_wp2_with fail
        go_meet
        case rel =>
          refine ⟨hxc, hm0_0, rp, Nat.le_succ_of_le hr, hnc, ?_⟩
          rw [show jD [] = [] from rfl, List.append_nil]
          exact hpc
      · subst hd1 hd2 hd3
        have hdc := hxc.cell hdc
        have HDJ := Lib.hid hdJ
        clear hdJ
        go_wp2_with (at_mapUpdate; refine wp_put _ rfl _ _ _ 149 rfl 20 Try.underlying149 (w.heap.size + 1) rp rfl hnc (Nat.lt_of_le_of_lt hr (by decide)) s_document rfl (by decide) _ rfl ?_; intro wn hnn hgn)
        go_meet
        case rel =>
          have hxn := ext_put hxc hgn (by omega)
          refine ⟨hxn, hm0_0.grown hgn (someNe hne0), _, ?_, hnn, ?_⟩
          · rw [List.length_append]; exact Nat.succ_le_succ (by exact hr)
          · rw [show jD [jd] = [(s_document, jd)] from rfl]
            exact PJ.snoc (hpc.moveB hxc hxn) (JAt.ext hxn HDJ.out)
      · skip
        go_wp2_with (at_mapUpdate; refine wp_put _ rfl _ _ _ 149 rfl 20 Try.underlying149 (w.heap.size + 1) rp rfl hnc (Nat.lt_of_le_of_lt hr (by decide)) s_documents rfl (by decide) _ rfl ?_; intro wn hnn hgn)
        go_meet
        case rel =>
          have hxn := ext_put hxc hgn (by omega)
          refine ⟨hxn, hm0_0.grown hgn (someNe hne0), _, ?_, hnn, ?_⟩
          · rw [List.length_append]; exact Nat.succ_le_succ (by exact hr)
          · rw [jD_many hd1]
            exact PJ.snoc (hpc.moveB hxc hxn) (DocsAt.ext Hu.out hxn)
    case rest =>
      obtain ⟨hxc, hm0_1, rp, hr, hnc, hpc⟩ := hcut
      have hbc := hbq.ext hxc
      have hc0 := hbc.cell 0 _ rfl
      have hc1 := hbc.cell 1 _ rfl
      have hc2 := hbc.cell 2 _ rfl
      have hc3 := hbc.cell 3 _ rfl
      have hc4 := hbc.cell 4 _ rfl
      have hc5 := hbc.cell 5 _ rfl
      have hc6 := hbc.cell 6 _ rfl
      have hc7 := hbc.cell 7 _ rfl
      have hc8 := hbc.cell 8 _ rfl
      have hc9 := hbc.cell 9 _ rfl
      go_upto_if 79 with fail
      go_cut [] (fun wc => Ext w wc ∧ MapAt wc w.heap.size [(s_percolate, .iface 149 (.map (some (w.heap.size + 1))))] ∧ ∃ rp, rp.length ≤ 4 ∧ MapAt wc (w.heap.size + 1) rp ∧ PJ (fun b => b < w.heap.size) wc rp ([(s_field, J.str f)] ++ jT s_plain_name (o1) ++ jD us ++ jT s_index (o4)))
      case first =>
        cases hE : v4.toList.isEmpty
        · have hE1 := jT_some (k := s_index) H4.out hE
          go_wp2_with (at_mapUpdate; refine wp_put _ rfl _ _ _ 149 rfl 20 Try.underlying149 (w.heap.size + 1) rp rfl hnc (Nat.lt_of_le_of_lt hr (by decide)) s_index rfl (by decide) _ rfl ?_; intro wn hnn hgn)
          go_meet
          case rel =>
            have hxn := ext_put hxc hgn (by omega)
            refine ⟨hxn, hm0_1.grown hgn (someNe hne0), _, ?_, hnn, ?_⟩
            · rw [List.length_append]; exact Nat.succ_le_succ (by exact hr)
            · rw [hE1]
              exact PJ.snoc (hpc.moveB hxc hxn) (by simp only [JAt]; rfl)
        · have hE1 := jT_none (k := s_index) H4.out hE
          go_wp2_with fail
          go_meet
          case rel =>
            refine ⟨hxc, hm0_1, rp, Nat.le_succ_of_le hr, hnc, ?_⟩
            rw [hE1, List.append_nil]
            exact hpc
      case rest =>
        obtain ⟨hxc, hm0_2, rp, hr, hnc, hpc⟩ := hcut
        have hbc := hbq.ext hxc
        have hc0 := hbc.cell 0 _ rfl
        have hc1 := hbc.cell 1 _ rfl
        have hc2 := hbc.cell 2 _ rfl
        have hc3 := hbc.cell 3 _ rfl
        have hc4 := hbc.cell 4 _ rfl
        have hc5 := hbc.cell 5 _ rfl
        have hc6 := hbc.cell 6 _ rfl
        have hc7 := hbc.cell 7 _ rfl
        have hc8 := hbc.cell 8 _ rfl
        have hc9 := hbc.cell 9 _ rfl
        go_upto_if 97 with fail
        go_cut [] (fun wc => Ext w wc ∧ MapAt wc w.heap.size [(s_percolate, .iface 149 (.map (some (w.heap.size + 1))))] ∧ ∃ rp, rp.length ≤ 5 ∧ MapAt wc (w.heap.size + 1) rp ∧ PJ (fun b => b < w.heap.size) wc rp ([(s_field, J.str f)] ++ jT s_plain_name (o1) ++ jD us ++ jT s_index (o4) ++ jT s_id (o6)))
        case first =>
          cases hE : v6.toList.isEmpty
          · have hE1 := jT_some (k := s_id) H6.out hE
            go_wp2_with (at_mapUpdate; refine wp_put _ rfl _ _ _ 149 rfl 20 Try.underlying149 (w.heap.size + 1) rp rfl hnc (Nat.lt_of_le_of_lt hr (by decide)) s_id rfl (by decide) _ rfl ?_; intro wn hnn hgn)
            go_meet
            case rel =>
              have hxn := ext_put hxc hgn (by omega)
              refine ⟨hxn, hm0_2.grown hgn (someNe hne0), _, ?_, hnn, ?_⟩
              · rw [List.length_append]; exact Nat.succ_le_succ (by exact hr)
              · rw [hE1]
                exact PJ.snoc (hpc.moveB hxc hxn) (by simp only [JAt]; rfl)
          · have hE1 := jT_none (k := s_id) H6.out hE
            go_wp2_with fail
            go_meet
            case rel =>
              refine ⟨hxc, hm0_2, rp, Nat.le_succ_of_le hr, hnc, ?_⟩
              rw [hE1, List.append_nil]
              exact hpc
        case rest =>
          obtain ⟨hxc, hm0_3, rp, hr, hnc, hpc⟩ := hcut
          have hbc := hbq.ext hxc
          have hc0 := hbc.cell 0 _ rfl
          have hc1 := hbc.cell 1 _ rfl
          have hc2 := hbc.cell 2 _ rfl
          have hc3 := hbc.cell 3 _ rfl
          have hc4 := hbc.cell 4 _ rfl
          have hc5 := hbc.cell 5 _ rfl
          have hc6 := hbc.cell 6 _ rfl
          have hc7 := hbc.cell 7 _ rfl
          have hc8 := hbc.cell 8 _ rfl
          have hc9 := hbc.cell 9 _ rfl
          go_upto_if 106 with fail
          go_cut [] (fun wc => Ext w wc ∧ MapAt wc w.heap.size [(s_percolate, .iface 149 (.map (some (w.heap.size + 1))))] ∧ ∃ rp, rp.length ≤ 6 ∧ MapAt wc (w.heap.size + 1) rp ∧ PJ (fun b => b < w.heap.size) wc rp ([(s_field, J.str f)] ++ jT s_plain_name (o1) ++ jD us ++ jT s_index (o4) ++ jT s_id (o6) ++ jT s_routing (o7)))
          case first =>
            cases hE : v7.toList.isEmpty
            · have hE1 := jT_some (k := s_routing) H7.out hE
              go_wp2_with (at_mapUpdate; refine wp_put _ rfl _ _ _ 149 rfl 20 Try.underlying149 (w.heap.size + 1) rp rfl hnc (Nat.lt_of_le_of_lt hr (by decide)) s_routing rfl (by decide) _ rfl ?_; intro wn hnn hgn)
              go_meet
              case rel =>
                have hxn := ext_put hxc hgn (by omega)
                refine ⟨hxn, hm0_3.grown hgn (someNe hne0), _, ?_, hnn, ?_⟩
                · rw [List.length_append]; exact Nat.succ_le_succ (by exact hr)
                · rw [hE1]
                  exact PJ.snoc (hpc.moveB hxc hxn) (by simp only [JAt]; rfl)
            · have hE1 := jT_none (k := s_routing) H7.out hE
              go_wp2_with fail
              go_meet
              case rel =>
                refine ⟨hxc, hm0_3, rp, Nat.le_succ_of_le hr, hnc, ?_⟩
                rw [hE1, List.append_nil]
                exact hpc
          case rest =>
            obtain ⟨hxc, hm0_4, rp, hr, hnc, hpc⟩ := hcut
            have hbc := hbq.ext hxc
            have hc0 := hbc.cell 0 _ rfl
            have hc1 := hbc.cell 1 _ rfl
            have hc2 := hbc.cell 2 _ rfl
            have hc3 := hbc.cell 3 _ rfl
            have hc4 := hbc.cell 4 _ rfl
            have hc5 := hbc.cell 5 _ rfl
            have hc6 := hbc.cell 6 _ rfl
            have hc7 := hbc.cell 7 _ rfl
            have hc8 := hbc.cell 8 _ rfl
            have hc9 := hbc.cell 9 _ rfl
            go_upto_if 115 with fail
            go_cut [] (fun wc => Ext w wc ∧ MapAt wc w.heap.size [(s_percolate, .iface 149 (.map (some (w.heap.size + 1))))] ∧ ∃ rp, rp.length ≤ 7 ∧ MapAt wc (w.heap.size + 1) rp ∧ PJ (fun b => b < w.heap.size) wc rp ([(s_field, J.str f)] ++ jT s_plain_name (o1) ++ jD us ++ jT s_index (o4) ++ jT s_id (o6) ++ jT s_routing (o7) ++ jT s_preference (o8)))
            case first =>
              cases hE : v8.toList.isEmpty
              · have hE1 := jT_some (k := s_preference) H8.out hE
                go_wp2_with (at_mapUpdate; refine wp_put _ rfl _ _ _ 149 rfl 20 Try.underlying149 (w.heap.size + 1) rp rfl hnc (Nat.lt_of_le_of_lt hr (by decide)) s_preference rfl (by decide) _ rfl ?_; intro wn hnn hgn)
                go_meet
                case rel =>
                  have hxn := ext_put hxc hgn (by omega)
                  refine ⟨hxn, hm0_4.grown hgn (someNe hne0), _, ?_, hnn, ?_⟩
                  · rw [List.length_append]; exact Nat.succ_le_succ (by exact hr)
                  · rw [hE1]
                    exact PJ.snoc (hpc.moveB hxc hxn) (by simp only [JAt]; rfl)
              · have hE1 := jT_none (k := s_preference) H8.out hE
                go_wp2_with fail
                go_meet
                case rel =>
                  refine ⟨hxc, hm0_4, rp, Nat.le_succ_of_le hr, hnc, ?_⟩
                  rw [hE1, List.append_nil]
                  exact hpc
            case rest =>
              obtain ⟨hxc, hm0_5, rp, hr, hnc, hpc⟩ := hcut
              have hbc := hbq.ext hxc
              have hc0 := hbc.cell 0 _ rfl
              have hc1 := hbc.cell 1 _ rfl
              have hc2 := hbc.cell 2 _ rfl
              have hc3 := hbc.cell 3 _ rfl
              have hc4 := hbc.cell 4 _ rfl
              have hc5 := hbc.cell 5 _ rfl
              have hc6 := hbc.cell 6 _ rfl
              have hc7 := hbc.cell 7 _ rfl
              have hc8 := hbc.cell 8 _ rfl
              have hc9 := hbc.cell 9 _ rfl
              go_upto_if 124 with fail
              go_cut [] (fun wc => Ext w wc ∧ MapAt wc w.heap.size [(s_percolate, .iface 149 (.map (some (w.heap.size + 1))))] ∧ ∃ rp, rp.length ≤ 8 ∧ MapAt wc (w.heap.size + 1) rp ∧ PJ (fun b => b < w.heap.size) wc rp ([(s_field, J.str f)] ++ jT s_plain_name (o1) ++ jD us ++ jT s_index (o4) ++ jT s_id (o6) ++ jT s_routing (o7) ++ jT s_preference (o8) ++ jL s_version (o9)))
              case first =>
                cases o9 with
                | none =>
                  have hv : v9 = none := H9.out
                  subst hv
                  go_wp2_with fail
                  go_meet
                  case rel =>
                    refine ⟨hxc, hm0_5, rp, Nat.le_succ_of_le hr, hnc, ?_⟩
                    rw [show jL s_version none = [] from rfl, List.append_nil]
                    exact hpc
                | some t9 =>
                  obtain ⟨cc, z9, hv, hSc, hcc, hzz⟩ := H9.out
                  subst hv
                  have hcc := hxc.cell hcc
                  go_wp2_with (at_mapUpdate; refine wp_put _ rfl _ _ _ 149 rfl 20 Try.underlying149 (w.heap.size + 1) rp rfl hnc (Nat.lt_of_le_of_lt hr (by decide)) s_version rfl (by decide) _ rfl ?_; intro wn hnn hgn)
                  go_meet
                  case rel =>
                    have hxn := ext_put hxc hgn (by omega)
                    refine ⟨hxn, hm0_5.grown hgn (someNe hne0), _, ?_, hnn, ?_⟩
                    · rw [List.length_append]; exact Nat.succ_le_succ (by exact hr)
                    · rw [show jL s_version (some t9) = [(s_version, .long z9)] from jL_some hzz]
                      exact PJ.snoc (hpc.moveB hxc hxn) (by simp only [JAt]; rfl)
              case rest =>
                obtain ⟨hxc, hm0_6, rp, hr, hnc, hpc⟩ := hcut
                have hbc := hbq.ext hxc
                have hc0 := hbc.cell 0 _ rfl
                have hc1 := hbc.cell 1 _ rfl
                have hc2 := hbc.cell 2 _ rfl
                have hc3 := hbc.cell 3 _ rfl
                have hc4 := hbc.cell 4 _ rfl
                have hc5 := hbc.cell 5 _ rfl
                have hc6 := hbc.cell 6 _ rfl
                have hc7 := hbc.cell 7 _ rfl
                have hc8 := hbc.cell 8 _ rfl
                have hc9 := hbc.cell 9 _ rfl
                go_wp2_with fail
                go_ret2
                refine ⟨_, rfl, ?_, hxc⟩
                exact jMap_one hm0_6 trivial (hpc.wide.map hnc trivial (by have := hpc.len; omega))
end Go.Proofs.Ytdjojnlejkljdaa

namespace Go.Proofs.Ytdjojnlejkljdaa
open Go.RowKit

set_option maxRecDepth 20000 in
set_option maxHeartbeats 4000000 in
theorem percolate_any {S : Nat → Prop} (a : Option Addr) (n c : Nat) (ps : List (ByteArray × T)) (w : World) (f : ByteArray) (hfp : 0 < f.size) (ua0 : Option Addr) (un0 uc0 : Nat) (u : List T) (hu0 : KidsAt S w ua0 un0 uc0 u) (hub : un0 ≤ 2147483647) (huF : FullTs u) (hW9 : WholeAt ps s_version) (h : PairsAt S w a n c ps) :
    Calls Try.prog 18 #[.string f, .slice ua0 un0 uc0, .slice a n c] w fun r w' => ∃ g : El, r = .returned (.tuple #[g.val, .bool true]) ∧ TreeAt (fun b => w.heap.size + 1 ≤ b) w' g (treeJ (jMap [(s_percolate, jMap ([(s_field, J.str f)] ++ jT s_plain_name (lastOf ps s_plain_name) ++ jD (jFulls u) ++ jT s_index (lastOf ps s_index) ++ jT s_id (lastOf ps s_id) ++ jT s_routing (lastOf ps s_routing) ++ jT s_preference (lastOf ps s_preference) ++ jL s_version (lastOf ps s_version)))])) ∧ Ext w w' := by
  obtain ⟨hl, hn, hm, hc⟩ := h
  unfold maxLen at hm
  have HL := Lib.hid hl
  clear hl
  have HW9 := Lib.hid hW9
  clear hW9
  have HPu := Lib.hid (fun (w1 : World) (x : Ext w w1) => plains_full ua0 un0 uc0 u w1 (hu0.ext x) (plaineds u huF) hub)
  clear hu0
  go_enter Try.func18, Try.ntmps18
  have hq0 : Box ((w.alloc (.cells (El.arr El0) 30)).alloc (.cells #[.string f, .string ⟨#[]⟩, .string ⟨#[]⟩, .slice none 0 0, .string ⟨#[]⟩, .string ⟨#[]⟩, .string ⟨#[]⟩, .string ⟨#[]⟩, .string ⟨#[]⟩, .pointer none] 154)) (w.heap.size + 1) #[.string f, .string ⟨#[]⟩, .string ⟨#[]⟩, .slice none 0 0, .string ⟨#[]⟩, .string ⟨#[]⟩, .string ⟨#[]⟩, .string ⟨#[]⟩, .string ⟨#[]⟩, .pointer none] 154 := Box.at (by simp) _ _
  have hr0 : Box ((w.alloc (.cells (El.arr El0) 30)).alloc (.cells #[.string f, .string ⟨#[]⟩, .string ⟨#[]⟩, .slice none 0 0, .string ⟨#[]⟩, .string ⟨#[]⟩, .string ⟨#[]⟩, .string ⟨#[]⟩, .string ⟨#[]⟩, .pointer none] 154)) w.heap.size (El.arr El0) 30 := (Box.at rfl _ _).alloc _
  have hxq : Ext w ((w.alloc (.cells (El.arr El0) 30)).alloc (.cells #[.string f, .string ⟨#[]⟩, .string ⟨#[]⟩, .slice none 0 0, .string ⟨#[]⟩, .string ⟨#[]⟩, .string ⟨#[]⟩, .string ⟨#[]⟩, .string ⟨#[]⟩, .pointer none] 154)) := ext_alloc (ext_alloc (ext_refl _) _) _
  go_wp2_with (first
    | (go_at_call 63; refine (HPu.out _ hxq).mono ?_; rintro r w1 ⟨g1, c1, rfl, hJ1, hx1⟩
       have hq1 := hq0.ext hx1
       have HJ1 := Lib.hid hJ1
       clear hJ1)
    | (go_at_call 62; refine (document_any w1 (w.alloc (.cells (El.arr El0) 30)) (w.heap.size + 1) _ _ _ _ _ _ _ _ _ hq1 g1 un0 c1 (jFulls u) HJ1.out (fun b hb => by simp at hb; omega) (ext_trans (ext_alloc (ext_refl _) _) hx1) (by simp)).mono ?_; rintro r w2 ⟨da, dc, rfl, hbs, hdu, hxt⟩)
    | go_in)
  have hss := hbs.lt
  have hb0s : Box w2 w.heap.size (El.arr El0) 30 := (Box.at rfl _ _ : Box (w.alloc (.cells (El.arr El0) 30)) w.heap.size (El.arr El0) 30).ext hxt
  have hxs : Ext w w2 := ext_trans (ext_alloc (ext_refl _) _) hxt
  go_loopw [19] (fun i wr => Ext w wr ∧ (w.heap.size + 2) ≤ wr.heap.size ∧ Box wr w.heap.size (El.arr El0) 30 ∧ ∃ (j : Nat) (v1 : ByteArray) (v4 : ByteArray) (v6 : ByteArray) (v7 : ByteArray) (v8 : ByteArray) (v9 : Option Addr), j ≤ n ∧ i = .int .i64 j ∧ Box wr (w.heap.size + 1) #[.string f, .string v1, .string ⟨#[]⟩, .slice da un0 dc, .string v4, .string ⟨#[]⟩, .string v6, .string v7, .string v8, .pointer v9] 154 ∧ v1 = fT (lastOf (ps.take j) s_plain_name) ∧ v4 = fT (lastOf (ps.take j) s_index) ∧ v6 = fT (lastOf (ps.take j) s_id) ∧ v7 = fT (lastOf (ps.take j) s_routing) ∧ v8 = fT (lastOf (ps.take j) s_preference) ∧ FW (fun q => q ≠ (w.heap.size + 1)) wr v9 (lastOf (ps.take j) s_version) ∧ DocsAt (fun q => q ≠ (w.heap.size + 1)) wr (.slice da un0 dc) (jFulls u)) (fun i _ => n - (intOf i).toNat)
  case atStart => exact ⟨hxs, by omega, hb0s, 0, _, _, _, _, _, _, Nat.zero_le _, rfl, hbs, rfl, rfl, rfl, rfl, rfl, rfl, hdu⟩
  case round =>
    obtain ⟨hx, hsz, hb0, j, v1, v4, v6, v7, v8, v9, hj, rfl, hbq, h1, h4, h6, h7, h8, h9, hdu⟩ := hrel
    have H1 := Lib.hid h1
    have H4 := Lib.hid h4
    have H6 := Lib.hid h6
    have H7 := Lib.hid h7
    have H8 := Lib.hid h8
    have H9 := Lib.hid h9
    have Hdu := Lib.hid hdu
    clear hdu
    clear h1 h4 h6 h7 h8 h9
    have hbql := hbq.lt
    by_cases hlt : j < n
    · obtain ⟨p, hp⟩ := some_of_lt HL.out hlt
      obtain ⟨b, off, ⟨k, x, d, y, ka, kn, kc, ca, m, cc⟩, rfl, hSb, hc7, hT⟩ := hc j p hp
      obtain ⟨z0, z1, z2, z3, z4, z5, z6⟩ := Cells7.ext hx hc7
      have HP := Lib.hid hp
      have hl0 : w.heap.size < wr.heap.size := by omega
      have hl1 : ¬ w.heap.size = wr.heap.size := by omega
      have hl2 : (w.heap.size + 1) < wr.heap.size + 1 := by omega
      have hTx := Lib.hid hT.parts.2.1
      have hTd := Lib.hid hT.parts.2.2.1
      have hTy := Lib.hid hT.parts.2.2.2.1
      clear hp
      have hc0 := hbq.cell 0 _ rfl
      have hf0 := hbq.free 0
      have hc1 := hbq.cell 1 _ rfl
      have hf1 := hbq.free 1
      have hc2 := hbq.cell 2 _ rfl
      have hf2 := hbq.free 2
      have hc3 := hbq.cell 3 _ rfl
      have hf3 := hbq.free 3
      have hc4 := hbq.cell 4 _ rfl
      have hf4 := hbq.free 4
      have hc5 := hbq.cell 5 _ rfl
      have hf5 := hbq.free 5
      have hc6 := hbq.cell 6 _ rfl
      have hf6 := hbq.free 6
      have hc7 := hbq.cell 7 _ rfl
      have hf7 := hbq.free 7
      have hc8 := hbq.cell 8 _ rfl
      have hf8 := hbq.free 8
      have hc9 := hbq.cell 9 _ rfl
      have hf9 := hbq.free 9
      cases he0 : p.1.toList == [110, 97, 109, 101]
      · have e0 : seq p.1 s_plain_name = false := by rw [seq, show s_plain_name.toList = [110, 97, 109, 101] by rw [Lib.toList_data]]; exact he0
        cases he1 : p.1.toList == [105, 100]
        · have e1 : seq p.1 s_id = false := by rw [seq, show s_id.toList = [105, 100] by rw [Lib.toList_data]]; exact he1
          cases he2 : p.1.toList == [105, 110, 100, 101, 120]
          · have e2 : seq p.1 s_index = false := by rw [seq, show s_index.toList = [105, 110, 100, 101, 120] by rw [Lib.toList_data]]; exact he2
            cases he3 : p.1.toList == [112, 114, 101, 102, 101, 114, 101, 110, 99, 101]
            · have e3 : seq p.1 s_preference = false := by rw [seq, show s_preference.toList = [112, 114, 101, 102, 101, 114, 101, 110, 99, 101] by rw [Lib.toList_data]]; exact he3
              cases he4 : p.1.toList == [114, 111, 117, 116, 105, 110, 103]
              · have e4 : seq p.1 s_routing = false := by rw [seq, show s_routing.toList = [114, 111, 117, 116, 105, 110, 103] by rw [Lib.toList_data]]; exact he4
                cases he5 : p.1.toList == [118, 101, 114, 115, 105, 111, 110]
                · have e5 : seq p.1 s_version = false := by rw [seq, show s_version.toList = [118, 101, 114, 115, 105, 111, 110] by rw [Lib.toList_data]]; exact he5
                  go_wp2_with go_in
                  go_roundw
                  case rel =>
                    have hy := ext_alloc (ext_refl wr) (.cells #[.string p.1, .int .i64 k, .string x, .float .f64 d, .bool y, .slice ka kn kc, .slice ca m cc] 62)
                    exact ⟨ext_trans hx hy, Nat.le_trans hsz hy.sz, hb0.ext hy, j + 1, v1, v4, v6, v7, v8, v9, by omega, by go_num, hbq.ext hy, by rw [last_miss HP.out e0]; exact H1.out, by rw [last_miss HP.out e2]; exact H4.out, by rw [last_miss HP.out e1]; exact H6.out, by rw [last_miss HP.out e4]; exact H7.out, by rw [last_miss HP.out e3]; exact H8.out, by rw [last_miss HP.out e5]; exact FW.ext hy H9.out, DocsAt.ext Hdu.out hy⟩
                  case measure => simp [intOf]; omega
                · have e5 : seq p.1 s_version = true := by rw [seq, show s_version.toList = [118, 101, 114, 115, 105, 111, 110] by rw [Lib.toList_data]]; exact he5
                  obtain ⟨z, hz, -⟩ := HW9.out p (List.mem_of_getElem? HP.out) e5
                  have hcv : ∀ w, (convert 22 2 (.float .f64 d)).run Try.prog w = .ok (.int .i64 z) w := fun w => run_convert_float_int w 22 2 .f64 .i64 d z (by rw [Try.underlying22]; rfl) Try.underlying2 (show floatToIntVal .f64 d .i64 = some z from by have h9 : d = p.2.num := hTd.out; rw [h9]; exact hz)
                  have HZ := Lib.hid hz
                  clear hz
                  go_wp2_with go_in
                  go_roundw
                  case rel =>
                    have hk : Keeps (fun q => q ≠ (w.heap.size + 1)) wr (((wr.setCell ⟨(w.heap.size + 1), 9, none⟩ (.pointer (some ⟨wr.heap.size + 1, 0, none⟩))).alloc (.cells #[.string p.1, .int .i64 k, .string x, .float .f64 d, .bool y, .slice ka kn kc, .slice ca m cc] 62)).alloc (.cells #[.int .i64 z] 2)) := fun q hq hlt => (Below.heap_alloc _ _ _ (by simp; omega)).trans ((Below.heap_alloc _ _ _ (by simpa using hlt)).trans (Below.heap_setCell _ _ _ _ (by simp; omega)))
                    have hnew : (((wr.setCell ⟨(w.heap.size + 1), 9, none⟩ (.pointer (some ⟨wr.heap.size + 1, 0, none⟩))).alloc (.cells #[.string p.1, .int .i64 k, .string x, .float .f64 d, .bool y, .slice ka kn kc, .slice ca m cc] 62)).alloc (.cells #[.int .i64 z] 2)).cell? ⟨wr.heap.size + 1, 0, none⟩ = some (.int .i64 z) := (Box.at (by simp) _ _).cell 0 _ rfl
                    exact ⟨ext_alloc (ext_alloc (ext_set hx (by simp <;> omega) _) _) _, by simp; omega, ((hb0.other (by simp <;> omega) _).alloc _).alloc _, j + 1, v1, v4, v6, v7, v8, some ⟨wr.heap.size + 1, 0, none⟩, by omega, by go_num, ((hbq.set 9 _).alloc _).alloc _, by rw [last_other HP.out e5 (seq_false.2 (by decide))]; exact H1.out, by rw [last_other HP.out e5 (seq_false.2 (by decide))]; exact H4.out, by rw [last_other HP.out e5 (seq_false.2 (by decide))]; exact H6.out, by rw [last_other HP.out e5 (seq_false.2 (by decide))]; exact H7.out, by rw [last_other HP.out e5 (seq_false.2 (by decide))]; exact H8.out, by rw [last_hit HP.out e5]; exact ⟨wr.heap.size + 1, z, rfl, by omega, hnew, HZ.out⟩, DocsAt.keep Hdu.out (fun _ h _ => h) hk (by simp <;> omega)⟩
                  case measure => simp [intOf]; omega
              · have e4 : seq p.1 s_routing = true := by rw [seq, show s_routing.toList = [114, 111, 117, 116, 105, 110, 103] by rw [Lib.toList_data]]; exact he4
                go_wp2_with go_in
                go_roundw
                case rel =>
                  have hk : Keeps (fun q => q ≠ (w.heap.size + 1)) wr ((wr.setCell ⟨(w.heap.size + 1), 7, none⟩ (.string x)).alloc (.cells #[.string p.1, .int .i64 k, .string x, .float .f64 d, .bool y, .slice ka kn kc, .slice ca m cc] 62)) := fun q hq hlt => (Below.heap_alloc _ _ _ (by simpa using hlt)).trans (Below.heap_setCell _ _ _ _ (by simp; omega))
                  exact ⟨ext_alloc (ext_set hx (by simp <;> omega) _) _, by simp; omega, (hb0.other (by simp <;> omega) _).alloc _, j + 1, v1, v4, v6, x, v8, v9, by omega, by go_num, (hbq.set 7 _).alloc _, by rw [last_other HP.out e4 (seq_false.2 (by decide))]; exact H1.out, by rw [last_other HP.out e4 (seq_false.2 (by decide))]; exact H4.out, by rw [last_other HP.out e4 (seq_false.2 (by decide))]; exact H6.out, by rw [last_hit HP.out e4]; exact hTx.out, by rw [last_other HP.out e4 (seq_false.2 (by decide))]; exact H8.out, by rw [last_other HP.out e4 (seq_false.2 (by decide))]; exact FW.keep (fun _ h _ => h) hk H9.out, DocsAt.keep Hdu.out (fun _ h _ => h) hk (by simp <;> omega)⟩
                case measure => simp [intOf]; omega
            · have e3 : seq p.1 s_preference = true := by rw [seq, show s_preference.toList = [112, 114, 101, 102, 101, 114, 101, 110, 99, 101] by rw [Lib.toList_data]]; exact he3
              go_wp2_with go_in
              go_roundw
              case rel =>
                have hk : Keeps (fun q => q ≠ (w.heap.size + 1)) wr ((wr.setCell ⟨(w.heap.size + 1), 8, none⟩ (.string x)).alloc (.cells #[.string p.1, .int .i64 k, .string x, .float .f64 d, .bool y, .slice ka kn kc, .slice ca m cc] 62)) := fun q hq hlt => (Below.heap_alloc _ _ _ (by simpa using hlt)).trans (Below.heap_setCell _ _ _ _ (by simp; omega))
                exact ⟨ext_alloc (ext_set hx (by simp <;> omega) _) _, by simp; omega, (hb0.other (by simp <;> omega) _).alloc _, j + 1, v1, v4, v6, v7, x, v9, by omega, by go_num, (hbq.set 8 _).alloc _, by rw [last_other HP.out e3 (seq_false.2 (by decide))]; exact H1.out, by rw [last_other HP.out e3 (seq_false.2 (by decide))]; exact H4.out, by rw [last_other HP.out e3 (seq_false.2 (by decide))]; exact H6.out, by rw [last_other HP.out e3 (seq_false.2 (by decide))]; exact H7.out, by rw [last_hit HP.out e3]; exact hTx.out, by rw [last_other HP.out e3 (seq_false.2 (by decide))]; exact FW.keep (fun _ h _ => h) hk H9.out, DocsAt.keep Hdu.out (fun _ h _ => h) hk (by simp <;> omega)⟩
              case measure => simp [intOf]; omega
          · have e2 : seq p.1 s_index = true := by rw [seq, show s_index.toList = [105, 110, 100, 101, 120] by rw [Lib.toList_data]]; exact he2
            go_wp2_with go_in
            go_roundw
            case rel =>
              have hk : Keeps (fun q => q ≠ (w.heap.size + 1)) wr ((wr.setCell ⟨(w.heap.size + 1), 4, none⟩ (.string x)).alloc (.cells #[.string p.1, .int .i64 k, .string x, .float .f64 d, .bool y, .slice ka kn kc, .slice ca m cc] 62)) := fun q hq hlt => (Below.heap_alloc _ _ _ (by simpa using hlt)).trans (Below.heap_setCell _ _ _ _ (by simp; omega))
              exact ⟨ext_alloc (ext_set hx (by simp <;> omega) _) _, by simp; omega, (hb0.other (by simp <;> omega) _).alloc _, j + 1, v1, x, v6, v7, v8, v9, by omega, by go_num, (hbq.set 4 _).alloc _, by rw [last_other HP.out e2 (seq_false.2 (by decide))]; exact H1.out, by rw [last_hit HP.out e2]; exact hTx.out, by rw [last_other HP.out e2 (seq_false.2 (by decide))]; exact H6.out, by rw [last_other HP.out e2 (seq_false.2 (by decide))]; exact H7.out, by rw [last_other HP.out e2 (seq_false.2 (by decide))]; exact H8.out, by rw [last_other HP.out e2 (seq_false.2 (by decide))]; exact FW.keep (fun _ h _ => h) hk H9.out, DocsAt.keep Hdu.out (fun _ h _ => h) hk (by simp <;> omega)⟩
            case measure => simp [intOf]; omega
        · have e1 : seq p.1 s_id = true := by rw [seq, show s_id.toList = [105, 100] by rw [Lib.toList_data]]; exact he1
          go_wp2_with go_in
          go_roundw
          case rel =>
            have hk : Keeps (fun q => q ≠ (w.heap.size + 1)) wr ((wr.setCell ⟨(w.heap.size + 1), 6, none⟩ (.string x)).alloc (.cells #[.string p.1, .int .i64 k, .string x, .float .f64 d, .bool y, .slice ka kn kc, .slice ca m cc] 62)) := fun q hq hlt => (Below.heap_alloc _ _ _ (by simpa using hlt)).trans (Below.heap_setCell _ _ _ _ (by simp; omega))
            exact ⟨ext_alloc (ext_set hx (by simp <;> omega) _) _, by simp; omega, (hb0.other (by simp <;> omega) _).alloc _, j + 1, v1, v4, x, v7, v8, v9, by omega, by go_num, (hbq.set 6 _).alloc _, by rw [last_other HP.out e1 (seq_false.2 (by decide))]; exact H1.out, by rw [last_other HP.out e1 (seq_false.2 (by decide))]; exact H4.out, by rw [last_hit HP.out e1]; exact hTx.out, by rw [last_other HP.out e1 (seq_false.2 (by decide))]; exact H7.out, by rw [last_other HP.out e1 (seq_false.2 (by decide))]; exact H8.out, by rw [last_other HP.out e1 (seq_false.2 (by decide))]; exact FW.keep (fun _ h _ => h) hk H9.out, DocsAt.keep Hdu.out (fun _ h _ => h) hk (by simp <;> omega)⟩
          case measure => simp [intOf]; omega
      · have e0 : seq p.1 s_plain_name = true := by rw [seq, show s_plain_name.toList = [110, 97, 109, 101] by rw [Lib.toList_data]]; exact he0
        go_wp2_with go_in
        go_roundw
        case rel =>
          have hk : Keeps (fun q => q ≠ (w.heap.size + 1)) wr ((wr.setCell ⟨(w.heap.size + 1), 1, none⟩ (.string x)).alloc (.cells #[.string p.1, .int .i64 k, .string x, .float .f64 d, .bool y, .slice ka kn kc, .slice ca m cc] 62)) := fun q hq hlt => (Below.heap_alloc _ _ _ (by simpa using hlt)).trans (Below.heap_setCell _ _ _ _ (by simp; omega))
          exact ⟨ext_alloc (ext_set hx (by simp <;> omega) _) _, by simp; omega, (hb0.other (by simp <;> omega) _).alloc _, j + 1, x, v4, v6, v7, v8, v9, by omega, by go_num, (hbq.set 1 _).alloc _, by rw [last_hit HP.out e0]; exact hTx.out, by rw [last_other HP.out e0 (seq_false.2 (by decide))]; exact H4.out, by rw [last_other HP.out e0 (seq_false.2 (by decide))]; exact H6.out, by rw [last_other HP.out e0 (seq_false.2 (by decide))]; exact H7.out, by rw [last_other HP.out e0 (seq_false.2 (by decide))]; exact H8.out, by rw [last_other HP.out e0 (seq_false.2 (by decide))]; exact FW.keep (fun _ h _ => h) hk H9.out, DocsAt.keep Hdu.out (fun _ h _ => h) hk (by simp <;> omega)⟩
        case measure => simp [intOf]; omega
    · have hjn : j = n := by omega
      have hfull : ps.take j = ps := List.take_of_length_le (by have := HL.out; omega)
      rw [hfull] at H1 H4 H6 H7 H8 H9
      have hS := percolate_src (S := fun q => q ≠ (w.heap.size + 1)) wr (w.heap.size + 1) f hfp v1 _ H1.out _ _ _ _ (DocsAt.to Hdu.out (fun _ _ h => h)) v4 _ H4.out v6 _ H6.out v7 _ H7.out v8 _ H8.out v9 _ H9.out hbq
      go_wp2_with (first
        | (go_at_call 70; refine hS.mono ?_; rintro r w2 ⟨v, rfl, hJ, hx2⟩)
        | (go_at_call 49; refine (told_any v _ _ hJ).mono ?_; rintro r w3 ⟨e2, rfl, hT3, hx3⟩; simp only [El.val]
           have hb := (hb0.ext hx2).ext hx3; obtain ⟨o0, o1, o2, o3, o4, o5⟩ := hb.six; have f0 := hb.free 0; have f1 := hb.free 1; have f2 := hb.free 2; have f3 := hb.free 3; have f4 := hb.free 4; have f5 := hb.free 5))
      have hx4 := ext_trans hx (ext_trans hx2 hx3)
      have hs2 := hx2.sz
      refine post_tree2 rfl rfl (hb.sto e2) rfl ⟨e2, rfl, ?_, ext_sto6 hx4 (by omega) _ _ _ _ _ _⟩
      have hfin := TreeAt.keep (S := fun b => w2.heap.size ≤ b) (S' := fun b => w.heap.size + 1 ≤ b) (fun b hb _ => by omega) (keeps_sto (b := w.heap.size) w3 (by omega) e2) _ hT3
      simp only [List.append_assoc, List.cons_append, List.nil_append] at hfin ⊢
      exact hfin
end Go.Proofs.Ytdjojnlejkljdaa

namespace Go.Proofs.Ytdjojnlejkljdaa
open Go.RowKit

abbrev sPercolate : ByteArray := ⟨#[80, 101, 114, 99, 111, 108, 97, 116, 101]⟩
abbrev tPercolate : ByteArray := ⟨#[110, 97, 109, 101, 32, 116, 44, 105, 100, 32, 116, 44, 105, 110, 100, 101, 120, 32, 116, 44, 112, 114, 101, 102, 101, 114, 101, 110, 99, 101, 32, 116, 44, 114, 111, 117, 116, 105, 110, 103, 32, 116, 44, 118, 101, 114, 115, 105, 111, 110, 32, 119]⟩
abbrev rPercolate : List (ByteArray × ByteArray) := [(s_plain_name, ⟨#[116]⟩), (s_id, ⟨#[116]⟩), (s_index, ⟨#[116]⟩), (s_preference, ⟨#[116]⟩), (s_routing, ⟨#[116]⟩), (s_version, ⟨#[119]⟩)]
set_option maxHeartbeats 2000000 in
theorem table_percolate (w : World) : Calls Try.prog 138 #[.string sPercolate] w fun r w' => r = .returned (.string tPercolate) ∧ w' = w := by
  go_enter Try.func138, Try.ntmps138
  go_wp2
  go_ret
  exact ⟨rfl, rfl⟩
set_option maxRecDepth 20000 in
theorem rows_percolate (w : World) : Calls Try.prog 131 #[.string sPercolate] w fun r w' => ∃ v, r = .returned v ∧ Own2 w' w.heap.size v rPercolate ∧ Ext w w' :=
  rows_any sPercolate tPercolate w table_percolate 9 (by decide) (by decide)
def docsL (u : List T) : List (ByteArray × T) := if u.isEmpty then [] else [(s_documents, listT u)]
theorem tree_looseP {S S' : Nat → Prop} {w : World} {e : El} {t : T} (h : TreeAt S w e t) (hs : scalarT t = true) : TreeAt S' w e t := by
  obtain ⟨k, x, d, y, ks, xs⟩ := t
  have h2 : ks = [] ∧ xs = [] := by
    unfold scalarT scalarF at hs
    simp only [T.keys, T.kids] at hs
    cases ks with
    | cons _ _ => simp at hs
    | nil =>
      cases xs with
      | cons _ _ => simp at hs
      | nil => exact ⟨rfl, rfl⟩
  obtain ⟨rfl, rfl⟩ := h2
  obtain ⟨h1, h2, h3, h4, h5, h6⟩ := h.parts
  exact TreeAt.of h1 h2 h3 h4 ⟨h5.1, h5.2.1, h5.2.2.1, fun _ _ hh => by simp [T.keys] at hh⟩ (KidsAt.of h6.1 h6.2.1 h6.2.2.1 fun _ _ hh => by simp [T.kids] at hh)
theorem pk_looseP {S S' : Nat → Prop} {w : World} {es : List (ByteArray × El)} {ps : List (ByteArray × T)} (h : Pk S w es ps) (hs : ∀ p ∈ ps, scalarT p.2 = true) : Pk S' w es ps :=
  ⟨h.1, fun i e p he hp => ⟨(h.2 i e p he hp).1, tree_looseP (h.2 i e p he hp).2 (hs p (List.mem_of_getElem? hp))⟩⟩
theorem params_plainP {rs : List (ByteArray × ByteArray)} {ps : List (ByteArray × T)} (hF : FitsP rs ps) (rs2 : List (ByteArray × ByteArray)) : ∀ p ∈ paramsL rs2 ps, scalarT p.2 = true := fun p hp => by
  unfold paramsL at hp
  obtain ⟨r, -, hr⟩ := List.mem_filterMap.1 hp
  unfold param at hr
  split at hr
  · cases hl : lastOf ps r.1 with
    | none => rw [hl] at hr; cases hr
    | some t =>
      rw [hl] at hr
      cases hr
      exact (fits_last hF hl).1
  · cases hr
/-- Names with trees to which one more is appended. -/
theorem pk_plus {P : Nat → Prop} {w w' : World} {g cap n : Nat} {v : Value} {es : List (ByteArray × El)} {ps : List (ByteArray × T)} {k : ByteArray} {e : El} {t : T} (hP : Pk (fun b => P b ∧ v.ownBlock ≠ some b) w es ps) (ht : TreeAt (fun b => P b ∧ v.ownBlock ≠ some b) w e t)
    (hg : w.grownBy w' v.ownBlock) (hl : Lies w v g) : Pk (fun b => P b ∧ (Value.slice (some ⟨g, 0, none⟩) n cap).ownBlock ≠ some b) w' (es ++ [(k, e)]) (ps ++ [(k, t)]) := by
  have hk : Keeps (fun b => P b ∧ v.ownBlock ≠ some b) w w' := keeps_grown hg (fun b hb e => hb.2 e.symm)
  have hS : ∀ b, (P b ∧ v.ownBlock ≠ some b) → b < w.heap.size → P b ∧ (Value.slice (some ⟨g, 0, none⟩) n cap).ownBlock ≠ some b := fun b hb hlt => by
    refine ⟨hb.1, fun e => ?_⟩
    simp only [Value.ownBlock, Option.some.injEq] at e
    rcases hl with hl | hl
    · exact hb.2 (by rw [hl, e])
    · omega
  exact Pk.append (hP.keep hS hk) (Pk.one (TreeAt.keep hS hk _ ht))
set_option maxRecDepth 20000 in
set_option maxHeartbeats 8000000 in
theorem percolateS_any {S : Nat → Prop} (f : ByteArray) (ua : Option Addr) (un uc : Nat) (u : List T) (a : Option Addr) (n c : Nat) (ps : List (ByteArray × T)) (w : World) (hu : KidsAt S w ua un uc u) (h : PairsAt S w a n c ps) (hF : FitsP rPercolate ps) :
    Calls Try.prog 20 #[.string f, .slice ua un uc, .slice a n c] w fun r w' => ∃ g : El, r = .returned g.val ∧ TreeAt (fun _ => True) w' g (mapT [(s_percolate, mapT (paramsL rPercolate ps ++ [(s_field, textT f)] ++ docsL u))]) ∧ Ext w w' := by
  have HSC := Lib.hid (params_plainP hF rPercolate)
  have HP := Lib.hid (fun (w' : World) (x : Ext w w') => params_any sPercolate tPercolate a n c ps w' table_percolate 9 (by decide) (by decide) rPercolate (by decide) (by decide) (h.ext x))
  have HU := Lib.hid (fun (w' : World) (x : Ext w w') => (hu.keep (S' := fun b => b < w.heap.size) (fun _ _ hl => hl) (fun _ _ _ => rfl)).ext x)
  have HPL := Lib.hid (params_len rPercolate ps)
  have hul := hu.1
  clear h hF hu
  have hb0 : Box (w.alloc (.cells (El.arr El0) 30)) w.heap.size (El.arr El0) 30 := Box.at rfl _ _
  have hx0 : Ext w (w.alloc (.cells (El.arr El0) 30)) := ext_alloc (ext_refl _) _
  have hs0 : (w.alloc (.cells (El.arr El0) 30)).heap.size = w.heap.size + 1 := by simp
  go_enter Try.func20, Try.ntmps20
  have tokA := trivial
  go_upto_if 17 with (first
    | (go_at_call 55; refine (HP.out _ hx0).mono ?_; rintro r w1 ⟨pv, es0, rfl, hO0, hPk0, hx1⟩
       rw [hs0] at hO0
       have hpvb : ∀ q, pv.ownBlock = some q → w.heap.size + 1 ≤ q ∧ q < w1.heap.size := fun q hq => World.ownsRow.lt hO0 q hq
       have hPf : Pk (fun b => b ≠ w.heap.size ∧ pv.ownBlock ≠ some b) w1 es0 (paramsL rPercolate ps) := pk_looseP hPk0 HSC.out
       have hl0 : es0.length ≤ 6 := by have h1 := hPk0.1; have h2 := HPL.out; simp only [List.length_cons, List.length_nil] at h2; omega
       have HPF := Lib.hid hPf
       have HO0 := Lib.hid hO0
       clear hPf hPk0 hO0)
    | (go_at_call 56; refine (text_any f _).mono ?_; rintro r w2 ⟨gt, rfl, hgt, hx2⟩; simp only [El.val]
       have x3 : Ext w1 (w2.alloc (.cells #[.string s_field, .int .i64 gt.k, .string gt.x, .float .f64 gt.d, .bool gt.y, .slice gt.ka gt.n gt.kc, .slice gt.ca gt.m gt.cc] 86)) := ext_alloc hx2 _
       have hbp : Box (w2.alloc (.cells #[.string s_field, .int .i64 gt.k, .string gt.x, .float .f64 gt.d, .bool gt.y, .slice gt.ka gt.n gt.kc, .slice gt.ca gt.m gt.cc] 86)) w2.heap.size #[.string s_field, .int .i64 gt.k, .string gt.x, .float .f64 gt.d, .bool gt.y, .slice gt.ka gt.n gt.kc, .slice gt.ca gt.m gt.cc] 86 := Box.at rfl _ _
       have hgt3 := (hgt (fun b => b ≠ w.heap.size ∧ pv.ownBlock ≠ some b)).ext (ext_alloc (ext_refl w2) (.cells #[.string s_field, .int .i64 gt.k, .string gt.x, .float .f64 gt.d, .bool gt.y, .slice gt.ka gt.n gt.kc, .slice gt.ca gt.m gt.cc] 86))
       have hs2 := hx2.sz
       have hs1 := hx1.sz)
    | (at_builtin; have _t := tokA; clear _t tokA; refine list_append_pairs _ rfl _ _ rfl (w.heap.size + 1) _ es0 rfl (HO0.out.ext x3) w2.heap.size 0 1 [(s_field, gt)] (by simp) rfl (fun i p hp => by
         cases i with
         | zero => simp at hp; subst hp; exact ⟨hbp.cell 0 _ rfl, hbp.cell 1 _ rfl, hbp.cell 2 _ rfl, hbp.cell 3 _ rfl, hbp.cell 4 _ rfl, hbp.cell 5 _ rfl, hbp.cell 6 _ rfl⟩
         | succ i => simp at hp) (by simp; omega) (Nat.le_trans (by omega) x3.sz) ?_; intro g1 cap1 w3 hown hgrow hlies hglt
       have hPk3 := Lib.hid (pk_plus (g := g1) (cap := cap1) (n := es0.length + 1) (k := s_field) (HPF.out.ext x3) hgt3 hgrow hlies)
       have HO3 := Lib.hid hown
       have hx3w : Ext w w3 := ext_grown (ext_trans (ext_trans hx0 hx1) x3) hgrow (fun k hk => by have := hpvb k hk; omega)
       have hb03 := ((hb0.ext hx1).ext x3).grown hgrow (fun e => by have := hpvb _ e.symm; omega)
       have hsz3 : w.heap.size + 1 ≤ w3.heap.size := Nat.le_trans (Nat.le_trans (by omega) x3.sz) hgrow.size
       clear hown hgrow hlies hgt3 hgt hbp)
    | fail)
  have hqb : ∀ q, (Value.slice (some ⟨g1, 0, none⟩) (es0.length + 1) cap1).ownBlock = some q → w.heap.size + 1 ≤ q ∧ q < w3.heap.size := fun q hq => World.ownsRow.lt HO3.out q hq
  go_cut [7] (fun v wc => Ext w wc ∧ w.heap.size + 1 ≤ wc.heap.size ∧ Box wc w.heap.size (El.arr El0) 30 ∧ ∃ (es : List (ByteArray × El)) (qv : Value), qv = v ∧ es.length ≤ 6 + 2 ∧ OwnPairs wc (w.heap.size + 1) qv es ∧ Pk (fun b => b ≠ w.heap.size ∧ qv.ownBlock ≠ some b) wc es (paramsL rPercolate ps ++ [(s_field, textT f)] ++ docsL u))
  case first =>
    by_cases hup : 0 < un
    case pos =>
      have tokB := trivial
      go_wp2_with (first
        | (go_at_call 53; refine (list_any _ _ _ _ _ (HU.out w3 hx3w)).mono ?_; rintro r w6 ⟨g6, rfl, hT6, hx6⟩; simp only [El.val]
           have x7 : Ext w3 (w6.alloc (.cells #[.string s_documents, .int .i64 g6.k, .string g6.x, .float .f64 g6.d, .bool g6.y, .slice g6.ka g6.n g6.kc, .slice g6.ca g6.m g6.cc] 86)) := ext_alloc hx6 _
           have hbq : Box (w6.alloc (.cells #[.string s_documents, .int .i64 g6.k, .string g6.x, .float .f64 g6.d, .bool g6.y, .slice g6.ka g6.n g6.kc, .slice g6.ca g6.m g6.cc] 86)) w6.heap.size #[.string s_documents, .int .i64 g6.k, .string g6.x, .float .f64 g6.d, .bool g6.y, .slice g6.ka g6.n g6.kc, .slice g6.ca g6.m g6.cc] 86 := Box.at rfl _ _
           have hT7 := (hT6.to (S' := fun b => b ≠ w.heap.size ∧ (Value.slice (some ⟨g1, 0, none⟩) (es0.length + 1) cap1).ownBlock ≠ some b) (fun q hq _ => ⟨by omega, fun e => by have := hqb q e; omega⟩)).ext (ext_alloc (ext_refl w6) (.cells #[.string s_documents, .int .i64 g6.k, .string g6.x, .float .f64 g6.d, .bool g6.y, .slice g6.ka g6.n g6.kc, .slice g6.ca g6.m g6.cc] 86)))
        | (at_builtin; have _t := tokB; clear _t tokB; refine list_append_pairs _ rfl _ _ rfl (w.heap.size + 1) _ (es0 ++ [(s_field, gt)]) rfl (HO3.out.ext x7) w6.heap.size 0 1 [(s_documents, g6)] (by simp) rfl (fun i p hp => by
             cases i with
             | zero => simp at hp; subst hp; exact ⟨hbq.cell 0 _ rfl, hbq.cell 1 _ rfl, hbq.cell 2 _ rfl, hbq.cell 3 _ rfl, hbq.cell 4 _ rfl, hbq.cell 5 _ rfl, hbq.cell 6 _ rfl⟩
             | succ i => simp at hp) (by simp; omega) (Nat.le_trans (by omega) x7.sz) ?_; intro g8 cap8 w8 hown hgrow hlies hglt)
        | fail)
      have hPk8 := pk_plus (g := g8) (cap := cap8) (n := (es0 ++ [(s_field, gt)]).length + 1) (k := s_documents) (hPk3.out.ext x7) hT7 hgrow hlies
      have hx8 : Ext w w8 := ext_grown (ext_trans hx3w x7) hgrow (fun k hk => by have := (World.ownsRow.lt HO3.out k hk).1; omega)
      have hb8 := (hb03.ext x7).grown hgrow (fun e => by have := hqb _ e.symm; omega)
      have hsz8 : w.heap.size + 1 ≤ w8.heap.size := Nat.le_trans (Nat.le_trans (by omega) x7.sz) hgrow.size
      go_meet
      case rel =>
        have hne : docsL u = [(s_documents, listT u)] := by
          unfold docsL
          cases u with
          | nil => simp at hul; omega
          | cons _ _ => rfl
        refine ⟨hx8, hsz8, hb8, (es0 ++ [(s_field, gt)]) ++ [(s_documents, g6)], _, rfl, by simp; omega, by simpa using hown, ?_⟩
        rw [hne]
        simpa using hPk8
    case neg =>
      go_wp2_with fail
      go_meet
      case rel =>
        have hne : docsL u = [] := by
          have : u = [] := List.length_eq_zero_iff.1 (by omega)
          rw [this]; rfl
        refine ⟨hx3w, hsz3, hb03, (es0 ++ [(s_field, gt)]), _, rfl, by simp; omega, by simpa using HO3.out, ?_⟩
        rw [hne, List.append_nil]
        exact hPk3.out
  case rest =>
    obtain ⟨hxc, hszc, hb0c, es, qv, hqv, hesl, hOc, hPc⟩ := hcut
    subst hqv
    obtain ⟨pa, pc, hpe, hPA⟩ := hOc.pairs (S := fun b => b ≠ w.heap.size) hPc.1 (fun b hb => by have := (World.ownsRow.lt hOc b hb).1; omega) (fun i e p he hp => ⟨(hPc.2 i e p he hp).1, (hPc.2 i e p he hp).2.to (fun b hb _ => hb.1)⟩)
    have hpl0 : (paramsL rPercolate ps ++ [(s_field, textT f)] ++ docsL u).length = es.length := hPc.1
    rw [hpl0] at hpe hPA
    subst hpe
    have hB := Lib.hid (beside_any s_percolate _ _ _ _ wc hPA (by omega))
    clear hOc hPc hPA
    have hl0c := hb0c.lt
    go_wp2_with (first
      | (go_at_call 57; refine hB.out.mono ?_; rintro r w9 ⟨g2, rfl, hT9, hx9⟩; simp only [El.val]
         have hb9 := hb0c.ext hx9; obtain ⟨o0, o1, o2, o3, o4, o5⟩ := hb9.six; have f0 := hb9.free 0; have f1 := hb9.free 1; have f2 := hb9.free 2; have f3 := hb9.free 3; have f4 := hb9.free 4; have f5 := hb9.free 5)
      | fail)
    have hx9w := ext_trans hxc hx9
    refine post_tree rfl rfl (hb9.sto g2) rfl ⟨g2, rfl, ?_, ext_sto6 hx9w (by omega) _ _ _ _ _ _⟩
    refine TreeAt.keep (S := fun b => b ≠ w.heap.size) (fun _ _ _ => trivial) (keeps_sto w9 (fun h => h rfl) g2) _ ?_
    have hfin := hT9.to (S' := fun b => b ≠ w.heap.size) (fun q hq _ => by rcases hq with hq | hq; exact hq.1; omega)
    simp only [List.append_assoc, List.cons_append, List.nil_append] at hfin ⊢
    exact hfin
/-- What is read: one document becomes documents. -/
def readL (qs : List (ByteArray × T)) : List (ByteArray × T) := match lastOf qs s_document with
  | some t => (qs.filter fun p => !seq p.1 s_document) ++ [(s_documents, listT [t])]
  | none => qs
theorem mapT_plus (l : List (ByteArray × T)) (k : ByteArray) (t : T) : mapT (l ++ [(k, t)]) = withT (mapT l) k t := by
  unfold mapT
  rw [List.foldl_append]
  rfl
theorem kids_one {S : Nat → Prop} {w : World} {b : Nat} {e : El} {t : T} (hb : Box w b e.arr 30) (hS : S b) (ht : TreeAt S w e t) : KidsAt S w (some ⟨b, 0, none⟩) 1 1 [t] := by
  refine KidsAt.of rfl (Nat.le_refl _) (by simp [maxLen]) fun i q hi => ?_
  cases i with
  | zero =>
    simp at hi
    subst hi
    exact ⟨b, 0, e, rfl, hS, ⟨hb.cell 0 _ rfl, hb.cell 1 _ rfl, hb.cell 2 _ rfl, hb.cell 3 _ rfl, hb.cell 4 _ rfl, hb.cell 5 _ rfl⟩, ht⟩
  | succ i => simp at hi
set_option maxRecDepth 20000 in
set_option maxHeartbeats 8000000 in
theorem readPercolate_any {S : Nat → Prop} (qs : List (ByteArray × T)) (e : El) (w : World) (h : TreeAt S w e (mapT [(s_percolate, mapT qs)]))
    (hq : ∀ k t, lastOf qs k = some t → t.kind ≠ 0 ∧ (hasS [s_documents] k = true → t.kind = 4 ∧ t.kids.length ≠ 0)) (hlen : qs.length ≤ 65536) :
    Calls Try.prog 19 #[e.val] w fun r w' => ∃ g : El, r = .returned g.val ∧ TreeAt (fun _ => True) w' g (mapT [(s_percolate, mapT (readL qs))]) ∧ Ext w w' := by
  have h := h.to (S' := fun b => b < w.heap.size) (fun _ _ h2 => h2)
  have HQ := Lib.hid hq
  have HT := Lib.hid (fun (w' : World) (x : Ext w w') => TreeAt.ext x h)
  clear h hq
  have hWi := Lib.hid (fun (w' : World) (x : Ext w w') => within_one s_percolate qs e w' (HT.out w' x))
  have hb0 : Box ((w.alloc (.cells e.arr 30)).alloc (.cells (El.arr El0) 30)) w.heap.size e.arr 30 := (Box.at rfl _ _).alloc _
  have hbr : Box ((w.alloc (.cells e.arr 30)).alloc (.cells (El.arr El0) 30)) (w.heap.size + 1) (El.arr El0) 30 := Box.at (by simp) _ _
  have hx0 : Ext w ((w.alloc (.cells e.arr 30)).alloc (.cells (El.arr El0) 30)) := ext_alloc (ext_alloc (ext_refl _) _) _
  have hs0 : ((w.alloc (.cells e.arr 30)).alloc (.cells (El.arr El0) 30)).heap.size = w.heap.size + 1 + 1 := by simp
  have HR := Lib.hid (fun (w' : World) (ln : Nat) (x : Ext w w') (hbl : Box w' ln #[.string s_documents] 9) => rb_any (S := fun b => b < w.heap.size ∨ b = ln) s_percolate qs e (some ⟨ln, 0, none⟩) 1 1 [s_documents] w' ((HT.out w' x).to (fun _ hb _ => .inl hb)) ⟨rfl, Nat.le_refl _, by simp [maxLen], fun i f hf => by
    cases i with
    | zero => simp at hf; subst hf; exact ⟨_, 0, rfl, .inr rfl, hbl.cell 0 _ rfl⟩
    | succ i => simp at hf⟩ HQ.out hlen)
  simp only [El.val]
  go_enter Try.func19, Try.ntmps19
  cases hlo : lastOf qs s_document with
  | some t =>
    have hread : readL qs = (qs.filter fun p => !seq p.1 s_document) ++ [(s_documents, listT [t])] := by unfold readL; rw [hlo]
    go_upto_region 4 with (first
      | (go_at_call 51; refine (hWi.out _ hx0).mono ?_; rintro r w1 ⟨gx, rfl, hTx0, hx1⟩; simp only [El.val]
         have hTx : TreeAt (fun b => b ≠ w.heap.size + 1) w1 gx (mapT qs) := hTx0.to (fun b hb _ => by have := hb.1; omega)
         have x13 : Ext w1 (w1.alloc (.cells gx.arr 30)) := ext_alloc (ext_refl _) _
         have hbx : Box (w1.alloc (.cells gx.arr 30)) w1.heap.size gx.arr 30 := Box.at rfl _ _
         have hbr3 := (hbr.ext hx1).ext x13
         obtain ⟨y0, y1, y2, y3, y4, y5⟩ := hbx.six
         have hAt := Lib.hid (at_map qs gx s_document _ (hTx.ext x13)))
      | (go_at_call 71; refine hAt.out.mono ?_; rintro r w2 ⟨gd, rfl, hTd, hx2⟩; rw [hlo] at hTd ⊢; simp only [El.val, Option.isSome, Option.getD] at hTd ⊢
         have hbz2 := (hb0.ext hx1).ext (ext_trans x13 hx2)
         obtain ⟨v0, v1, v2, v3, v4, v5⟩ := hbz2.six
         have hlz2 := hbz2.lt)
      | fail)
    have hxd : Ext w2 (w2.alloc (.cells gd.arr 30)) := ext_alloc (ext_refl _) _
    have hbd : Box (w2.alloc (.cells gd.arr 30)) w2.heap.size gd.arr 30 := Box.at rfl _ _
    have hbx5 := (hbx.ext hx2).ext hxd
    have hbr5 := (hbr3.ext hx2).ext hxd
    have hTx5 := Lib.hid (((hTx.ext x13).ext hx2).ext hxd)
    have hTd5 := Lib.hid (hTd.ext hxd)
    have hx5 : Ext w (w2.alloc (.cells gd.arr 30)) := ext_trans (ext_trans (ext_trans (ext_trans hx0 hx1) x13) hx2) hxd
    have hs5 : w1.heap.size < w2.heap.size := by have := hx2.sz; simp at this; omega
    have hs15 := hx1.sz
    rw [hs0] at hs15
    clear hTx hTd
    generalize hww5 : (w2.alloc (.cells gd.arr 30)) = w5 at hbd hbx5 hbr5 hTx5 hTd5 hx5 ⊢
    have hszz := hbd.lt
    clear hww5 hxd
    refine wp_region_tree (fun (w' : World) => Six w' w1.heap.size gx ∧ Six w' w2.heap.size gd) [0, 2, 6] (.held 0 (.held 2 (.two 1 (.one 3 (.one 4 (.one 5 (.held 6 (.one 7 (.one 8 (.one 9 (.done)))))))) 3 (.one 1 (.one 4 (.one 5 (.held 6 (.one 7 (.one 8 (.one 9 (.done))))))))))) (by kernel_rfl) (by kernel_rfl) (fun d _ _ _ _ h => by cases d <;> exact h) (by kernel_rfl) ?_
    have hS : (fun (w' : World) => Six w' w1.heap.size gx ∧ Six w' w2.heap.size gd) _ := ⟨Six.ext (ext_drew (ext_refl w5)) hbx5.Six, Six.ext (ext_drew (ext_refl w5)) hbd.Six⟩
    (apply tr_held rfl (by assumption) rfl; (focus ((intro w' hS'); go_simp; (try with_reducible rfl))); (try simp only [Act.put, List.setIfInBounds_toArray, List.set_cons_zero, List.set_cons_succ]))
    (apply tr_held rfl (by assumption) rfl; (focus ((intro w' hS'); go_simp; (try with_reducible rfl))); (try simp only [Act.put, List.setIfInBounds_toArray, List.set_cons_zero, List.set_cons_succ]))
    refine tr_two ?_ ?_
    · skip
      (apply tr_loud rfl rfl; intro K hK; go_simp)
      have hyw : Ext w5 w5.drew := ext_drew (ext_refl w5)
      refine (without_any gx qs s_document _ (hTx5.out.ext hyw) hlen).mono ?_
      rintro r wa ⟨ga, rfl, hTa, hxa⟩
      have hTa := hTa.to (S' := (fun b => b ≠ w.heap.size + 1)) (fun b hb _ => by have h9 := hyw.sz; rcases hb with hb | hb; exact hb; omega)
      have hy1 : Ext w5 wa := ext_trans hyw hxa
      have hS1 : (fun (w' : World) => Six w' w1.heap.size gx ∧ Six w' w2.heap.size gd) wa := ⟨Six.ext hy1 hbx5.Six, Six.ext hy1 hbd.Six⟩
      refine hK _ _ (fun _ => hS1) ?_
      clear hK K
      try simp only [El.val]
      (try simp only [Act.put, List.setIfInBounds_toArray, List.set_cons_zero, List.set_cons_succ])
      (apply tr_loud rfl rfl; intro K hK; go_simp)
      have hbl : Box (wa.alloc (.cells gd.arr 30)) wa.heap.size gd.arr 30 := Box.at rfl _ _
      have hyl0 : Ext w5 wa := hy1
      have hy2 : Ext w5 (wa.alloc (.cells gd.arr 30)) := ext_alloc hyl0 _
      have hKl : KidsAt (fun b => b ≠ w.heap.size + 1) (wa.alloc (.cells gd.arr 30)) (some ⟨wa.heap.size, 0, none⟩) 1 1 [t] := kids_one hbl (by have h9 := hyl0.sz; omega) (hTd5.out.ext hy2)
      have hS2 : (fun (w' : World) => Six w' w1.heap.size gx ∧ Six w' w2.heap.size gd) (wa.alloc (.cells gd.arr 30)) := ⟨Six.ext hy2 hbx5.Six, Six.ext hy2 hbd.Six⟩
      refine hK _ _ (fun _ => hS2) ?_
      clear hK K
      try simp only [El.val]
      (try simp only [Act.put, List.setIfInBounds_toArray, List.set_cons_zero, List.set_cons_succ])
      (apply tr_loud rfl rfl; intro K hK; go_simp)
      refine (list_any _ 1 1 [t] _ (hKl.ext (ext_refl _))).mono ?_
      rintro r wl ⟨gl, rfl, hTl, hxl⟩
      have hy3 : Ext w5 wl := ext_trans hy2 hxl
      have hS3 : (fun (w' : World) => Six w' w1.heap.size gx ∧ Six w' w2.heap.size gd) wl := ⟨Six.ext hy3 hbx5.Six, Six.ext hy3 hbd.Six⟩
      refine hK _ _ (fun _ => hS3) ?_
      clear hK K
      try simp only [El.val]
      (try simp only [Act.put, List.setIfInBounds_toArray, List.set_cons_zero, List.set_cons_succ])
      (apply tr_loud rfl rfl; intro K hK; go_simp)
      have hml := mapT_len (qs.filter fun p => !seq p.1 s_document)
      have hfl := List.length_filter_le (fun p : ByteArray × T => !seq p.1 s_document) qs
      refine (with_any ga (mapT (qs.filter fun p => !seq p.1 s_document)) s_documents gl (listT [t]) _ (hTa.ext (ext_trans (ext_alloc (ext_refl _) _) hxl)) hTl (by omega) (by omega) (by omega)).mono ?_
      rintro r wv ⟨gv, rfl, hTv, hxv⟩
      rw [← mapT_plus, ← hread] at hTv
      have hTv := hTv.to (S' := (fun b => b ≠ w.heap.size + 1)) (fun b hb _ => by have h9 := hy3.sz; rcases hb with hb | hb; exact hb; omega)
      have hy4 : Ext w5 wv := ext_trans hy3 hxv
      have hS4 : (fun (w' : World) => Six w' w1.heap.size gx ∧ Six w' w2.heap.size gd) wv := ⟨Six.ext hy4 hbx5.Six, Six.ext hy4 hbd.Six⟩
      refine hK _ _ (fun _ => hS4) ?_
      clear hK K
      try simp only [El.val]
      (try simp only [Act.put, List.setIfInBounds_toArray, List.set_cons_zero, List.set_cons_succ])
      (apply tr_held rfl (by assumption) rfl; (focus ((intro w' hS'); go_simp; (try with_reducible rfl))); (try simp only [Act.put, List.setIfInBounds_toArray, List.set_cons_zero, List.set_cons_succ]))
      (apply tr_loud rfl rfl; intro K hK; go_simp)
      have hyv := hy4
      have hM := map_any (S := (fun b => b ≠ w.heap.size + 1)) (some ⟨wv.heap.size, 0, none⟩) 1 1 [(s_percolate, mapT (readL qs))] (wv.alloc (.cells #[.string s_percolate, .int .i64 gv.k, .string gv.x, .float .f64 gv.d, .bool gv.y, .slice gv.ka gv.n gv.kc, .slice gv.ca gv.m gv.cc] 86)) (pairs_one (Box.at rfl _ _) (by have h9 := hyv.sz; omega) (hTv.ext (ext_alloc (ext_refl wv) _))) (by decide)
      have hy5 : Ext w5 (wv.alloc (.cells #[.string s_percolate, .int .i64 gv.k, .string gv.x, .float .f64 gv.d, .bool gv.y, .slice gv.ka gv.n gv.kc, .slice gv.ca gv.m gv.cc] 86)) := ext_alloc hy4 _
      have hS5 : (fun (w' : World) => Six w' w1.heap.size gx ∧ Six w' w2.heap.size gd) (wv.alloc (.cells #[.string s_percolate, .int .i64 gv.k, .string gv.x, .float .f64 gv.d, .bool gv.y, .slice gv.ka gv.n gv.kc, .slice gv.ca gv.m gv.cc] 86)) := ⟨Six.ext hy5 hbx5.Six, Six.ext hy5 hbd.Six⟩
      refine hK _ _ (fun _ => hS5) ?_
      clear hK K
      try simp only [El.val]
      (try simp only [Act.put, List.setIfInBounds_toArray, List.set_cons_zero, List.set_cons_succ])
      (apply tr_loud rfl rfl; intro K hK; go_simp)
      refine hM.mono ?_
      rintro r w9 ⟨g2, rfl, hT9, hx9⟩
      have hy6 : Ext w5 w9 := ext_trans hy5 hx9
      have hS6 : (fun (w' : World) => Six w' w1.heap.size gx ∧ Six w' w2.heap.size gd) w9 := ⟨Six.ext hy6 hbx5.Six, Six.ext hy6 hbd.Six⟩
      refine hK _ _ (fun _ => hS6) ?_
      clear hK K
      try simp only [El.val]
      (try simp only [Act.put, List.setIfInBounds_toArray, List.set_cons_zero, List.set_cons_succ])
      have hb9 := hbr5.ext hy6; obtain ⟨o0, o1, o2, o3, o4, o5⟩ := hb9.six; have f0 := hb9.free 0; have f1 := hb9.free 1; have f2 := hb9.free 2; have f3 := hb9.free 3; have f4 := hb9.free 4; have f5 := hb9.free 5; have hl9 := hb9.lt
      (apply tr_last rfl rfl (by kernel_rfl); intro K hK; go_simp; refine hK _ _ ?_; clear hK K; (try simp only [Act.put, List.setIfInBounds_toArray, List.set_cons_zero, List.set_cons_succ]))
      refine tr_end ?_
      go_wp2_with fail
      have hx9w : Ext w w9 := ext_trans hx5 hy6
      have h9s := (hy6).sz
      refine post_tree rfl rfl (hb9.sto g2) rfl ⟨g2, rfl, ?_, ext_sto6 hx9w (by omega) _ _ _ _ _ _⟩
      refine TreeAt.keep (S := fun b => b ≠ w.heap.size + 1) (fun _ _ _ => trivial) (keeps_sto w9 (fun h => h rfl) g2) _ ?_
      rw [hread] at hT9
      exact hT9.to (fun q hq _ => by
        rcases hq with hq | hq
        · exact hq.1
        · have h8 := hyv.sz
          simp at hq
          omega)
    · skip
      (apply tr_loud rfl rfl; intro K hK; go_simp)
      have hbl : Box (w5.drew.alloc (.cells gd.arr 30)) w5.drew.heap.size gd.arr 30 := Box.at rfl _ _
      have hyl0 : Ext w5 w5.drew := ext_drew (ext_refl w5)
      have hy1 : Ext w5 (w5.drew.alloc (.cells gd.arr 30)) := ext_alloc hyl0 _
      have hKl : KidsAt (fun b => b ≠ w.heap.size + 1) (w5.drew.alloc (.cells gd.arr 30)) (some ⟨w5.drew.heap.size, 0, none⟩) 1 1 [t] := kids_one hbl (by have h9 := hyl0.sz; omega) (hTd5.out.ext hy1)
      have hS1 : (fun (w' : World) => Six w' w1.heap.size gx ∧ Six w' w2.heap.size gd) (w5.drew.alloc (.cells gd.arr 30)) := ⟨Six.ext hy1 hbx5.Six, Six.ext hy1 hbd.Six⟩
      refine hK _ _ (fun _ => hS1) ?_
      clear hK K
      try simp only [El.val]
      (try simp only [Act.put, List.setIfInBounds_toArray, List.set_cons_zero, List.set_cons_succ])
      (apply tr_loud rfl rfl; intro K hK; go_simp)
      have hyw : Ext w5 (w5.drew.alloc (.cells gd.arr 30)) := hy1
      refine (without_any gx qs s_document _ (hTx5.out.ext hyw) hlen).mono ?_
      rintro r wa ⟨ga, rfl, hTa, hxa⟩
      have hTa := hTa.to (S' := (fun b => b ≠ w.heap.size + 1)) (fun b hb _ => by have h9 := hyw.sz; rcases hb with hb | hb; exact hb; omega)
      have hy2 : Ext w5 wa := ext_trans hyw hxa
      have hS2 : (fun (w' : World) => Six w' w1.heap.size gx ∧ Six w' w2.heap.size gd) wa := ⟨Six.ext hy2 hbx5.Six, Six.ext hy2 hbd.Six⟩
      refine hK _ _ (fun _ => hS2) ?_
      clear hK K
      try simp only [El.val]
      (try simp only [Act.put, List.setIfInBounds_toArray, List.set_cons_zero, List.set_cons_succ])
      (apply tr_loud rfl rfl; intro K hK; go_simp)
      refine (list_any _ 1 1 [t] _ (hKl.ext (hxa))).mono ?_
      rintro r wl ⟨gl, rfl, hTl, hxl⟩
      have hy3 : Ext w5 wl := ext_trans hy2 hxl
      have hS3 : (fun (w' : World) => Six w' w1.heap.size gx ∧ Six w' w2.heap.size gd) wl := ⟨Six.ext hy3 hbx5.Six, Six.ext hy3 hbd.Six⟩
      refine hK _ _ (fun _ => hS3) ?_
      clear hK K
      try simp only [El.val]
      (try simp only [Act.put, List.setIfInBounds_toArray, List.set_cons_zero, List.set_cons_succ])
      (apply tr_loud rfl rfl; intro K hK; go_simp)
      have hml := mapT_len (qs.filter fun p => !seq p.1 s_document)
      have hfl := List.length_filter_le (fun p : ByteArray × T => !seq p.1 s_document) qs
      refine (with_any ga (mapT (qs.filter fun p => !seq p.1 s_document)) s_documents gl (listT [t]) _ (hTa.ext (hxl)) hTl (by omega) (by omega) (by omega)).mono ?_
      rintro r wv ⟨gv, rfl, hTv, hxv⟩
      rw [← mapT_plus, ← hread] at hTv
      have hTv := hTv.to (S' := (fun b => b ≠ w.heap.size + 1)) (fun b hb _ => by have h9 := hy3.sz; rcases hb with hb | hb; exact hb; omega)
      have hy4 : Ext w5 wv := ext_trans hy3 hxv
      have hS4 : (fun (w' : World) => Six w' w1.heap.size gx ∧ Six w' w2.heap.size gd) wv := ⟨Six.ext hy4 hbx5.Six, Six.ext hy4 hbd.Six⟩
      refine hK _ _ (fun _ => hS4) ?_
      clear hK K
      try simp only [El.val]
      (try simp only [Act.put, List.setIfInBounds_toArray, List.set_cons_zero, List.set_cons_succ])
      (apply tr_held rfl (by assumption) rfl; (focus ((intro w' hS'); go_simp; (try with_reducible rfl))); (try simp only [Act.put, List.setIfInBounds_toArray, List.set_cons_zero, List.set_cons_succ]))
      (apply tr_loud rfl rfl; intro K hK; go_simp)
      have hyv := hy4
      have hM := map_any (S := (fun b => b ≠ w.heap.size + 1)) (some ⟨wv.heap.size, 0, none⟩) 1 1 [(s_percolate, mapT (readL qs))] (wv.alloc (.cells #[.string s_percolate, .int .i64 gv.k, .string gv.x, .float .f64 gv.d, .bool gv.y, .slice gv.ka gv.n gv.kc, .slice gv.ca gv.m gv.cc] 86)) (pairs_one (Box.at rfl _ _) (by have h9 := hyv.sz; omega) (hTv.ext (ext_alloc (ext_refl wv) _))) (by decide)
      have hy5 : Ext w5 (wv.alloc (.cells #[.string s_percolate, .int .i64 gv.k, .string gv.x, .float .f64 gv.d, .bool gv.y, .slice gv.ka gv.n gv.kc, .slice gv.ca gv.m gv.cc] 86)) := ext_alloc hy4 _
      have hS5 : (fun (w' : World) => Six w' w1.heap.size gx ∧ Six w' w2.heap.size gd) (wv.alloc (.cells #[.string s_percolate, .int .i64 gv.k, .string gv.x, .float .f64 gv.d, .bool gv.y, .slice gv.ka gv.n gv.kc, .slice gv.ca gv.m gv.cc] 86)) := ⟨Six.ext hy5 hbx5.Six, Six.ext hy5 hbd.Six⟩
      refine hK _ _ (fun _ => hS5) ?_
      clear hK K
      try simp only [El.val]
      (try simp only [Act.put, List.setIfInBounds_toArray, List.set_cons_zero, List.set_cons_succ])
      (apply tr_loud rfl rfl; intro K hK; go_simp)
      refine hM.mono ?_
      rintro r w9 ⟨g2, rfl, hT9, hx9⟩
      have hy6 : Ext w5 w9 := ext_trans hy5 hx9
      have hS6 : (fun (w' : World) => Six w' w1.heap.size gx ∧ Six w' w2.heap.size gd) w9 := ⟨Six.ext hy6 hbx5.Six, Six.ext hy6 hbd.Six⟩
      refine hK _ _ (fun _ => hS6) ?_
      clear hK K
      try simp only [El.val]
      (try simp only [Act.put, List.setIfInBounds_toArray, List.set_cons_zero, List.set_cons_succ])
      have hb9 := hbr5.ext hy6; obtain ⟨o0, o1, o2, o3, o4, o5⟩ := hb9.six; have f0 := hb9.free 0; have f1 := hb9.free 1; have f2 := hb9.free 2; have f3 := hb9.free 3; have f4 := hb9.free 4; have f5 := hb9.free 5; have hl9 := hb9.lt
      (apply tr_last rfl rfl (by kernel_rfl); intro K hK; go_simp; refine hK _ _ ?_; clear hK K; (try simp only [Act.put, List.setIfInBounds_toArray, List.set_cons_zero, List.set_cons_succ]))
      refine tr_end ?_
      go_wp2_with fail
      have hx9w : Ext w w9 := ext_trans hx5 hy6
      have h9s := (hy6).sz
      refine post_tree rfl rfl (hb9.sto g2) rfl ⟨g2, rfl, ?_, ext_sto6 hx9w (by omega) _ _ _ _ _ _⟩
      refine TreeAt.keep (S := fun b => b ≠ w.heap.size + 1) (fun _ _ _ => trivial) (keeps_sto w9 (fun h => h rfl) g2) _ ?_
      rw [hread] at hT9
      exact hT9.to (fun q hq _ => by
        rcases hq with hq | hq
        · exact hq.1
        · have h8 := hyv.sz
          simp at hq
          omega)
  | none =>
    have hread : readL qs = qs := by unfold readL; rw [hlo]
    go_wp2_with (first
      | (go_at_call 51; refine (hWi.out _ hx0).mono ?_; rintro r w1 ⟨gx, rfl, hTx0, hx1⟩; simp only [El.val]
         have hTx : TreeAt (fun b => b ≠ w.heap.size + 1) w1 gx (mapT qs) := hTx0.to (fun b hb _ => by have := hb.1; omega)
         have x13 : Ext w1 (w1.alloc (.cells gx.arr 30)) := ext_alloc (ext_refl _) _
         have hbx : Box (w1.alloc (.cells gx.arr 30)) w1.heap.size gx.arr 30 := Box.at rfl _ _
         have hbr3 := (hbr.ext hx1).ext x13
         obtain ⟨y0, y1, y2, y3, y4, y5⟩ := hbx.six
         have hAt := Lib.hid (at_map qs gx s_document _ (hTx.ext x13)))
      | (go_at_call 71; refine hAt.out.mono ?_; rintro r w2 ⟨gd, rfl, hTd, hx2⟩; rw [hlo] at hTd ⊢; simp only [El.val, Option.isSome, Option.getD] at hTd ⊢
         have hbz2 := (hb0.ext hx1).ext (ext_trans x13 hx2)
         obtain ⟨v0, v1, v2, v3, v4, v5⟩ := hbz2.six
         have hlz2 := hbz2.lt)
      | (go_at_call 14; refine (HR.out ((w2.alloc (.cells gd.arr 30)).alloc (.cells #[.string s_documents] 9)) (w2.heap.size + 1) (ext_alloc (ext_alloc (ext_trans (ext_trans (ext_trans hx0 hx1) x13) hx2) _) _) (Box.at (by simp) _ _)).mono ?_; rintro r w9 ⟨g2, rfl, hT9, hx9⟩; simp only [El.val]
         have hb9 := (((hbr3.ext hx2).alloc _).alloc _).ext hx9; obtain ⟨o0, o1, o2, o3, o4, o5⟩ := hb9.six; have f0 := hb9.free 0; have f1 := hb9.free 1; have f2 := hb9.free 2; have f3 := hb9.free 3; have f4 := hb9.free 4; have f5 := hb9.free 5)
      | fail)
    have hs1 := hx1.sz
    have hs2 := hx2.sz
    have hx9w : Ext w w9 := ext_trans (ext_alloc (ext_alloc (ext_trans (ext_trans (ext_trans hx0 hx1) x13) hx2) _) _) hx9
    refine post_tree rfl rfl (hb9.sto g2) rfl ⟨g2, rfl, ?_, ext_sto6 hx9w (by omega) _ _ _ _ _ _⟩
    refine TreeAt.keep (S := fun b => b ≠ w.heap.size + 1) (fun _ _ _ => trivial) (keeps_sto w9 (fun h => h rfl) g2) _ ?_
    exact hT9.to (fun q hq _ => by
      simp at hs1 hs2 hq
      omega)
end Go.Proofs.Ytdjojnlejkljdaa

namespace Go.Proofs.Ytdjojnlejkljdaa
open Go.RowKit

theorem keys_L (k : ByteArray) (o : Option T) : KeysIn (jTree (jL k o)) [k] := fun p hp => by
  cases o with
  | none => simp [jL] at hp
  | some t =>
    unfold jL at hp
    dsimp only at hp
    split at hp
    · simp at hp; subst hp; simp
    · simp at hp
theorem noNull_L (k : ByteArray) (o : Option T) : NoNull (jL k o) := fun p hp => by
  cases o with
  | none => simp [jL] at hp
  | some t =>
    unfold jL at hp
    dsimp only at hp
    split at hp
    · simp [treeJ, numT] at hp; subst hp; simp [T.kind]
    · simp at hp
theorem jL_len (k : ByteArray) (o : Option T) : (jL k o).length ≤ 1 := by
  cases o with
  | none => simp [jL]
  | some t => unfold jL; dsimp only; split <;> simp
theorem jL_same {rs : List (ByteArray × ByteArray)} {ps : List (ByteArray × T)} (hF : FitsP rs ps) {k : ByteArray} (hk : kindL rs k = ⟨#[119]⟩) : SameL (jTree (jL k (lastOf ps k))) (param ps (k, ⟨#[119]⟩)).toList := by
  have h := jW_same hF hk
  have e : jTree (jL k (lastOf ps k)) = jTree (jW k (lastOf ps k)) := by
    cases lastOf ps k with
    | none => rfl
    | some t =>
      unfold jL jW
      dsimp only
      cases floatToIntVal .f64 t.num .i64 <;> simp [jTree, treeJ]
  rw [e]
  exact h
theorem perc_parts (f : ByteArray) (u : List T) (ps : List (ByteArray × T)) : jTree ([(s_field, J.str f)] ++ jT s_plain_name (lastOf ps s_plain_name) ++ jD (jFulls u) ++ jT s_index (lastOf ps s_index) ++ jT s_id (lastOf ps s_id) ++ jT s_routing (lastOf ps s_routing) ++ jT s_preference (lastOf ps s_preference) ++ jL s_version (lastOf ps s_version)) = jTree ([(s_field, J.str f)] ++ jT s_plain_name (lastOf ps s_plain_name)) ++ jTree (jD (jFulls u)) ++ jTree (jT s_index (lastOf ps s_index) ++ jT s_id (lastOf ps s_id) ++ jT s_routing (lastOf ps s_routing) ++ jT s_preference (lastOf ps s_preference) ++ jL s_version (lastOf ps s_version)) := by
  unfold jTree
  simp only [List.map_append, List.append_assoc]
theorem perc_keys0 (f : ByteArray) (ps : List (ByteArray × T)) : KeysIn (jTree ([(s_field, J.str f)] ++ jT s_plain_name (lastOf ps s_plain_name))) ([s_field] ++ [s_plain_name]) := by
  have e : jTree ([(s_field, J.str f)] ++ jT s_plain_name (lastOf ps s_plain_name)) = jTree [(s_field, J.str f)] ++ jTree (jT s_plain_name (lastOf ps s_plain_name)) := by unfold jTree; rw [List.map_append]
  rw [e]
  exact KeysIn.append (keys_one _ _) (keys_T _ _)
theorem perc_keys1 (ps : List (ByteArray × T)) : KeysIn (jTree (jT s_index (lastOf ps s_index) ++ jT s_id (lastOf ps s_id) ++ jT s_routing (lastOf ps s_routing) ++ jT s_preference (lastOf ps s_preference) ++ jL s_version (lastOf ps s_version))) ([s_index] ++ [s_id] ++ [s_routing] ++ [s_preference] ++ [s_version]) := by
  have e : jTree (jT s_index (lastOf ps s_index) ++ jT s_id (lastOf ps s_id) ++ jT s_routing (lastOf ps s_routing) ++ jT s_preference (lastOf ps s_preference) ++ jL s_version (lastOf ps s_version)) = jTree (jT s_index (lastOf ps s_index)) ++ jTree (jT s_id (lastOf ps s_id)) ++ jTree (jT s_routing (lastOf ps s_routing)) ++ jTree (jT s_preference (lastOf ps s_preference)) ++ jTree (jL s_version (lastOf ps s_version)) := by unfold jTree; rw [List.map_append, List.map_append, List.map_append, List.map_append]
  rw [e]
  exact KeysIn.append (KeysIn.append (KeysIn.append (KeysIn.append (keys_T _ _) (keys_T _ _)) (keys_T _ _)) (keys_T _ _)) (keys_L _ _)
theorem keys_filter {l : List (ByteArray × T)} {L : List ByteArray} (h : KeysIn l L) {k : ByteArray} (hk : k ∉ L) : (l.filter fun p => !seq p.1 k) = l := by
  rw [List.filter_eq_self]
  intro p hp
  have : seq p.1 k = false := by
    rw [seq_false]
    intro e
    exact hk (e ▸ h p hp)
  simp [this]
theorem perc_none0 (f : ByteArray) (ps : List (ByteArray × T)) {k : ByteArray} (hk : k ∉ [s_field] ++ [s_plain_name]) : lastOf (jTree ([(s_field, J.str f)] ++ jT s_plain_name (lastOf ps s_plain_name))) k = none := (perc_keys0 f ps).none hk
theorem perc_none1 (ps : List (ByteArray × T)) {k : ByteArray} (hk : k ∉ [s_index] ++ [s_id] ++ [s_routing] ++ [s_preference] ++ [s_version]) : lastOf (jTree (jT s_index (lastOf ps s_index) ++ jT s_id (lastOf ps s_id) ++ jT s_routing (lastOf ps s_routing) ++ jT s_preference (lastOf ps s_preference) ++ jL s_version (lastOf ps s_version))) k = none := (perc_keys1 ps).none hk
/-- What is read of what the builder gives. -/
theorem perc_read (f : ByteArray) (u : List T) (ps : List (ByteArray × T)) : (u = [] ∧ readL (jTree ([(s_field, J.str f)] ++ jT s_plain_name (lastOf ps s_plain_name) ++ jD (jFulls u) ++ jT s_index (lastOf ps s_index) ++ jT s_id (lastOf ps s_id) ++ jT s_routing (lastOf ps s_routing) ++ jT s_preference (lastOf ps s_preference) ++ jL s_version (lastOf ps s_version))) = jTree ([(s_field, J.str f)] ++ jT s_plain_name (lastOf ps s_plain_name)) ++ jTree (jT s_index (lastOf ps s_index) ++ jT s_id (lastOf ps s_id) ++ jT s_routing (lastOf ps s_routing) ++ jT s_preference (lastOf ps s_preference) ++ jL s_version (lastOf ps s_version))) ∨ (∃ t, u = [t] ∧ readL (jTree ([(s_field, J.str f)] ++ jT s_plain_name (lastOf ps s_plain_name) ++ jD (jFulls u) ++ jT s_index (lastOf ps s_index) ++ jT s_id (lastOf ps s_id) ++ jT s_routing (lastOf ps s_routing) ++ jT s_preference (lastOf ps s_preference) ++ jL s_version (lastOf ps s_version))) = jTree ([(s_field, J.str f)] ++ jT s_plain_name (lastOf ps s_plain_name)) ++ jTree (jT s_index (lastOf ps s_index) ++ jT s_id (lastOf ps s_id) ++ jT s_routing (lastOf ps s_routing) ++ jT s_preference (lastOf ps s_preference) ++ jL s_version (lastOf ps s_version)) ++ [(s_documents, listT [treeJ (jFull t)])]) ∨ (1 < u.length ∧ readL (jTree ([(s_field, J.str f)] ++ jT s_plain_name (lastOf ps s_plain_name) ++ jD (jFulls u) ++ jT s_index (lastOf ps s_index) ++ jT s_id (lastOf ps s_id) ++ jT s_routing (lastOf ps s_routing) ++ jT s_preference (lastOf ps s_preference) ++ jL s_version (lastOf ps s_version))) = jTree ([(s_field, J.str f)] ++ jT s_plain_name (lastOf ps s_plain_name)) ++ [(s_documents, treeJ (.list (u.map jFull)))] ++ jTree (jT s_index (lastOf ps s_index) ++ jT s_id (lastOf ps s_id) ++ jT s_routing (lastOf ps s_routing) ++ jT s_preference (lastOf ps s_preference) ++ jL s_version (lastOf ps s_version))) := by
  rw [perc_parts]
  have h0 : lastOf (jTree ([(s_field, J.str f)] ++ jT s_plain_name (lastOf ps s_plain_name))) s_document = none := perc_none0 f ps (by simp only [List.mem_append, List.mem_singleton]; decide)
  have h1 : lastOf (jTree (jT s_index (lastOf ps s_index) ++ jT s_id (lastOf ps s_id) ++ jT s_routing (lastOf ps s_routing) ++ jT s_preference (lastOf ps s_preference) ++ jL s_version (lastOf ps s_version))) s_document = none := perc_none1 ps (by simp only [List.mem_append, List.mem_singleton]; decide)
  have k0 := keys_filter (perc_keys0 f ps) (k := s_document) (by simp only [List.mem_append, List.mem_singleton]; decide)
  have k1 := keys_filter (perc_keys1 ps) (k := s_document) (by simp only [List.mem_append, List.mem_singleton]; decide)
  match u with
  | [] =>
    refine .inl ⟨rfl, ?_⟩
    have e : jTree (jD (jFulls [])) = [] := rfl
    rw [e, List.append_nil]
    unfold readL
    rw [lastOf_append, h0, h1]
    rfl
  | [t] =>
    refine .inr (.inl ⟨t, rfl, ?_⟩)
    have e : jTree (jD (jFulls [t])) = [(s_document, treeJ (jFull t))] := rfl
    rw [e]
    unfold readL
    have hl : lastOf (jTree ([(s_field, J.str f)] ++ jT s_plain_name (lastOf ps s_plain_name)) ++ [(s_document, treeJ (jFull t))] ++ jTree (jT s_index (lastOf ps s_index) ++ jT s_id (lastOf ps s_id) ++ jT s_routing (lastOf ps s_routing) ++ jT s_preference (lastOf ps s_preference) ++ jL s_version (lastOf ps s_version))) s_document = some (treeJ (jFull t)) := by
      rw [lastOf_append, lastOf_append, h1]
      simp [lastOf_cons, lastOf_nil, seq_self]
    rw [hl]
    dsimp only
    rw [List.filter_append, List.filter_append, k0, k1]
    simp [seq_self]
  | t :: t2 :: r =>
    refine .inr (.inr ⟨by simp, ?_⟩)
    have e : jTree (jD (jFulls (t :: t2 :: r))) = [(s_documents, treeJ (.list ((t :: t2 :: r).map jFull)))] := by
      rw [jFulls_eq]
      rfl
    rw [e]
    unfold readL
    have hl : lastOf (jTree ([(s_field, J.str f)] ++ jT s_plain_name (lastOf ps s_plain_name)) ++ [(s_documents, treeJ (.list ((t :: t2 :: r).map jFull)))] ++ jTree (jT s_index (lastOf ps s_index) ++ jT s_id (lastOf ps s_id) ++ jT s_routing (lastOf ps s_routing) ++ jT s_preference (lastOf ps s_preference) ++ jL s_version (lastOf ps s_version))) s_document = none := by
      rw [lastOf_append, lastOf_append, h1, h0]
      have hne : seq s_documents s_document = false := seq_false.2 (by decide)
      simp [lastOf_cons, lastOf_nil, hne]
    rw [hl]
theorem perc_same0 (f : ByteArray) {ps : List (ByteArray × T)} (hF : FitsP rPercolate ps) : SameL (jTree ([(s_field, J.str f)] ++ jT s_plain_name (lastOf ps s_plain_name))) ([(s_field, textT f)] ++ (param ps (s_plain_name, ⟨#[116]⟩)).toList) := by
  unfold jTree
  rw [List.map_append]
  exact SameL.append (SameL.one s_field (sameT_self _ (okT_text f))) (jT_same hF (by rw [kindL_dec]; decide))
theorem perc_same1 {ps : List (ByteArray × T)} (hF : FitsP rPercolate ps) : SameL (jTree (jT s_index (lastOf ps s_index) ++ jT s_id (lastOf ps s_id) ++ jT s_routing (lastOf ps s_routing) ++ jT s_preference (lastOf ps s_preference) ++ jL s_version (lastOf ps s_version))) ((param ps (s_index, ⟨#[116]⟩)).toList ++ (param ps (s_id, ⟨#[116]⟩)).toList ++ (param ps (s_routing, ⟨#[116]⟩)).toList ++ (param ps (s_preference, ⟨#[116]⟩)).toList ++ (param ps (s_version, ⟨#[119]⟩)).toList) := by
  unfold jTree
  rw [List.map_append, List.map_append, List.map_append, List.map_append]
  exact SameL.append (SameL.append (SameL.append (SameL.append (jT_same hF (by rw [kindL_dec]; decide)) (jT_same hF (by rw [kindL_dec]; decide))) (jT_same hF (by rw [kindL_dec]; decide))) (jT_same hF (by rw [kindL_dec]; decide))) (jL_same hF (by rw [kindL_dec]; decide))
theorem perc_sameN (f : ByteArray) {l : List (ByteArray × T)} {ps : List (ByteArray × T)} (h : SameL l (([(s_field, textT f)] ++ (param ps (s_plain_name, ⟨#[116]⟩)).toList) ++ ((param ps (s_index, ⟨#[116]⟩)).toList ++ (param ps (s_id, ⟨#[116]⟩)).toList ++ (param ps (s_routing, ⟨#[116]⟩)).toList ++ (param ps (s_preference, ⟨#[116]⟩)).toList ++ (param ps (s_version, ⟨#[119]⟩)).toList))) : SameL l (paramsL rPercolate ps ++ [(s_field, textT f)]) := by
  let chs : Nat → Ch := fun i => match i with
    | 0 => (s_field, [(s_field, textT f)])
    | 1 => (s_plain_name, (param ps (s_plain_name, ⟨#[116]⟩)).toList)
    | 2 => (s_index, (param ps (s_index, ⟨#[116]⟩)).toList)
    | 3 => (s_id, (param ps (s_id, ⟨#[116]⟩)).toList)
    | 4 => (s_routing, (param ps (s_routing, ⟨#[116]⟩)).toList)
    | 5 => (s_preference, (param ps (s_preference, ⟨#[116]⟩)).toList)
    | 6 => (s_version, (param ps (s_version, ⟨#[119]⟩)).toList)
    | _ => (emptyS, [])
  have h0 := h
  have h1 := SameL.reorder (f := chs) [0, 1, 2, 3, 4, 5, 6] [1, 3, 2, 5, 4, 6, 0] (by decide) (show [s_field, s_plain_name, s_index, s_id, s_routing, s_preference, s_version].Nodup by decide) (by intro c hc; simp only [List.map_cons, List.map_nil, List.mem_cons, List.not_mem_nil, or_false] at hc; rcases hc with rfl | rfl | rfl | rfl | rfl | rfl | rfl <;> first | exact keys_param _ _ | exact keys_one _ _) (by simpa only [chs, flatC, List.map_cons, List.map_nil, List.flatMap_cons, List.flatMap_nil, List.append_nil, List.append_assoc, List.cons_append, List.nil_append] using h0)
  rw [params_cons, params_cons, params_cons, params_cons, params_cons, params_cons, params_nil]
  refine (show SameL _ _ from ?_)
  simpa only [chs, flatC, List.map_cons, List.map_nil, List.flatMap_cons, List.flatMap_nil, List.append_nil, List.append_assoc, List.cons_append, List.nil_append] using h1
theorem perc_sameE (f : ByteArray) (u : List T) {l : List (ByteArray × T)} {ps : List (ByteArray × T)} (h : SameL l (([(s_field, textT f)] ++ (param ps (s_plain_name, ⟨#[116]⟩)).toList) ++ ((param ps (s_index, ⟨#[116]⟩)).toList ++ (param ps (s_id, ⟨#[116]⟩)).toList ++ (param ps (s_routing, ⟨#[116]⟩)).toList ++ (param ps (s_preference, ⟨#[116]⟩)).toList ++ (param ps (s_version, ⟨#[119]⟩)).toList) ++ [(s_documents, listT u)])) : SameL l (paramsL rPercolate ps ++ [(s_field, textT f)] ++ [(s_documents, listT u)]) := by
  let chs : Nat → Ch := fun i => match i with
    | 0 => (s_field, [(s_field, textT f)])
    | 1 => (s_plain_name, (param ps (s_plain_name, ⟨#[116]⟩)).toList)
    | 2 => (s_index, (param ps (s_index, ⟨#[116]⟩)).toList)
    | 3 => (s_id, (param ps (s_id, ⟨#[116]⟩)).toList)
    | 4 => (s_routing, (param ps (s_routing, ⟨#[116]⟩)).toList)
    | 5 => (s_preference, (param ps (s_preference, ⟨#[116]⟩)).toList)
    | 6 => (s_version, (param ps (s_version, ⟨#[119]⟩)).toList)
    | 7 => (s_documents, [(s_documents, listT u)])
    | _ => (emptyS, [])
  have h0 := h
  have h1 := SameL.reorder (f := chs) [0, 1, 2, 3, 4, 5, 6, 7] [1, 3, 2, 5, 4, 6, 0, 7] (by decide) (show [s_field, s_plain_name, s_index, s_id, s_routing, s_preference, s_version, s_documents].Nodup by decide) (by intro c hc; simp only [List.map_cons, List.map_nil, List.mem_cons, List.not_mem_nil, or_false] at hc; rcases hc with rfl | rfl | rfl | rfl | rfl | rfl | rfl | rfl <;> first | exact keys_param _ _ | exact keys_one _ _) (by simpa only [chs, flatC, List.map_cons, List.map_nil, List.flatMap_cons, List.flatMap_nil, List.append_nil, List.append_assoc, List.cons_append, List.nil_append] using h0)
  rw [params_cons, params_cons, params_cons, params_cons, params_cons, params_cons, params_nil]
  refine (show SameL _ _ from ?_)
  simpa only [chs, flatC, List.map_cons, List.map_nil, List.flatMap_cons, List.flatMap_nil, List.append_nil, List.append_assoc, List.cons_append, List.nil_append] using h1
theorem perc_sameM (f : ByteArray) (u : List T) {l : List (ByteArray × T)} {ps : List (ByteArray × T)} (h : SameL l (([(s_field, textT f)] ++ (param ps (s_plain_name, ⟨#[116]⟩)).toList) ++ [(s_documents, listT u)] ++ ((param ps (s_index, ⟨#[116]⟩)).toList ++ (param ps (s_id, ⟨#[116]⟩)).toList ++ (param ps (s_routing, ⟨#[116]⟩)).toList ++ (param ps (s_preference, ⟨#[116]⟩)).toList ++ (param ps (s_version, ⟨#[119]⟩)).toList))) : SameL l (paramsL rPercolate ps ++ [(s_field, textT f)] ++ [(s_documents, listT u)]) := by
  let chs : Nat → Ch := fun i => match i with
    | 0 => (s_field, [(s_field, textT f)])
    | 1 => (s_plain_name, (param ps (s_plain_name, ⟨#[116]⟩)).toList)
    | 2 => (s_index, (param ps (s_index, ⟨#[116]⟩)).toList)
    | 3 => (s_id, (param ps (s_id, ⟨#[116]⟩)).toList)
    | 4 => (s_routing, (param ps (s_routing, ⟨#[116]⟩)).toList)
    | 5 => (s_preference, (param ps (s_preference, ⟨#[116]⟩)).toList)
    | 6 => (s_version, (param ps (s_version, ⟨#[119]⟩)).toList)
    | 7 => (s_documents, [(s_documents, listT u)])
    | _ => (emptyS, [])
  have h0 := h
  have h1 := SameL.reorder (f := chs) [0, 1, 7, 2, 3, 4, 5, 6] [1, 3, 2, 5, 4, 6, 0, 7] (by decide) (show [s_field, s_plain_name, s_documents, s_index, s_id, s_routing, s_preference, s_version].Nodup by decide) (by intro c hc; simp only [List.map_cons, List.map_nil, List.mem_cons, List.not_mem_nil, or_false] at hc; rcases hc with rfl | rfl | rfl | rfl | rfl | rfl | rfl | rfl <;> first | exact keys_param _ _ | exact keys_one _ _) (by simpa only [chs, flatC, List.map_cons, List.map_nil, List.flatMap_cons, List.flatMap_nil, List.append_nil, List.append_assoc, List.cons_append, List.nil_append] using h0)
  rw [params_cons, params_cons, params_cons, params_cons, params_cons, params_cons, params_nil]
  refine (show SameL _ _ from ?_)
  simpa only [chs, flatC, List.map_cons, List.map_nil, List.flatMap_cons, List.flatMap_nil, List.append_nil, List.append_assoc, List.cons_append, List.nil_append] using h1
theorem percolate_same (f : ByteArray) (u : List T) (huF : ∀ t ∈ u, FullT t) {ps : List (ByteArray × T)} (hF : FitsP rPercolate ps) : sameT (mapT [(s_percolate, mapT (readL (jTree ([(s_field, J.str f)] ++ jT s_plain_name (lastOf ps s_plain_name) ++ jD (jFulls u) ++ jT s_index (lastOf ps s_index) ++ jT s_id (lastOf ps s_id) ++ jT s_routing (lastOf ps s_routing) ++ jT s_preference (lastOf ps s_preference) ++ jL s_version (lastOf ps s_version)))))]) (mapT [(s_percolate, mapT (paramsL rPercolate ps ++ [(s_field, textT f)] ++ docsL u))]) = true := by
  refine same_one _ (sameT_map ?_)
  have s0 := perc_same0 f hF
  have s1 := perc_same1 hF
  rcases perc_read f u ps with ⟨rfl, e⟩ | ⟨t, rfl, e⟩ | ⟨hu, e⟩
  · rw [e, show docsL [] = [] from rfl, List.append_nil]
    exact perc_sameN f (SameL.append s0 s1)
  · rw [e, show docsL [t] = [(s_documents, listT [t])] from rfl]
    have h1 := jList_same huF
    rw [List.map_cons, List.map_nil, treeJ, treesJ, treesJ] at h1
    exact perc_sameE f [t] (SameL.append (SameL.append s0 s1) (SameL.one s_documents h1))
  · have hd : docsL u = [(s_documents, listT u)] := by
      unfold docsL
      cases u with
      | nil => simp at hu
      | cons _ _ => rfl
    rw [e, hd]
    exact perc_sameM f u (SameL.append (SameL.append s0 (SameL.one s_documents (jList_same huF))) s1)
theorem perc_docs (f : ByteArray) (u : List T) (ps : List (ByteArray × T)) {t : T} (h : lastOf (jTree ([(s_field, J.str f)] ++ jT s_plain_name (lastOf ps s_plain_name) ++ jD (jFulls u) ++ jT s_index (lastOf ps s_index) ++ jT s_id (lastOf ps s_id) ++ jT s_routing (lastOf ps s_routing) ++ jT s_preference (lastOf ps s_preference) ++ jL s_version (lastOf ps s_version))) s_documents = some t) : t.kind = 4 ∧ t.kids.length ≠ 0 := by
  rw [perc_parts, lastOf_append, lastOf_append, perc_none0 f ps (k := s_documents) (by simp only [List.mem_append, List.mem_singleton]; decide), perc_none1 ps (k := s_documents) (by simp only [List.mem_append, List.mem_singleton]; decide)] at h
  match u with
  | [] => cases h
  | [q] =>
    have hne : seq s_document s_documents = false := seq_false.2 (by decide)
    simp [jFulls, jD, jTree, lastOf_cons, lastOf_nil, hne] at h
  | q :: q2 :: r =>
    simp [jFulls, jD, jTree, lastOf_cons, lastOf_nil, seq_self] at h
    subst h
    exact ⟨rfl, by simp [treeJ, treesJ, listT, T.kids]⟩
theorem perc_nonull (f : ByteArray) (u : List T) (hk : ∀ t ∈ u, t.kind = 5) (ps : List (ByteArray × T)) : NoNull ([(s_field, J.str f)] ++ jT s_plain_name (lastOf ps s_plain_name) ++ jD (jFulls u) ++ jT s_index (lastOf ps s_index) ++ jT s_id (lastOf ps s_id) ++ jT s_routing (lastOf ps s_routing) ++ jT s_preference (lastOf ps s_preference) ++ jL s_version (lastOf ps s_version)) := by
  have hD : NoNull (jD (jFulls u)) := by
    match u, hk with
    | [], _ => exact fun p hp => by cases hp
    | [t], hk => exact noNull_J _ _ (by rw [jFull_kind (hk t (by simp))]; decide)
    | t :: t2 :: r, _ => exact noNull_J _ _ (by simp [treeJ, listT, T.kind])
  exact NoNull.append (NoNull.append (NoNull.append (NoNull.append (NoNull.append (NoNull.append (NoNull.append (noNull_str _ _) (noNull_T _ _)) hD) (noNull_T _ _)) (noNull_T _ _)) (noNull_T _ _)) (noNull_T _ _)) (noNull_L _ _)
theorem jD_len (us : List J) : (jD us).length ≤ 1 := by
  match us with
  | [] => simp [jD]
  | [_] => simp [jD]
  | _ :: _ :: _ => simp [jD]
theorem perc_len (f : ByteArray) (u : List T) (ps : List (ByteArray × T)) : (jTree ([(s_field, J.str f)] ++ jT s_plain_name (lastOf ps s_plain_name) ++ jD (jFulls u) ++ jT s_index (lastOf ps s_index) ++ jT s_id (lastOf ps s_id) ++ jT s_routing (lastOf ps s_routing) ++ jT s_preference (lastOf ps s_preference) ++ jL s_version (lastOf ps s_version))).length ≤ 65536 := by
  have h1 := jT_len s_plain_name (lastOf ps s_plain_name)
  have h2 := jT_len s_index (lastOf ps s_index)
  have h3 := jT_len s_id (lastOf ps s_id)
  have h4 := jT_len s_routing (lastOf ps s_routing)
  have h5 := jT_len s_preference (lastOf ps s_preference)
  have h6 := jL_len s_version (lastOf ps s_version)
  have h7 := jD_len (jFulls u)
  simp only [jTree, List.length_map, List.length_append, List.length_cons, List.length_nil]
  omega
set_option maxHeartbeats 1000000 in
theorem field_pos (s : ByteArray) (hs : s.size ≤ 2147483647) (w : World) : Calls Try.prog 10 #[.string s] w (Yes (0 < s.size) w) := by
  by_cases h0 : 0 < s.size
  · exact (field_any s hs w).mono fun r w' ⟨b, e, _, x⟩ => ⟨b, e, fun _ => h0, x⟩
  · have he : s.toList.isEmpty = true := by
      rw [Lib.toList_data]
      cases h : s.data.toList with
      | nil => rfl
      | cons => have := size_len s; rw [h] at this; simp at this; omega
    go_enter Try.func10, Try.ntmps10
    go_wp2_with fail
    go_ret
    exact ⟨false, rfl, by simp, ext_refl _⟩
set_option maxHeartbeats 4000000 in
theorem percolate_law {S : Nat → Prop} (f : ByteArray) (ua : Option Addr) (un uc : Nat) (u : List T) (a : Option Addr) (n c : Nat) (ps : List (ByteArray × T)) (w : World) (huT : KidsAt S w ua un uc u) (huSm : SmallTs 1048576 u) (h : PairsAt S w a n c ps) : Calls Try.prog 4 #[.string f, .slice ua un uc, .slice a n c] w fun r w' => r = .returned (.bool true) ∧ Ext w w' := by
  have hnl := Nat.le_trans h.2.1 h.2.2.1
  unfold maxLen at hnl
  have hPs := Lib.hid fun w' (x : Ext w w') => (h.keep (S' := fun _ => True) (fun _ _ _ => trivial) (fun _ _ _ => rfl)).ext x
  have hTu := Lib.hid fun w' (x : Ext w w') => (huT.keep (S' := fun _ => True) (fun _ _ _ => trivial) (fun _ _ _ => rfl)).ext x
  have hul := huT.1
  have hF := Lib.hid fun w' (x : Ext w w') => fits_any sPercolate rPercolate a n c ps w' rows_percolate (by simp [plainK]) (h.ext x)
  have hI := Lib.hid fun w' (x : Ext w w') (name : ByteArray) => is_any a n c ps name w' (h.ext x)
  have hQ := Lib.hid fun w' (x : Ext w w') (hfp : 0 < f.size) (hub : un ≤ 2147483647) (huF : ∀ t ∈ u, FullT t) (hff : FitsP rPercolate ps) => percolate_any a n c ps w' f hfp ua un uc u (huT.ext x) hub (fullTs_of huF) (whole_of hff (by rw [kindL_dec]; decide)) (h.ext x)
  clear h huT
  go_enter Try.func4, Try.ntmps4
  by_cases hsz0 : 2147483647 < f.size
  · go_wp2_with fail
    all_goals (go_ret; exact ⟨rfl, by (repeat (first | exact ext_refl _ | assumption | refine ext_alloc ?_ _ | refine ext_drew ?_ | refine ext_set ?_ (by simp) _ | refine ext_trans ?_ (by assumption)))⟩)
  by_cases hsz1 : 2147483647 < un
  · go_wp2_with fail
    all_goals (go_ret; exact ⟨rfl, by (repeat (first | exact ext_refl _ | assumption | refine ext_alloc ?_ _ | refine ext_drew ?_ | refine ext_set ?_ (by simp) _ | refine ext_trans ?_ (by assumption)))⟩)
  by_cases hsz2 : 2147483647 < n
  · go_wp2_with fail
    all_goals (go_ret; exact ⟨rfl, by (repeat (first | exact ext_refl _ | assumption | refine ext_alloc ?_ _ | refine ext_drew ?_ | refine ext_set ?_ (by simp) _ | refine ext_trans ?_ (by assumption)))⟩)
  rcases Nat.eq_zero_or_pos un with hun | hun
  case' inl => subst hun
  all_goals have tki := trivial
  all_goals go_wp2_with (first
    | (go_at_call 16; refine (queries_any _ _ _ _ _ (hTu.out _ (by (repeat (first | exact ext_refl _ | assumption | refine ext_alloc ?_ _ | refine ext_drew ?_ | refine ext_set ?_ (by simp) _ | refine ext_trans ?_ (by assumption)))))).mono ?_; rintro r wqs ⟨bqs, rfl, hqs, hxqs⟩; have Hqs := Lib.hid hqs; clear hqs; cases bqs)
    | (go_at_call 17; have _t := tki; clear _t tki; refine (hI.out _ (by (repeat (first | exact ext_refl _ | assumption | refine ext_alloc ?_ _ | refine ext_drew ?_ | refine ext_set ?_ (by simp) _ | refine ext_trans ?_ (by assumption)))) s_index).mono ?_; rintro r wi1 ⟨rfl, hxi1⟩; generalize (lastOf ps s_index).isSome = bi1; cases bi1)
    | (go_at_call 17; refine (hI.out _ (by (repeat (first | exact ext_refl _ | assumption | refine ext_alloc ?_ _ | refine ext_drew ?_ | refine ext_set ?_ (by simp) _ | refine ext_trans ?_ (by assumption)))) s_id).mono ?_; rintro r wi2 ⟨rfl, hxi2⟩; generalize (lastOf ps s_id).isSome = bi2; cases bi2)
    | (go_at_call 10; refine (field_pos f (by omega) _).mono ?_; rintro r wfd ⟨bfd, rfl, hfd, hxfd⟩; have Hfd := Lib.hid hfd; clear hfd; cases bfd)
    | (go_at_call 11; refine (hF.out _ (by (repeat (first | exact ext_refl _ | assumption | refine ext_alloc ?_ _ | refine ext_drew ?_ | refine ext_set ?_ (by simp) _ | refine ext_trans ?_ (by assumption))))).mono ?_; rintro r wff ⟨bff, rfl, hff, hxff⟩; have Hff := Lib.hid hff; clear hff; cases bff)
    | fail)
  all_goals (try (go_ret; exact ⟨rfl, by (repeat (first | exact ext_refl _ | assumption | refine ext_alloc ?_ _ | refine ext_drew ?_ | refine ext_set ?_ (by simp) _ | refine ext_trans ?_ (by assumption)))⟩))
  all_goals
    have hff := Hff.out (by trivial)
    have hfp := Hfd.out (by trivial)
    have hkF : (∀ t ∈ u, t.kind = 5) ∧ ∀ t ∈ u, FullT t := by
      first
        | (have hqs := Hqs.out (by trivial)
           exact ⟨fun t ht => (hqs.1 t ht).1, fun t ht => FullT.of (N := 1048576) (by omega) (hqs.1 t ht).2 ((smallTs_iff _ _).1 huSm t ht)⟩)
        | (have hnil : u = [] := List.length_eq_zero_iff.1 hul
           rw [hnil]
           exact ⟨fun t ht => (by cases ht), fun t ht => (by cases ht)⟩)
    obtain ⟨hk5, huF⟩ := hkF
    have hfit := Lib.hid (percolate_same f u huF hff)
    have HFF := Lib.hid hff
    have hx1 : Ext w wff := by (repeat (first | exact ext_refl _ | assumption | refine ext_alloc ?_ _ | refine ext_drew ?_ | refine ext_set ?_ (by simp) _ | refine ext_trans ?_ (by assumption)))
    refine (hQ.out wff hx1 hfp (by omega) huF hff).mono ?_
    rintro r w3 ⟨e, rfl, hT, hx3⟩
    simp only [El.val]
    rw [jMap_tree] at hT
    have hb3 : Box (w3.alloc (.cells e.arr 30)) w3.heap.size e.arr 30 := Box.at rfl _ _
    obtain ⟨o0, o1, o2, o3, o4, o5⟩ := hb3.six
    have hx4 : Ext w (w3.alloc (.cells e.arr 30)) := ext_alloc (ext_trans hx1 hx3) _
    have hRP := Lib.hid (readPercolate_any (S := fun _ => True) _ e _ ((hT.ext (ext_alloc (ext_refl w3) (.cells e.arr 30))).any) (fun k t hl => ⟨perc_nonull f u hk5 ps _ (lastOf_mem hl), fun hh => by
      have hk : s_documents = k := by simpa [hasS, seq_iff] using hh
      subst hk
      exact perc_docs f u ps hl⟩) (perc_len f u ps))
    clear hQ hT hF hI
    go_wp2_with (first
      | (go_at_call 19; refine hRP.out.mono ?_; rintro r w4 ⟨g4, rfl, hT4, hx5⟩; simp only [El.val]; have hx6 := ext_trans hx4 hx5; clear hRP)
      | (go_at_call 20; refine (percolateS_any (S := fun _ => True) f _ _ _ u a n c ps _ (hTu.out _ hx6) (hPs.out _ hx6) HFF.out).mono ?_; rintro r w5 ⟨g5, rfl, hT5, hx7⟩; simp only [El.val]; have hSm := Lib.hid (same_any (S := fun _ => True) _ _ g4 g5 _ ((hT4.ext hx7).any) hT5.any))
      | (go_at_call 13; refine hSm.out.mono ?_; rintro r w8 ⟨rfl, hx12⟩; rw [hfit.out])
      | fail)
    go_ret
    exact ⟨rfl, ext_trans (ext_trans hx6 hx7) hx12⟩
end Go.Proofs.Ytdjojnlejkljdaa

namespace Go.Proofs.Ytdjojnlejkljdaa
open Go.ChangeShapes Go.WideShapes Go.ChangeAt Go.RowKit

theorem bulk_part {H : Type} {d : DataW H} {l : List (DataW H)} (h : d ∈ l) : Rows.uptoBulk d ≤ Rows.uptoBulkAll l := by
  induction l with
  | nil => cases h
  | cons x r ih =>
    simp only [Rows.uptoBulkAll]
    cases List.mem_cons.1 h with
    | inl e => subst e; omega
    | inr e => have := ih e; omega
section
variable {H : Type} {enc : TypeId × Value → H} {w : World} {base : Nat} {spare : Nat → Bool} {held : Bool}
set_option maxRecDepth 20000 in
theorem text_bulk {fuel : Nat} {e : El} {x : DataW H × List MemPlace} (h : DataW.trod enc Try.prog w base spare held fuel 30 e.cells = some x) : e.x.size ≤ Rows.uptoBulk x.1 := by
  obtain ⟨xs, n, rfl, rfl, hcl, hxl, hf⟩ := DataW.trod_struct Try.underlying30 h
  match xs, hxl with
  | [x0, x1, x2, x3, x4, x5], _ =>
    have f1 : DataW.trod enc Try.prog w base spare held n 9 (List.take (Try.prog.cellsOf 9) (List.drop 1 e.cells)) = some x1 := hf 1 _ rfl
    rw [cells_string] at f1
    have f1 : DataW.trod enc Try.prog w base spare held n 9 [.string e.x] = some x1 := f1
    obtain ⟨s, e1, e2, -⟩ := DataW.trod_string Try.underlying9 f1
    simp only [List.cons.injEq, Value.string.injEq, and_true] at e1
    subst e1
    subst e2
    have h1 : Rows.uptoBulk (DataW.lit (H := H) (.string e.x.data.toList)) = e.x.data.toList.length + 1 := by simp [Rows.uptoBulk]
    have h2 := Lib.size_eq e.x
    simp only [Rows.uptoBulk, List.map_cons, List.map_nil, Rows.uptoBulkAll] at h1 ⊢
    omega
set_option maxRecDepth 20000 in
theorem set_bulk {fuel : Nat} {s : ByteArray} {e : El} {x : DataW H × List MemPlace} (h : DataW.trod enc Try.prog w base spare held fuel 62 (.string s :: e.cells) = some x) : e.x.size ≤ Rows.uptoBulk x.1 := by
  obtain ⟨xs, n, rfl, rfl, hcl, hxl, hf⟩ := DataW.trod_struct Try.underlying62 h
  match xs, hxl with
  | [x0, x1], _ =>
    have f1 : DataW.trod enc Try.prog w base spare held n 30 (List.take (Try.prog.cellsOf 30) (List.drop 1 (.string s :: e.cells))) = some x1 := hf 1 _ rfl
    rw [cells_tree, List.drop_succ_cons, List.drop_zero, List.take_of_length_le (by simp [El.cells])] at f1
    have := text_bulk f1
    simp only [Rows.uptoBulk, List.map_cons, List.map_nil, Rows.uptoBulkAll]
    omega
theorem sets_bulk {S : Nat → Prop} {fuel : Nat} {a : Option Addr} {n c : Nat} {ps : List (ByteArray × T)} {x : DataW H × List MemPlace} (h : DataW.trod enc Try.prog w base spare held fuel 25 [.slice a n c] = some x) (hP : PairsAt S w a n c ps) : ∀ p ∈ ps, p.2.text.size ≤ Rows.uptoBulk x.1 := by
  intro p hp
  obtain ⟨i, hi⟩ := List.getElem?_of_mem hp
  have hlt : i < n := by rw [← hP.1]; exact (List.getElem?_eq_some_iff.1 hi).1
  obtain ⟨b, off, e, rfl, -, hc, hT⟩ := hP.2.2.2 i p hi
  rcases DataW.trod_slice Try.underlying25 h with ⟨h0, -⟩ | ⟨a, len, cap, elems, rest, n', -, h0, rfl, -, hl, hm, hlen, hel, -, -⟩
  · simp at h0
  · simp only [List.cons.injEq, Value.slice.injEq, Option.some.injEq, and_true] at h0
    obtain ⟨rfl, rfl, rfl⟩ := h0
    rw [cells_set] at hel
    have h1 := hel i hlt
    obtain ⟨q, hq⟩ := some_of_lt hlen hlt
    rw [hq, Option.bind_eq_some_iff] at h1
    obtain ⟨cs', hc', ht⟩ := h1
    obtain ⟨-, hl7, hat⟩ := World.cells?_some hc'
    obtain ⟨s', e', t', rfl, -⟩ := set_of ht
    have hx : e'.x = e.x := by
      have h2 := hat 2 (by omega)
      rw [Addr.add_add, Addr.add_lit, show off + (i * 7 + 2) = off + i * 7 + 1 + 1 by omega, hc.2.2.1] at h2
      simp [El.cells] at h2
      exact h2.symm
    have h3 := set_bulk ht
    have h4 : p.2.text = e.x := hT.parts.2.1.symm
    rw [h4, ← hx]
    refine Nat.le_trans h3 ?_
    have h5 : q.1 ∈ List.map (fun x => x.fst) elems := List.mem_map.2 ⟨q, List.mem_of_getElem? hq, rfl⟩
    have h6 := bulk_part h5
    simp only [Rows.uptoBulk]
    omega
end
end Go.Proofs.Ytdjojnlejkljdaa

namespace Go.Proofs.Ytdjojnlejkljdaa
open Go.ChangeShapes Go.WideShapes Go.ChangeAt Go.RowKit

section
variable {H : Type} {enc : TypeId × Value → H} {w : World} {base : Nat} {spare : Nat → Bool} {held : Bool}
set_option maxRecDepth 20000 in
theorem tree_val {fuel : Nat} {r : Reach} {b0 : Nat} {v : Value} {x : DataW H × List MemPlace} {W : World} (hv : Value.okWide Try.prog W r b0 30 v) (h : DataW.trod enc Try.prog w base spare held fuel 30 v.cells.toList = some x) :
    ∃ (e : El) (t : T), v = e.val ∧ TreeAt (fun _ => True) w e t := by
  obtain ⟨cs, rfl, -⟩ := okWide_struct Try.underlying30 hv
  obtain ⟨e, t, he, hT⟩ := tree_of fuel _ _ h
  refine ⟨e, t, ?_, hT⟩
  have he : cs.toList = e.cells := he
  have : cs = e.cells.toArray := by rw [← he]
  subst this
  rfl
set_option maxRecDepth 20000 in
theorem kids_of {fuel : Nat} {cs : List Value} {x : DataW H × List MemPlace} (h : DataW.trod enc Try.prog w base spare held fuel 28 cs = some x) :
    ∃ a n c ts, cs = [.slice a n c] ∧ KidsAt (fun _ => True) w a n c ts := by
  rcases DataW.trod_slice Try.underlying28 h with ⟨rfl, -⟩ | ⟨a, len, cap, elems, rest, n', -, rfl, -, -, hl, hm, hlen, hel, -, -⟩
  · exact ⟨none, 0, 0, [], rfl, KidsAt.of rfl (Nat.le_refl _) (by simp [maxLen]) fun _ _ h => by simp at h⟩
  · rw [cells_tree] at hel
    obtain ⟨Z, h1, h2⟩ := choose_list (fun i (z : El × T) => (∀ j v, z.1.cells[j]? = some v → w.cell? (a.add (i * 6 + j)) = some v) ∧ TreeAt (fun _ => True) w z.1 z.2) len fun i hi => by
      have h1 := hel i hi
      obtain ⟨q, hq⟩ := some_of_lt hlen hi
      rw [hq, Option.bind_eq_some_iff] at h1
      obtain ⟨cs', hc, ht⟩ := h1
      obtain ⟨-, hcl', hat⟩ := World.cells?_some hc
      obtain ⟨e, t, rfl, hT⟩ := tree_of n' cs' _ ht
      refine ⟨(e, t), fun j v hj => ?_, hT⟩
      have hj6 : j < 6 := by have := (List.getElem?_eq_some_iff.1 hj).1; simpa [El.cells] using this
      rw [← Addr.add_add, hat j hj6]
      exact hj
    refine ⟨some a, len, cap, Z.map Prod.snd, rfl, KidsAt.of (by simp [h1]) hl hm fun i t hi => ?_⟩
    simp only [List.getElem?_map, Option.map_eq_some_iff] at hi
    obtain ⟨z, hz, rfl⟩ := hi
    obtain ⟨hc, hT⟩ := h2 i z hz
    have h0 : a = ⟨a.block, a.off, none⟩ := by
      obtain ⟨z0, hz0⟩ := some_of_lt h1 (show 0 < len by have := (List.getElem?_eq_some_iff.1 hz).1; omega)
      have := (h2 0 z0 hz0).1 0 _ rfl
      exact spot_none (by simpa [Addr.add] using this)
    rw [h0] at hc
    simp only [Addr.add_lit] at hc
    have ha : ∀ j, a.off + (i * 6 + j) = a.off + i * 6 + j := fun j => by omega
    simp only [ha] at hc
    exact ⟨a.block, a.off, z.1, by rw [← h0], trivial, ⟨hc 0 _ rfl, hc 1 _ rfl, hc 2 _ rfl, hc 3 _ rfl, hc 4 _ rfl, hc 5 _ rfl⟩, hT⟩
end
end Go.Proofs.Ytdjojnlejkljdaa

namespace Go.Proofs.Ytdjojnlejkljdaa
open Go.ChangeShapes Go.WideShapes Go.ChangeAt Go.RowKit

section
variable {H : Type} {enc : TypeId × Value → H} {w : World} {base : Nat} {spare : Nat → Bool} {held : Bool}
theorem bulk_pos (d : DataW H) : 1 ≤ Rows.uptoBulk d := by
  cases d with
  | lit l => cases l <;> simp [Rows.uptoBulk]
  | _ => simp [Rows.uptoBulk]
theorem bulk_len : ∀ l : List (DataW H), l.length ≤ Rows.uptoBulkAll l
  | [] => by simp
  | d :: r => by
    have h1 := bulk_len r
    have h2 := bulk_pos d
    simp only [List.length_cons, Rows.uptoBulkAll]
    omega
theorem strs_small {fuel : Nat} {cs : List Value} {x : DataW H × List MemPlace} (h : DataW.trod enc Try.prog w base spare held fuel 27 cs = some x) :
    ∃ a n c ss, cs = [.slice a n c] ∧ StrsAt (fun _ => True) w a n c ss ∧ ss.length ≤ Rows.uptoBulk x.1 ∧ ∀ s ∈ ss, s.size ≤ Rows.uptoBulk x.1 := by
  rcases DataW.trod_slice Try.underlying27 h with ⟨rfl, -⟩ | ⟨a, len, cap, elems, rest, n, -, rfl, hxx, -, hl, hm, hlen, hel, -, -⟩
  · exact ⟨none, 0, 0, [], rfl, ⟨rfl, Nat.le_refl _, by simp [maxLen], fun _ _ h => by simp at h⟩, Nat.zero_le _, fun s hs => by cases hs⟩
  · rw [cells_string] at hel
    obtain ⟨ss, h1, h2⟩ := choose_list (fun i s => w.cell? (a.add i) = some (.string s) ∧ s.size ≤ Rows.uptoBulk x.1) len fun i hi => by
      have h1 := hel i hi
      obtain ⟨y, hy⟩ := some_of_lt hlen hi
      rw [hy, Option.bind_eq_some_iff] at h1
      obtain ⟨cs', hc, ht⟩ := h1
      obtain ⟨-, -, hat⟩ := World.cells?_some hc
      obtain ⟨s, rfl, hyy, -⟩ := DataW.trod_string Try.underlying9 ht
      have := hat 0 (by omega)
      refine ⟨s, by simpa [Addr.add_add] using this, ?_⟩
      have h5 : y.1 ∈ List.map (fun x => x.fst) elems := List.mem_map.2 ⟨y, List.mem_of_getElem? hy, rfl⟩
      have h6 := bulk_part h5
      have h7 : Rows.uptoBulk y.1 = s.data.toList.length + 1 := by rw [hyy]; simp [Rows.uptoBulk]
      have h8 := Lib.size_eq s
      subst hxx
      simp only [Rows.uptoBulk]
      omega
    refine ⟨some a, len, cap, ss, rfl, ⟨h1, hl, hm, fun i s hi => ?_⟩, ?_, fun s hs => ?_⟩
    rotate_left
    · have h5 := bulk_len (List.map (fun x => x.fst) elems)
      rw [List.length_map] at h5
      subst hxx
      simp only [Rows.uptoBulk]
      omega
    · obtain ⟨i, hi⟩ := List.getElem?_of_mem hs
      exact (h2 i s hi).2
    have hc := (h2 i s hi).1
    have h0 : a = ⟨a.block, a.off, none⟩ := by
      obtain ⟨s0, hs0⟩ := some_of_lt h1 (show 0 < len by have := (List.getElem?_eq_some_iff.1 hi).1; omega)
      exact spot_none (by simpa [Addr.add] using (h2 0 s0 hs0).1)
    rw [h0, Addr.add_lit] at hc
    exact ⟨a.block, a.off, by rw [← h0], trivial, hc⟩
set_option maxRecDepth 20000 in
theorem tree_small : ∀ (fuel : Nat) (cs : List Value) (x : DataW H × List MemPlace), DataW.trod enc Try.prog w base spare held fuel 30 cs = some x → ∃ (e : El) (t : T), cs = e.cells ∧ TreeAt (fun _ => True) w e t ∧ SmallT (Rows.uptoBulk x.1) t := by
  intro fuel
  induction fuel using Nat.strongRecOn with
  | ind fuel ih =>
    intro cs x h
    obtain ⟨xs, n, rfl, rfl, hcl, hxl, hf⟩ := DataW.trod_struct Try.underlying30 h
    rw [cells_tree] at hcl
    match cs, hcl with
    | [c0, c1, c2, c3, c4, c5], _ =>
      match xs, hxl with
      | [x0, x1, x2, x3, x4, x5], _ =>
        have f0 : DataW.trod enc Try.prog w base spare held n 3 (List.take (Try.prog.cellsOf 3) (List.drop 0 [c0, c1, c2, c3, c4, c5])) = some x0 := hf 0 _ rfl
        rw [cells_int] at f0
        have f0 : DataW.trod enc Try.prog w base spare held n 3 [c0] = some x0 := f0
        have f1 : DataW.trod enc Try.prog w base spare held n 9 (List.take (Try.prog.cellsOf 9) (List.drop 1 [c0, c1, c2, c3, c4, c5])) = some x1 := hf 1 _ rfl
        rw [cells_string] at f1
        have f1 : DataW.trod enc Try.prog w base spare held n 9 [c1] = some x1 := f1
        have f2 : DataW.trod enc Try.prog w base spare held n 22 (List.take (Try.prog.cellsOf 22) (List.drop 2 [c0, c1, c2, c3, c4, c5])) = some x2 := hf 2 _ rfl
        rw [cells_float] at f2
        have f2 : DataW.trod enc Try.prog w base spare held n 22 [c2] = some x2 := f2
        have f3 : DataW.trod enc Try.prog w base spare held n 4 (List.take (Try.prog.cellsOf 4) (List.drop 3 [c0, c1, c2, c3, c4, c5])) = some x3 := hf 3 _ rfl
        rw [cells_bool] at f3
        have f3 : DataW.trod enc Try.prog w base spare held n 4 [c3] = some x3 := f3
        have f4 : DataW.trod enc Try.prog w base spare held n 27 (List.take (Try.prog.cellsOf 27) (List.drop 4 [c0, c1, c2, c3, c4, c5])) = some x4 := hf 4 _ rfl
        rw [cells_strings] at f4
        have f4 : DataW.trod enc Try.prog w base spare held n 27 [c4] = some x4 := f4
        have f5 : DataW.trod enc Try.prog w base spare held n 28 (List.take (Try.prog.cellsOf 28) (List.drop 5 [c0, c1, c2, c3, c4, c5])) = some x5 := hf 5 _ rfl
        rw [cells_trees] at f5
        have f5 : DataW.trod enc Try.prog w base spare held n 28 [c5] = some x5 := f5
        obtain ⟨k, e0, -, -⟩ := DataW.trod_int Try.underlying3 f0
        obtain ⟨s, e1, hx1, -⟩ := DataW.trod_string Try.underlying9 f1
        obtain ⟨d, e2⟩ := trod_float Try.underlying22 f2
        obtain ⟨y, e3, -⟩ := DataW.trod_bool Try.underlying4 f3
        obtain ⟨ka, kn, kc, ss, e4, hss, hsl, hsz⟩ := strs_small f4
        simp only [List.cons.injEq, and_true] at e0 e1 e2 e3 e4
        subst e0 e1 e2 e3 e4
        have hs1 : Rows.uptoBulk x1.1 = s.data.toList.length + 1 := by rw [hx1]; simp [Rows.uptoBulk]
        have hs2 := Lib.size_eq s
        have hB : Rows.uptoBulk (DataW.agg (List.map (fun x => x.fst) [x0, x1, x2, x3, x4, x5])) = Rows.uptoBulk x0.1 + (Rows.uptoBulk x1.1 + (Rows.uptoBulk x2.1 + (Rows.uptoBulk x3.1 + (Rows.uptoBulk x4.1 + (Rows.uptoBulk x5.1 + 0))))) + 1 := by simp only [Rows.uptoBulk, List.map_cons, List.map_nil, Rows.uptoBulkAll]
        have hSm : ∀ kids : List T, kids.length ≤ Rows.uptoBulk x5.1 → SmallTs (Rows.uptoBulk x5.1) kids → SmallT (Rows.uptoBulk (DataW.agg (List.map (fun x => x.fst) [x0, x1, x2, x3, x4, x5]))) (.mk k s d y ss kids) := fun kids hk1 hk2 => by
          rw [SmallT, hB]
          exact ⟨by omega, by omega, fun z hz => by have := hsz z hz; omega, by omega, SmallTs.mono (by omega) hk2⟩
        clear hB hs1 hsl hsz
        rcases DataW.trod_slice Try.underlying28 f5 with ⟨e5, -⟩ | ⟨a, len, cap, elems, rest, n', rfl, e5, hxx, -, hl, hm, hlen, hel, -, -⟩
        · cases e5
          exact ⟨⟨k, s, d, y, ka, kn, kc, none, 0, 0⟩, .mk k s d y ss [], rfl, TreeAt.of rfl rfl rfl rfl hss (KidsAt.of rfl (Nat.le_refl _) (by simp [maxLen]) fun _ _ h => by simp [T.kids] at h), hSm [] (Nat.zero_le _) (by rw [SmallTs]; trivial)⟩
        · cases e5
          rw [cells_tree] at hel
          obtain ⟨Z, h1, h2⟩ := choose_list (fun i (z : El × T) => (∀ j v, z.1.cells[j]? = some v → w.cell? (a.add (i * 6 + j)) = some v) ∧ TreeAt (fun _ => True) w z.1 z.2 ∧ SmallT (Rows.uptoBulk x5.1) z.2) len fun i hi => by
            have h1 := hel i hi
            obtain ⟨q, hq⟩ := some_of_lt hlen hi
            rw [hq, Option.bind_eq_some_iff] at h1
            obtain ⟨cs', hc, ht⟩ := h1
            obtain ⟨-, hcl', hat⟩ := World.cells?_some hc
            obtain ⟨e, t, rfl, hT, hSt⟩ := ih n' (by omega) cs' _ ht
            have h5 : q.1 ∈ List.map (fun x => x.fst) elems := List.mem_map.2 ⟨q, List.mem_of_getElem? hq, rfl⟩
            have h6 := bulk_part h5
            refine ⟨(e, t), fun j v hj => ?_, hT, SmallT.mono (by rw [hxx]; simp only [Rows.uptoBulk]; omega) hSt⟩
            have hj6 : j < 6 := by have := (List.getElem?_eq_some_iff.1 hj).1; simpa [El.cells] using this
            rw [← Addr.add_add, hat j hj6]
            exact hj
          have hZl : (Z.map Prod.snd).length ≤ Rows.uptoBulk x5.1 := by
            have h5 := bulk_len (List.map (fun x => x.fst) elems)
            rw [List.length_map] at h5
            rw [List.length_map, h1, hxx]
            simp only [Rows.uptoBulk]
            omega
          have hZs : SmallTs (Rows.uptoBulk x5.1) (Z.map Prod.snd) := (smallTs_iff _ _).2 fun t ht => by
            obtain ⟨z, hz, rfl⟩ := List.mem_map.1 ht
            obtain ⟨i, hi⟩ := List.getElem?_of_mem hz
            exact (h2 i z hi).2.2
          suffices hKA : KidsAt (fun _ => True) w (some a) len cap (Z.map Prod.snd) from ⟨⟨k, s, d, y, ka, kn, kc, some a, len, cap⟩, .mk k s d y ss (Z.map Prod.snd), rfl, TreeAt.of rfl rfl rfl rfl hss hKA, hSm _ hZl hZs⟩
          refine KidsAt.of (by simp [h1]) hl hm fun i t hi => ?_
          simp only [List.getElem?_map, Option.map_eq_some_iff] at hi
          obtain ⟨z, hz, rfl⟩ := hi
          obtain ⟨hc, hT, -⟩ := h2 i z hz
          have h0 : a = ⟨a.block, a.off, none⟩ := by
            obtain ⟨z0, hz0⟩ := some_of_lt h1 (show 0 < len by have := (List.getElem?_eq_some_iff.1 hz).1; omega)
            have := (h2 0 z0 hz0).1 0 _ rfl
            exact spot_none (by simpa [Addr.add] using this)
          rw [h0] at hc
          simp only [Addr.add_lit] at hc
          have ha : ∀ j, a.off + (i * 6 + j) = a.off + i * 6 + j := fun j => by omega
          simp only [ha] at hc
          exact ⟨a.block, a.off, z.1, by rw [← h0], trivial, ⟨hc 0 _ rfl, hc 1 _ rfl, hc 2 _ rfl, hc 3 _ rfl, hc 4 _ rfl, hc 5 _ rfl⟩, hT⟩
set_option maxRecDepth 20000 in
theorem tree_valS {fuel : Nat} {r : Reach} {b0 : Nat} {v : Value} {x : DataW H × List MemPlace} {W : World} (hv : Value.okWide Try.prog W r b0 30 v) (h : DataW.trod enc Try.prog w base spare held fuel 30 v.cells.toList = some x) :
    ∃ (e : El) (t : T), v = e.val ∧ TreeAt (fun _ => True) w e t ∧ SmallT (Rows.uptoBulk x.1) t := by
  obtain ⟨cs, rfl, -⟩ := okWide_struct Try.underlying30 hv
  obtain ⟨e, t, he, hT, hSt⟩ := tree_small fuel _ _ h
  refine ⟨e, t, ?_, hT, hSt⟩
  have he : cs.toList = e.cells := he
  have : cs = e.cells.toArray := by rw [← he]
  subst this
  rfl
set_option maxRecDepth 20000 in
theorem kids_small {fuel : Nat} {cs : List Value} {x : DataW H × List MemPlace} (h : DataW.trod enc Try.prog w base spare held fuel 28 cs = some x) :
    ∃ a n c ts, cs = [.slice a n c] ∧ KidsAt (fun _ => True) w a n c ts ∧ ts.length ≤ Rows.uptoBulk x.1 ∧ SmallTs (Rows.uptoBulk x.1) ts := by
  rcases DataW.trod_slice Try.underlying28 h with ⟨rfl, -⟩ | ⟨a, len, cap, elems, rest, n', -, rfl, hxx, -, hl, hm, hlen, hel, -, -⟩
  · exact ⟨none, 0, 0, [], rfl, KidsAt.of rfl (Nat.le_refl _) (by simp [maxLen]) fun _ _ h => by simp at h, Nat.zero_le _, by rw [SmallTs]; trivial⟩
  · rw [cells_tree] at hel
    obtain ⟨Z, h1, h2⟩ := choose_list (fun i (z : El × T) => (∀ j v, z.1.cells[j]? = some v → w.cell? (a.add (i * 6 + j)) = some v) ∧ TreeAt (fun _ => True) w z.1 z.2 ∧ SmallT (Rows.uptoBulk x.1) z.2) len fun i hi => by
      have h1 := hel i hi
      obtain ⟨q, hq⟩ := some_of_lt hlen hi
      rw [hq, Option.bind_eq_some_iff] at h1
      obtain ⟨cs', hc, ht⟩ := h1
      obtain ⟨-, hcl', hat⟩ := World.cells?_some hc
      obtain ⟨e, t, rfl, hT, hSt⟩ := tree_small n' cs' _ ht
      have h5 : q.1 ∈ List.map (fun x => x.fst) elems := List.mem_map.2 ⟨q, List.mem_of_getElem? hq, rfl⟩
      have h6 := bulk_part h5
      refine ⟨(e, t), fun j v hj => ?_, hT, SmallT.mono (by rw [hxx]; simp only [Rows.uptoBulk]; omega) hSt⟩
      have hj6 : j < 6 := by have := (List.getElem?_eq_some_iff.1 hj).1; simpa [El.cells] using this
      rw [← Addr.add_add, hat j hj6]
      exact hj
    have hZl : (Z.map Prod.snd).length ≤ Rows.uptoBulk x.1 := by
      have h5 := bulk_len (List.map (fun x => x.fst) elems)
      rw [List.length_map] at h5
      rw [List.length_map, h1, hxx]
      simp only [Rows.uptoBulk]
      omega
    have hZs : SmallTs (Rows.uptoBulk x.1) (Z.map Prod.snd) := (smallTs_iff _ _).2 fun t ht => by
      obtain ⟨z, hz, rfl⟩ := List.mem_map.1 ht
      obtain ⟨i, hi⟩ := List.getElem?_of_mem hz
      exact (h2 i z hi).2.2
    suffices hKA : KidsAt (fun _ => True) w (some a) len cap (Z.map Prod.snd) from ⟨some a, len, cap, Z.map Prod.snd, rfl, hKA, hZl, hZs⟩
    refine KidsAt.of (by simp [h1]) hl hm fun i t hi => ?_
    simp only [List.getElem?_map, Option.map_eq_some_iff] at hi
    obtain ⟨z, hz, rfl⟩ := hi
    obtain ⟨hc, hT, -⟩ := h2 i z hz
    have h0 : a = ⟨a.block, a.off, none⟩ := by
      obtain ⟨z0, hz0⟩ := some_of_lt h1 (show 0 < len by have := (List.getElem?_eq_some_iff.1 hz).1; omega)
      have := (h2 0 z0 hz0).1 0 _ rfl
      exact spot_none (by simpa [Addr.add] using this)
    rw [h0] at hc
    simp only [Addr.add_lit] at hc
    have ha : ∀ j, a.off + (i * 6 + j) = a.off + i * 6 + j := fun j => by omega
    simp only [ha] at hc
    exact ⟨a.block, a.off, z.1, by rw [← h0], trivial, ⟨hc 0 _ rfl, hc 1 _ rfl, hc 2 _ rfl, hc 3 _ rfl, hc 4 _ rfl, hc 5 _ rfl⟩, hT⟩
end
end Go.Proofs.Ytdjojnlejkljdaa

namespace Go.Proofs.Ytdjojnlejkljdaa
open Go.ChangeShapes Go.WideShapes Go.ChangeAt Go.RowKit

set_option maxRecDepth 100000 in
theorem percolate_lifted (os : Os) (started : os.Started) (H : Type) (enc : TypeId × Value → H) (F : Stop.Interp) :
    ReturnsInHanded {} Try.checked os 4 .any ((Rows.OpenSpec.upto Rows.fnPercolateSpec).pre6 enc Try.prog Try.f4 Rows.fnPercolateUptoRow.domain false) (((Rows.OpenSpec.upto Rows.fnPercolateSpec).at F).post enc Try.prog Try.f4 false true false false) := by
  refine returnsInHanded_of_cond (C := Try.checked) (s := Rows.OpenSpec.upto Rows.fnPercolateSpec) (k := Rows.uptoSmall) rfl ownKnobs started (by kernel_rfl) Try.func4
    (OpenSpec.witness (enc := enc) (C := Try.checked) (s := Rows.OpenSpec.upto Rows.fnPercolateSpec) (k := Rows.uptoSmall) rfl false ⟨#[], #[.string ⟨#[]⟩, .slice none 0 0, .slice none 0 0], []⟩ 8 (by kernel_rfl) (by kernel_rfl) (by kernel_rfl)
      (x := ([.lit (.string []), .nil, .nil], [], [])) (by kernel_rfl) rfl (by kernel_rfl)) ?_
  intro W base args ds gs before hval hW _ hk _
  have hbulk : Rows.uptoBulkAll (ds ++ gs) ≤ 1048576 := of_decide_eq_true hk
  have hW' := hW
  obtain ⟨p, q, hA, hV, rfl, hfz, hnd⟩ := hW'
  have hA : DataW.TrodAll enc Try.prog W 0 (fun _ => true) true Try.f4.params.toList args.toList ds p := hA
  rw [Try.params4] at hA hval
  obtain ⟨v0, vs0, d0, ds0, p0, q0, hargs, rfl, rfl, h0, r0⟩ := trodAll_cons hA
  obtain ⟨v1, vs1, d1, ds1, p1, q1, rfl, rfl, rfl, h1, r1⟩ := trodAll_cons r0
  obtain ⟨v2, vs2, d2, ds2, p2, q2, rfl, rfl, rfl, h2, r2⟩ := trodAll_cons r1
  obtain ⟨rfl, rfl, rfl⟩ := trodAll_nil r2
  obtain rfl : args = #[v0, v1, v2] := by cases args; simp_all
  obtain ⟨rfl, rfl⟩ := trodVars_none hV
  obtain ⟨s0, rfl, rfl, rfl, w0⟩ := Go.ChangeMaps.open_string Try.underlying9 (hval 0 9 v0 rfl rfl) h0
  obtain ⟨a1, n1, c1, rfl⟩ := okWide_slice Try.underlying28 (hval 1 28 v1 rfl rfl)
  obtain ⟨fuel1, hf1⟩ := h1
  obtain ⟨a1', n1', c1', ps1, e1, hP1, hSl1, hSm1⟩ := kids_small hf1
  simp only [Value.cells, List.cons.injEq, and_true, Value.slice.injEq] at e1
  obtain ⟨rfl, rfl, rfl⟩ := e1
  obtain ⟨a2, n2, c2, rfl⟩ := okWide_slice Try.underlying25 (hval 2 25 v2 rfl rfl)
  obtain ⟨fuel2, hf2⟩ := h2
  obtain ⟨a2', n2', c2', ps2, e2, hP2⟩ := sets_of hf2
  simp only [Value.cells, List.cons.injEq, and_true, Value.slice.injEq] at e2
  obtain ⟨rfl, rfl, rfl⟩ := e2
  simp only [List.append_nil, Rows.uptoBulkAll] at hbulk
  refine (percolate_law s0 a1 n1 c1 ps1 a2 n2 c2 ps2 W hP1 (SmallTs.mono (show Rows.uptoBulk d1 ≤ 1048576 by omega) hSm1) hP2).mono fun e W' ⟨he, hx⟩ => ?_
  subst he
  exact ⟨_, rfl, post_law (s := Rows.fnPercolateSpec) laidOut (by kernel_rfl) (by kernel_rfl) Try.underlying4 rfl hW rfl hx⟩

/-- A percolate query has its field and its documents, or where a document is, and its settings: where what comes in is of bulk at most 1048576. -/
theorem percolate_proved : Rows.FnPercolateUptoSaid :=
  OpenClaim.holds_of_cond 4 Try.f4 rfl rfl rfl rfl rfl rfl rfl ⟨rfl, rfl, rfl, rfl, rfl⟩ rfl rfl rfl rfl rfl (by kernel_rfl) Try.func4 (by kernel_rfl)
    (of_decide_eq_true (by kernel_rfl)) (by unfold Func.isWrapper; first | (rw [if_pos (by decide +kernel)]; kernel_rfl) | (rw [if_neg (by decide +kernel)]; exact ⟨rfl, rfl⟩))
    (fun os started H enc _ F => percolate_lifted os started H enc F)
#print axioms percolate_proved
end Go.Proofs.Ytdjojnlejkljdaa

