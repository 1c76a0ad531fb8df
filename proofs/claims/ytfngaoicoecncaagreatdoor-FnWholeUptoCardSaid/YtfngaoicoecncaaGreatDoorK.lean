/-
  Lists of trees that a loop makes; a list handed over becomes a list of trees.
-/
import Derived.Test.YtfngaoicoecncaaGreatDoorJ
namespace Go.Proofs.YtfngaoicoecncaaGreatDoor
open Go.RowKit Go.Maps

/-- Trees of the call's own under a list that grows. -/
def Kin (w : World) (base : Nat) (v : Value) (es : List El) (ts : List T) : Prop := ts.length = es.length ∧ ∀ (i : Nat) (e : El) (t : T), es[i]? = some e → ts[i]? = some t → TreeAt (fun b => base ≤ b ∧ v.ownBlock ≠ some b) w e t
theorem Kin.nil (w : World) (base : Nat) (v : Value) : Kin w base v [] [] := ⟨rfl, fun _ _ _ h => by simp at h⟩
theorem Kin.ext {w w' : World} {base : Nat} {v : Value} {es : List El} {ts : List T} (h : Kin w base v es ts) (x : Ext w w') : Kin w' base v es ts := ⟨h.1, fun i e t h1 h2 => (h.2 i e t h1 h2).ext x⟩
theorem Kin.step {w w1 : World} {base bo g : Nat} {v : Value} {es : List El} {ts : List T} (h : Kin w base v es ts) {e : El} {t : T} (ht : TreeAt (fun b => base ≤ b ∧ v.ownBlock ≠ some b) w e t)
    (hg : w.grownBy w1 v.ownBlock) (hl : Lies w v g) (hbo : bo < base) (i : Nat) (u : Value) (n cap : Nat) : Kin (w1.setCell ⟨bo, i, none⟩ u) base (.slice (some ⟨g, 0, none⟩) n cap) (es ++ [e]) (ts ++ [t]) := by
  have hk : Keeps (fun b => base ≤ b ∧ v.ownBlock ≠ some b) w (w1.setCell ⟨bo, i, none⟩ u) := fun b hs hb =>
    (Below.heap_setCell _ _ _ _ (by show b ≠ bo; have := hs.1; omega)).trans (hg.block b hb (fun e => hs.2 e.symm))
  have hS : ∀ b, (base ≤ b ∧ v.ownBlock ≠ some b) → b < w.heap.size → base ≤ b ∧ (Value.slice (some ⟨g, 0, none⟩) n cap).ownBlock ≠ some b := fun b hb hlt => by
    refine ⟨hb.1, fun e => ?_⟩
    simp only [Value.ownBlock, Option.some.injEq] at e
    rcases hl with hl | hl
    · exact hb.2 (by rw [hl, e])
    · omega
  refine ⟨by simp [h.1], fun j e' t' h1 h2 => ?_⟩
  by_cases hj : j < es.length
  · rw [List.getElem?_append_left hj] at h1
    rw [List.getElem?_append_left (by rw [h.1]; exact hj)] at h2
    exact TreeAt.keep hS hk _ (h.2 j e' t' h1 h2)
  · have hjl := (List.getElem?_eq_some_iff.1 h1).1
    simp only [List.length_append, List.length_cons, List.length_nil] at hjl
    have hje : j = es.length := by omega
    subst hje
    rw [List.getElem?_append_right (Nat.le_refl _)] at h1
    rw [List.getElem?_append_right (by rw [h.1]; exact Nat.le_refl _), h.1] at h2
    simp at h1 h2
    subst h1; subst h2
    exact TreeAt.keep hS hk _ ht

theorem treesJ_len : ∀ l : List J, (treesJ l).length = l.length
  | [] => rfl
  | j :: r => by simp [treesJ, treesJ_len r]
theorem treesJ_get : ∀ {l : List J} {i : Nat} {j : J}, l[i]? = some j → (treesJ l)[i]? = some (treeJ j)
  | [], _, _, h => by simp at h
  | j :: r, 0, q, h => by simp at h; subst h; simp [treesJ]
  | j :: r, i + 1, q, h => by simpa [treesJ] using treesJ_get (l := r) (by simpa using h)
theorem take_snoc {α : Type} {l : List α} {i : Nat} {x : α} (h : l[i]? = some x) : l.take (i + 1) = l.take i ++ [x] := by
  rw [List.take_add_one, h]; rfl

set_option maxHeartbeats 2000000 in
theorem listAny {S : Nat → Prop} (l : List J) (hT : ∀ j ∈ l, Told j) (a : Option Addr) (n c : Nat) (vs : List Value) (w : World) (hb : l.length ≤ 4294967296) (hn : l.length = n) (hc : n ≤ c) (hm : c ≤ maxLen)
    (hv : ∀ i u, vs[i]? = some u → ∃ b off, a = some ⟨b, off, none⟩ ∧ S b ∧ w.cell? ⟨b, off + i, none⟩ = some u) (hJ : JsAt S w vs l) :
    Calls Tryz.prog 101 #[.slice a n c] w fun r w' => ∃ g : El, r = .returned g.val ∧ TreeAt (fun b => w.heap.size ≤ b) w' g (listT (treesJ l)) ∧ Ext w w' := by
  unfold maxLen at hm
  have hvl := hJ.len
  have HN := Lib.hid hn
  have HVL := Lib.hid hvl
  have HJ := Lib.hid hJ
  clear hn hvl hJ
  go_enter Tryz.func101, Tryz.ntmps101
  go_wp2_with fail
  go_loopw [9] (fun i wr => Ext w wr ∧ Box wr w.heap.size (El.arr ⟨0, ⟨#[]⟩, 0, false, none, 0, 0, none, 0, 0⟩) 26 ∧ ∃ (j : Nat) (es : List El) (ca : Option Addr) (cn cc : Nat), j ≤ n ∧ i = .int .i64 j ∧ es.length = j ∧
    Making wr (w.heap.size + 2) (w.heap.size + 1) 4 [] es none 0 0 ca cn cc ∧ Kin wr (w.heap.size + 2) (.slice ca cn cc) es ((treesJ l).take j)) (fun i _ => n - (intOf i).toNat)
  case atStart =>
    exact ⟨by (repeat (first | exact ext_refl _ | assumption | refine ext_alloc ?_ _ | refine ext_drew ?_ | refine ext_set ?_ (by simp) _ | refine ext_trans ?_ (by assumption))), (Box.at rfl _ _).alloc _, 0, [], none, 0, 0, Nat.zero_le _, rfl, rfl, ⟨Box.at (by simp) _ _, World.ownsRow_nil _ _ _ _, World.ownsRow_nil _ _ _ _, by omega, fun _ h => by cases h⟩, Kin.nil _ _ _⟩
  case round =>
    obtain ⟨hx, hb1, j, es, ca, cn, cc, hj, rfl, hes, M, HK⟩ := hrel
    have HES := Lib.hid hes
    have HK := Lib.hid HK
    clear hes
    by_cases hlt : j < n
    · obtain ⟨q, hq⟩ := some_of_lt HN.out hlt
      obtain ⟨u, hu⟩ := some_of_lt (l := vs) (HVL.out.trans HN.out) hlt
      obtain ⟨b, off, rfl, hSb, hcell⟩ := hv j u hu
      have hcell := hx.cell hcell
      have HQ := Lib.hid hq
      have HU := Lib.hid hu
      clear hq hu
      go_upto_region 5 with fail
      obtain ⟨o0, o1, o2, o3, o4, o5⟩ := M.box.six
      refine wp_region_order (C1 ⟨w.heap.size + 1, 5, none⟩ (.slice ca cn cc)) [0, 1, 2, 6] [0, 1, 2, 3, 4, 5, 6, 7] (by kernel_rfl) (by kernel_rfl) (fun d _ _ _ _ h => by cases d <;> exact h) (by kernel_rfl) ?_
      have hS : C1 ⟨w.heap.size + 1, 5, none⟩ (.slice ca cn cc) wr.drew := o5
      iterate 3 (apply ord_held rfl rfl (by assumption) rfl; (focus ((intro w' hS'); go_simp; (try with_reducible rfl))); (try simp only [Act.put, List.setIfInBounds_toArray, List.set_cons_zero, List.set_cons_succ]))
      (apply ord_loud rfl rfl rfl; intro K hK; go_simp)
      have x0 : Ext wr wr.drew := ext_drew (ext_refl _)
      refine (hT q (List.mem_of_getElem? HQ.out) S u _ ((HJ.out.get HU.out HQ.out).ext (ext_trans hx x0))).mono ?_
      rintro r w2 ⟨e2, rfl, hT2, hx2⟩
      have x2 : Ext wr w2 := ext_trans x0 hx2
      refine hK _ _ (fun _ => x2.cell o5) ?_
      clear hK K
      simp only [El.val]
      (try simp only [Act.put, List.setIfInBounds_toArray, List.set_cons_zero, List.set_cons_succ])
      have x3 : Ext wr (w2.alloc (.cells #[.int .i64 e2.k, .string e2.x, .float .f64 e2.d, .bool e2.y, .slice e2.ka e2.n e2.kc, .slice e2.ca e2.m e2.cc] 26)) := ext_alloc x2 _
      have hbz : Box (w2.alloc (.cells #[.int .i64 e2.k, .string e2.x, .float .f64 e2.d, .bool e2.y, .slice e2.ka e2.n e2.kc, .slice e2.ca e2.m e2.cc] 26)) w2.heap.size e2.arr 26 := Box.new _ _ _
      have hT3 := hT2.ext (ext_alloc (ext_refl w2) (.cells #[.int .i64 e2.k, .string e2.x, .float .f64 e2.d, .bool e2.y, .slice e2.ka e2.n e2.kc, .slice e2.ca e2.m e2.cc] 26))
      (apply ord_loud rfl rfl rfl; intro K hK; go_simp)
      refine hK _ _ (fun _ => x3.cell o5) ?_
      clear hK K
      have M1 := M.ext x3
      have hMlt := M.box.lt
      have hs2 := x2.sz
      have hbd : ∀ q, (Value.slice ca cn cc).ownBlock = some q → q < wr.heap.size := fun q h => (M.kids.block h).2
      apply ord_loud rfl rfl rfl
      intro K hK
      refine wp_append_tree _ _ _ rfl (w.heap.size + 2) _ es rfl M1.kids w2.heap.size e2 rfl (boxCells hbz) (by have := HES.out; have := HN.out; omega) (by simp; omega) ?_
      intro g1 cap1 w4 hown hgrow hlies hglt
      have hS : C1 ⟨w.heap.size + 1, 5, none⟩ (.slice ca cn cc) w4 := hgrow.cell (x3.cell o5) (fun e => absurd (M1.kids.block e.symm).1 (by simp))
      have q5 := (M1.boxMid' hgrow).free 5
      refine hK _ _ (fun _ => hS) ?_
      clear hK K
      (try simp only [Act.put, List.setIfInBounds_toArray, List.set_cons_zero, List.set_cons_succ])
      (apply ord_held rfl rfl (by assumption) rfl; (focus ((intro w' hS'); go_simp; (try with_reducible rfl))); (try simp only [Act.put, List.setIfInBounds_toArray, List.set_cons_zero, List.set_cons_succ]))
      have o5 := hS
      (apply ord_last rfl rfl rfl (by kernel_rfl); intro K hK; go_simp; refine hK _ _ ?_; clear hK K; (try simp only [Act.put, List.setIfInBounds_toArray, List.set_cons_zero, List.set_cons_succ]))
      refine ord_end ?_
      have M2 := M1.kid hown hgrow hlies
      have hb2 := M1.boxKid (hb1.ext x3) (by omega) (by omega) hgrow 5 (.slice (some ⟨g1, 0, none⟩) (es.length + 1) cap1)
      have x4 := M1.extKid (ext_trans hx x3) (by omega) hgrow 5 (.slice (some ⟨g1, 0, none⟩) (es.length + 1) cap1)
      have HK2 := Lib.hid ((HK.out.ext x3).step (hT3.to fun b h1 h2 => ⟨Nat.le_trans (show w.heap.size + 2 ≤ wr.heap.size by omega) h1, fun e => absurd (hbd b e) (Nat.not_lt.2 h1)⟩) hgrow hlies (by omega : w.heap.size + 1 < w.heap.size + 2) 5 (.slice (some ⟨g1, 0, none⟩) (es.length + 1) cap1) (es.length + 1) cap1)
      clear hown hgrow hlies hglt hS q5 M1 M o0 o1 o2 o3 o4 o5 hT2 hT3 hbz HK
      generalize w4.setCell ⟨w.heap.size + 1, 5, none⟩ (.slice (some ⟨g1, 0, none⟩) (es.length + 1) cap1) = w5 at M2 hb2 x4 HK2 ⊢
      go_wp2_with fail
      go_roundw
      case rel => exact ⟨x4, hb2, j + 1, es ++ [e2], _, _, _, by omega, by go_num, by simp [HES.out], M2, by rw [take_snoc (treesJ_get HQ.out)]; exact HK2.out⟩
      case measure => simp [intOf]; omega
    · obtain ⟨o0, o1, o2, o3, o4, o5⟩ := M.box.six
      obtain ⟨r0, r1, r2, r3, r4, r5⟩ := hb1.six
      have e0 := hb1.free 0
      have e1 := hb1.free 1
      have e2 := hb1.free 2
      have e3 := hb1.free 3
      have e4 := hb1.free 4
      have e5 := hb1.free 5
      have hMlt := M.box.lt
      go_wp2_with fail
      have M6 := M.sto6 (b := w.heap.size) (by omega) (by omega) (.int .i64 4) (.string ⟨#[]⟩) (.float .f64 0) (.bool false) (.slice none 0 0) (.slice ca cn cc)
      refine post_tree rfl rfl (hb1.sto ⟨4, ⟨#[]⟩, 0, false, none, 0, 0, ca, cn, cc⟩) rfl ⟨⟨4, ⟨#[]⟩, 0, false, none, 0, 0, ca, cn, cc⟩, rfl, ?_, ext_sto6 hx (by omega) _ _ _ _ _ _⟩
      have hfull : (treesJ l).take j = treesJ l := List.take_of_length_le (by rw [treesJ_len]; have := HN.out; omega)
      have hK := HK.out
      rw [hfull] at hK
      refine M6.tree (ss := []) hK.1 (fun b hb => by cases hb) (fun b hb => by have := (M6.kids.block hb).1; omega) fun i e t h1 h2 => ?_
      refine TreeAt.keep (S := fun b => w.heap.size + 2 ≤ b ∧ (Value.slice ca cn cc).ownBlock ≠ some b) (fun b hb _ => by have := hb.1; omega) (keeps_grown (grown_sto6 _ _ _ _ _ _ _ _) (fun b hb e => by injection e with e; have := hb.1; omega)) _ (hK.2 i e t h1 h2)
end Go.Proofs.YtfngaoicoecncaaGreatDoor
