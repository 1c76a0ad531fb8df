/-
  Whatever is handed over becomes its tree.
-/
import Derived.Test.YtfngaoicoecncaaGreatDoorMo
namespace Go.Proofs.YtfngaoicoecncaaGreatDoor
open Go.RowKit

abbrev El0 : El := ⟨0, ⟨#[]⟩, 0, false, none, 0, 0, none, 0, 0⟩

set_option maxHeartbeats 1000000 in
theorem told_list (l : List J) (hT : ∀ j ∈ l, Told j) : Told (.list l) := by
  intro S v w h
  simp only [JAt] at h
  obtain ⟨a, n, c, vs, rfl, h2, h3, h4, h5, h6, h7⟩ := h
  have hc := fun w' (x : Ext w w') => listAny (S := S) l hT a n c vs w' h2 h3 h4 h5 (fun i u hi => by obtain ⟨b, off, e1, e2, e3⟩ := h6 i u hi; exact ⟨b, off, e1, e2, x.cell e3⟩) (h7.ext x)
  have HC := Lib.hid hc
  clear hc h7
  go_enter Tryz.func75, Tryz.ntmps75
  go_wp2_with (go_at_call 101; refine (HC.out _ (by (repeat (first | exact ext_refl _ | assumption | refine ext_alloc ?_ _ | refine ext_drew ?_ | refine ext_set ?_ (by simp) _ | refine ext_trans ?_ (by assumption))))).mono ?_; rintro r w2 ⟨e2, rfl, hT2, hx2⟩; simp only [El.val]; (have hb := (Box.at (w := w) rfl (El.arr El0) 26).ext hx2; obtain ⟨o0, o1, o2, o3, o4, o5⟩ := hb.six; have f0 := hb.free 0; have f1 := hb.free 1; have f2 := hb.free 2; have f3 := hb.free 3; have f4 := hb.free 4; have f5 := hb.free 5))
  have x1 := ext_trans (ext_alloc (ext_refl w) (.cells (El.arr El0) 26)) hx2
  refine post_tree rfl rfl (hb.sto e2) rfl ⟨e2, rfl, ?_, ext_sto6 x1 (Nat.le_refl _) _ _ _ _ _ _⟩
  simp only [World.size_alloc] at hT2
  exact TreeAt.keep (fun b hb _ => by omega) (keeps_sto w2 (by omega) e2) _ hT2
set_option maxHeartbeats 1000000 in
theorem told_map (ks : List ByteArray) (js : List J) (hT : ∀ j ∈ js, Told j) : Told (.map ks js) := by
  intro S v w h
  simp only [JAt] at h
  obtain ⟨b, vs, rfl, h2, h3, h4, h5, h6⟩ := h
  have hc := fun w' (x : Ext w w') => mapAny (S := S) ks js hT b vs w' h3 h4 (h5.ext x) (h6.ext x)
  have HC := Lib.hid hc
  clear hc h6 h5
  go_enter Tryz.func75, Tryz.ntmps75
  go_wp2_with (go_at_call 103; refine (HC.out _ (by (repeat (first | exact ext_refl _ | assumption | refine ext_alloc ?_ _ | refine ext_drew ?_ | refine ext_set ?_ (by simp) _ | refine ext_trans ?_ (by assumption))))).mono ?_; rintro r w2 ⟨e2, rfl, hT2, hx2⟩; simp only [El.val]; (have hb := (Box.at (w := w) rfl (El.arr El0) 26).ext hx2; obtain ⟨o0, o1, o2, o3, o4, o5⟩ := hb.six; have f0 := hb.free 0; have f1 := hb.free 1; have f2 := hb.free 2; have f3 := hb.free 3; have f4 := hb.free 4; have f5 := hb.free 5))
  have x1 := ext_trans (ext_alloc (ext_refl w) (.cells (El.arr El0) 26)) hx2
  refine post_tree rfl rfl (hb.sto e2) rfl ⟨e2, rfl, ?_, ext_sto6 x1 (Nat.le_refl _) _ _ _ _ _ _⟩
  simp only [World.size_alloc] at hT2
  exact TreeAt.keep (fun b hb _ => by omega) (keeps_sto w2 (by omega) e2) _ hT2

set_option maxHeartbeats 2000000 in
theorem listStr {S : Nat → Prop} (l : List ByteArray) (a : Option Addr) (n c : Nat) (w : World) (hb : l.length ≤ 4294967296) (hs : StrsAt S w a n c l) :
    Calls Tryz.prog 99 #[.slice a n c] w fun r w' => ∃ g : El, r = .returned g.val ∧ TreeAt (fun b => w.heap.size ≤ b) w' g (listT (l.map textT)) ∧ Ext w w' := by
  obtain ⟨hn, hc, hm, hv⟩ := hs
  unfold maxLen at hm
  have HN := Lib.hid hn
  clear hn
  go_enter Tryz.func99, Tryz.ntmps99
  go_wp2_with fail
  go_loopw [9] (fun i wr => Ext w wr ∧ Box wr w.heap.size (El.arr El0) 26 ∧ ∃ (j : Nat) (es : List El) (ca : Option Addr) (cn cc : Nat), j ≤ n ∧ i = .int .i64 j ∧ es.length = j ∧
    Making wr (w.heap.size + 2) (w.heap.size + 1) 4 [] es none 0 0 ca cn cc ∧ Kin wr (w.heap.size + 2) (.slice ca cn cc) es ((l.map textT).take j)) (fun i _ => n - (intOf i).toNat)
  case atStart =>
    exact ⟨by (repeat (first | exact ext_refl _ | assumption | refine ext_alloc ?_ _ | refine ext_drew ?_ | refine ext_set ?_ (by simp) _ | refine ext_trans ?_ (by assumption))), (Box.at rfl _ _).alloc _, 0, [], none, 0, 0, Nat.zero_le _, rfl, rfl, ⟨Box.at (by simp) _ _, World.ownsRow_nil _ _ _ _, World.ownsRow_nil _ _ _ _, by omega, fun _ h => by cases h⟩, Kin.nil _ _ _⟩
  case round =>
    obtain ⟨hx, hb1, j, es, ca, cn, cc, hj, rfl, hes, M, HK⟩ := hrel
    have HES := Lib.hid hes
    have HK := Lib.hid HK
    clear hes
    by_cases hlt : j < n
    · obtain ⟨q, hq⟩ := some_of_lt HN.out hlt
      obtain ⟨b, off, rfl, hSb, hcell⟩ := hv j q hq
      have hcell := hx.cell hcell
      have hqm : (l.map textT)[j]? = some (treeJ (.str q)) := by rw [List.getElem?_map, hq]; rfl
      have HQ := Lib.hid hqm
      clear hq hqm
      go_upto_region 5 with fail
      obtain ⟨o0, o1, o2, o3, o4, o5⟩ := M.box.six
      refine wp_region_order (C1 ⟨w.heap.size + 1, 5, none⟩ (.slice ca cn cc)) [0, 1, 2, 3, 7] [0, 1, 2, 3, 4, 5, 6, 7, 8] (by kernel_rfl) (by kernel_rfl) (fun d _ _ _ _ h => by cases d <;> exact h) (by kernel_rfl) ?_
      have hS : C1 ⟨w.heap.size + 1, 5, none⟩ (.slice ca cn cc) wr.drew := o5
      iterate 4 (apply ord_held rfl rfl (by assumption) rfl; (focus ((intro w' hS'); go_simp; (try with_reducible rfl))); (try simp only [Act.put, List.setIfInBounds_toArray, List.set_cons_zero, List.set_cons_succ]))
      (apply ord_loud rfl rfl rfl; intro K hK; go_simp)
      have x0 : Ext wr wr.drew := ext_drew (ext_refl _)
      refine (told_str q S _ _ (by simp only [JAt])).mono ?_
      rintro r w2 ⟨e2, rfl, hT2, hx2⟩
      have x2 : Ext wr w2 := ext_trans x0 hx2
      refine hK _ _ (fun _ => x2.cell o5) ?_
      clear hK K
      simp only [El.val]
      (try simp only [Act.put, List.setIfInBounds_toArray, List.set_cons_zero, List.set_cons_succ])
      have x3 : Ext wr (w2.alloc (.cells #[.int .i64 e2.k, .string e2.x, .float .f64 e2.d, .bool e2.y, .slice e2.ka e2.n e2.kc, .slice e2.ca e2.m e2.cc] 26)) := ext_alloc x2 _
      have hbz : Box (w2.alloc (.cells #[.int .i64 e2.k, .string e2.x, .float .f64 e2.d, .bool e2.y, .slice e2.ka e2.n e2.kc, .slice e2.ca e2.m e2.cc] 26)) w2.heap.size e2.arr 26 := Box.new _ _ _
      have hT3 := hT2.ext (ext_alloc (ext_refl w2) (.cells #[.int .i64 e2.k, .string e2.x, .float .f64 e2.d, .bool e2.y, .slice e2.ka e2.n e2.kc, .slice e2.ca e2.m e2.cc] 26))
      (apply ord_loud rfl rfl rfl; intro K hK; go_simp)
      refine hK _ _ (fun _ => x3.cell o5) ?_
      clear hK K
      have M1 := M.ext x3
      have hMlt := M.box.lt
      have hs2 := x2.sz
      have hbd : ∀ q, (Value.slice ca cn cc).ownBlock = some q → q < wr.heap.size := fun q h => (M.kids.block h).2
      apply ord_loud rfl rfl rfl
      intro K hK
      refine wp_append_tree _ _ _ rfl (w.heap.size + 2) _ es rfl M1.kids w2.heap.size e2 rfl (boxCells hbz) (by have := HES.out; have := HN.out; omega) (by simp; omega) ?_
      intro g1 cap1 w4 hown hgrow hlies hglt
      have hS : C1 ⟨w.heap.size + 1, 5, none⟩ (.slice ca cn cc) w4 := hgrow.cell (x3.cell o5) (fun e => absurd (M1.kids.block e.symm).1 (by simp))
      have q5 := (M1.boxMid' hgrow).free 5
      refine hK _ _ (fun _ => hS) ?_
      clear hK K
      (try simp only [Act.put, List.setIfInBounds_toArray, List.set_cons_zero, List.set_cons_succ])
      (apply ord_held rfl rfl (by assumption) rfl; (focus ((intro w' hS'); go_simp; (try with_reducible rfl))); (try simp only [Act.put, List.setIfInBounds_toArray, List.set_cons_zero, List.set_cons_succ]))
      have o5 := hS
      (apply ord_last rfl rfl rfl (by kernel_rfl); intro K hK; go_simp; refine hK _ _ ?_; clear hK K; (try simp only [Act.put, List.setIfInBounds_toArray, List.set_cons_zero, List.set_cons_succ]))
      refine ord_end ?_
      have M2 := M1.kid hown hgrow hlies
      have hb2 := M1.boxKid (hb1.ext x3) (by omega) (by omega) hgrow 5 (.slice (some ⟨g1, 0, none⟩) (es.length + 1) cap1)
      have x4 := M1.extKid (ext_trans hx x3) (by omega) hgrow 5 (.slice (some ⟨g1, 0, none⟩) (es.length + 1) cap1)
      have HK2 := Lib.hid ((HK.out.ext x3).step (hT3.to fun b h1 h2 => ⟨Nat.le_trans (show w.heap.size + 2 ≤ wr.heap.size by omega) h1, fun e => absurd (hbd b e) (Nat.not_lt.2 h1)⟩) hgrow hlies (by omega : w.heap.size + 1 < w.heap.size + 2) 5 (.slice (some ⟨g1, 0, none⟩) (es.length + 1) cap1) (es.length + 1) cap1)
      clear hown hgrow hlies hglt hS q5 M1 M o0 o1 o2 o3 o4 o5 hT2 hT3 hbz HK
      generalize w4.setCell ⟨w.heap.size + 1, 5, none⟩ (.slice (some ⟨g1, 0, none⟩) (es.length + 1) cap1) = w5 at M2 hb2 x4 HK2 ⊢
      go_wp2_with fail
      go_roundw
      case rel => exact ⟨x4, hb2, j + 1, es ++ [e2], _, _, _, by omega, by go_num, by simp [HES.out], M2, by rw [take_snoc HQ.out]; exact HK2.out⟩
      case measure => simp [intOf]; omega
    · obtain ⟨o0, o1, o2, o3, o4, o5⟩ := M.box.six
      obtain ⟨r0, r1, r2, r3, r4, r5⟩ := hb1.six
      have e0 := hb1.free 0
      have e1 := hb1.free 1
      have e2 := hb1.free 2
      have e3 := hb1.free 3
      have e4 := hb1.free 4
      have e5 := hb1.free 5
      have hMlt := M.box.lt
      go_wp2_with fail
      have M6 := M.sto6 (b := w.heap.size) (by omega) (by omega) (.int .i64 4) (.string ⟨#[]⟩) (.float .f64 0) (.bool false) (.slice none 0 0) (.slice ca cn cc)
      refine post_tree rfl rfl (hb1.sto ⟨4, ⟨#[]⟩, 0, false, none, 0, 0, ca, cn, cc⟩) rfl ⟨⟨4, ⟨#[]⟩, 0, false, none, 0, 0, ca, cn, cc⟩, rfl, ?_, ext_sto6 hx (by omega) _ _ _ _ _ _⟩
      have hfull : (l.map textT).take j = l.map textT := List.take_of_length_le (by rw [List.length_map]; have := HN.out; omega)
      have hK := HK.out
      rw [hfull] at hK
      refine M6.tree (ss := []) hK.1 (fun b hb => by cases hb) (fun b hb => by have := (M6.kids.block hb).1; omega) fun i e t h1 h2 => ?_
      refine TreeAt.keep (S := fun b => w.heap.size + 2 ≤ b ∧ (Value.slice ca cn cc).ownBlock ≠ some b) (fun b hb _ => by have := hb.1; omega) (keeps_grown (grown_sto6 _ _ _ _ _ _ _ _) (fun b hb e => by injection e with e; have := hb.1; omega)) _ (hK.2 i e t h1 h2)
set_option maxHeartbeats 1000000 in
theorem told_texts (l : List ByteArray) : Told (.texts l) := by
  intro S v w h
  simp only [JAt] at h
  obtain ⟨a, n, c, rfl, h2, h3⟩ := h
  have hc := fun w' (x : Ext w w') => listStr (S := S) l a n c w' h2 (h3.ext x)
  have HC := Lib.hid hc
  clear hc h3
  go_enter Tryz.func75, Tryz.ntmps75
  go_wp2_with (go_at_call 99; refine (HC.out _ (by (repeat (first | exact ext_refl _ | assumption | refine ext_alloc ?_ _ | refine ext_drew ?_ | refine ext_set ?_ (by simp) _ | refine ext_trans ?_ (by assumption))))).mono ?_; rintro r w2 ⟨e2, rfl, hT2, hx2⟩; simp only [El.val]; (have hb := (Box.at (w := w) rfl (El.arr El0) 26).ext hx2; obtain ⟨o0, o1, o2, o3, o4, o5⟩ := hb.six; have f0 := hb.free 0; have f1 := hb.free 1; have f2 := hb.free 2; have f3 := hb.free 3; have f4 := hb.free 4; have f5 := hb.free 5))
  have x1 := ext_trans (ext_alloc (ext_refl w) (.cells (El.arr El0) 26)) hx2
  refine post_tree rfl rfl (hb.sto e2) rfl ⟨e2, rfl, ?_, ext_sto6 x1 (Nat.le_refl _) _ _ _ _ _ _⟩
  simp only [World.size_alloc] at hT2
  exact TreeAt.keep (fun b hb _ => by omega) (keeps_sto w2 (by omega) e2) _ hT2

set_option maxHeartbeats 2000000 in
theorem listNum {S : Nat → Prop} (l : List Nat) (a : Option Addr) (n c : Nat) (w : World) (hb : l.length ≤ 4294967296) (hs : NumsAt S w a n c l) :
    Calls Tryz.prog 100 #[.slice a n c] w fun r w' => ∃ g : El, r = .returned g.val ∧ TreeAt (fun b => w.heap.size ≤ b) w' g (listT (l.map numT)) ∧ Ext w w' := by
  obtain ⟨hn, hc, hm, hv⟩ := hs
  unfold maxLen at hm
  have HN := Lib.hid hn
  clear hn
  go_enter Tryz.func100, Tryz.ntmps100
  go_wp2_with fail
  go_loopw [9] (fun i wr => Ext w wr ∧ Box wr w.heap.size (El.arr El0) 26 ∧ ∃ (j : Nat) (es : List El) (ca : Option Addr) (cn cc : Nat), j ≤ n ∧ i = .int .i64 j ∧ es.length = j ∧
    Making wr (w.heap.size + 2) (w.heap.size + 1) 4 [] es none 0 0 ca cn cc ∧ Kin wr (w.heap.size + 2) (.slice ca cn cc) es ((l.map numT).take j)) (fun i _ => n - (intOf i).toNat)
  case atStart =>
    exact ⟨by (repeat (first | exact ext_refl _ | assumption | refine ext_alloc ?_ _ | refine ext_drew ?_ | refine ext_set ?_ (by simp) _ | refine ext_trans ?_ (by assumption))), (Box.at rfl _ _).alloc _, 0, [], none, 0, 0, Nat.zero_le _, rfl, rfl, ⟨Box.at (by simp) _ _, World.ownsRow_nil _ _ _ _, World.ownsRow_nil _ _ _ _, by omega, fun _ h => by cases h⟩, Kin.nil _ _ _⟩
  case round =>
    obtain ⟨hx, hb1, j, es, ca, cn, cc, hj, rfl, hes, M, HK⟩ := hrel
    have HES := Lib.hid hes
    have HK := Lib.hid HK
    clear hes
    by_cases hlt : j < n
    · obtain ⟨q, hq⟩ := some_of_lt HN.out hlt
      obtain ⟨b, off, rfl, hSb, hcell⟩ := hv j q hq
      have hcell := hx.cell hcell
      have hqm : (l.map numT)[j]? = some (treeJ (.num q)) := by rw [List.getElem?_map, hq]; rfl
      have HQ := Lib.hid hqm
      clear hq hqm
      go_upto_region 5 with fail
      obtain ⟨o0, o1, o2, o3, o4, o5⟩ := M.box.six
      refine wp_region_order (C1 ⟨w.heap.size + 1, 5, none⟩ (.slice ca cn cc)) [0, 1, 2, 3, 7] [0, 1, 2, 3, 4, 5, 6, 7, 8] (by kernel_rfl) (by kernel_rfl) (fun d _ _ _ _ h => by cases d <;> exact h) (by kernel_rfl) ?_
      have hS : C1 ⟨w.heap.size + 1, 5, none⟩ (.slice ca cn cc) wr.drew := o5
      iterate 4 (apply ord_held rfl rfl (by assumption) rfl; (focus ((intro w' hS'); go_simp; (try with_reducible rfl))); (try simp only [Act.put, List.setIfInBounds_toArray, List.set_cons_zero, List.set_cons_succ]))
      (apply ord_loud rfl rfl rfl; intro K hK; go_simp)
      have x0 : Ext wr wr.drew := ext_drew (ext_refl _)
      refine (told_num q S _ _ (by simp only [JAt])).mono ?_
      rintro r w2 ⟨e2, rfl, hT2, hx2⟩
      have x2 : Ext wr w2 := ext_trans x0 hx2
      refine hK _ _ (fun _ => x2.cell o5) ?_
      clear hK K
      simp only [El.val]
      (try simp only [Act.put, List.setIfInBounds_toArray, List.set_cons_zero, List.set_cons_succ])
      have x3 : Ext wr (w2.alloc (.cells #[.int .i64 e2.k, .string e2.x, .float .f64 e2.d, .bool e2.y, .slice e2.ka e2.n e2.kc, .slice e2.ca e2.m e2.cc] 26)) := ext_alloc x2 _
      have hbz : Box (w2.alloc (.cells #[.int .i64 e2.k, .string e2.x, .float .f64 e2.d, .bool e2.y, .slice e2.ka e2.n e2.kc, .slice e2.ca e2.m e2.cc] 26)) w2.heap.size e2.arr 26 := Box.new _ _ _
      have hT3 := hT2.ext (ext_alloc (ext_refl w2) (.cells #[.int .i64 e2.k, .string e2.x, .float .f64 e2.d, .bool e2.y, .slice e2.ka e2.n e2.kc, .slice e2.ca e2.m e2.cc] 26))
      (apply ord_loud rfl rfl rfl; intro K hK; go_simp)
      refine hK _ _ (fun _ => x3.cell o5) ?_
      clear hK K
      have M1 := M.ext x3
      have hMlt := M.box.lt
      have hs2 := x2.sz
      have hbd : ∀ q, (Value.slice ca cn cc).ownBlock = some q → q < wr.heap.size := fun q h => (M.kids.block h).2
      apply ord_loud rfl rfl rfl
      intro K hK
      refine wp_append_tree _ _ _ rfl (w.heap.size + 2) _ es rfl M1.kids w2.heap.size e2 rfl (boxCells hbz) (by have := HES.out; have := HN.out; omega) (by simp; omega) ?_
      intro g1 cap1 w4 hown hgrow hlies hglt
      have hS : C1 ⟨w.heap.size + 1, 5, none⟩ (.slice ca cn cc) w4 := hgrow.cell (x3.cell o5) (fun e => absurd (M1.kids.block e.symm).1 (by simp))
      have q5 := (M1.boxMid' hgrow).free 5
      refine hK _ _ (fun _ => hS) ?_
      clear hK K
      (try simp only [Act.put, List.setIfInBounds_toArray, List.set_cons_zero, List.set_cons_succ])
      (apply ord_held rfl rfl (by assumption) rfl; (focus ((intro w' hS'); go_simp; (try with_reducible rfl))); (try simp only [Act.put, List.setIfInBounds_toArray, List.set_cons_zero, List.set_cons_succ]))
      have o5 := hS
      (apply ord_last rfl rfl rfl (by kernel_rfl); intro K hK; go_simp; refine hK _ _ ?_; clear hK K; (try simp only [Act.put, List.setIfInBounds_toArray, List.set_cons_zero, List.set_cons_succ]))
      refine ord_end ?_
      have M2 := M1.kid hown hgrow hlies
      have hb2 := M1.boxKid (hb1.ext x3) (by omega) (by omega) hgrow 5 (.slice (some ⟨g1, 0, none⟩) (es.length + 1) cap1)
      have x4 := M1.extKid (ext_trans hx x3) (by omega) hgrow 5 (.slice (some ⟨g1, 0, none⟩) (es.length + 1) cap1)
      have HK2 := Lib.hid ((HK.out.ext x3).step (hT3.to fun b h1 h2 => ⟨Nat.le_trans (show w.heap.size + 2 ≤ wr.heap.size by omega) h1, fun e => absurd (hbd b e) (Nat.not_lt.2 h1)⟩) hgrow hlies (by omega : w.heap.size + 1 < w.heap.size + 2) 5 (.slice (some ⟨g1, 0, none⟩) (es.length + 1) cap1) (es.length + 1) cap1)
      clear hown hgrow hlies hglt hS q5 M1 M o0 o1 o2 o3 o4 o5 hT2 hT3 hbz HK
      generalize w4.setCell ⟨w.heap.size + 1, 5, none⟩ (.slice (some ⟨g1, 0, none⟩) (es.length + 1) cap1) = w5 at M2 hb2 x4 HK2 ⊢
      go_wp2_with fail
      go_roundw
      case rel => exact ⟨x4, hb2, j + 1, es ++ [e2], _, _, _, by omega, by go_num, by simp [HES.out], M2, by rw [take_snoc HQ.out]; exact HK2.out⟩
      case measure => simp [intOf]; omega
    · obtain ⟨o0, o1, o2, o3, o4, o5⟩ := M.box.six
      obtain ⟨r0, r1, r2, r3, r4, r5⟩ := hb1.six
      have e0 := hb1.free 0
      have e1 := hb1.free 1
      have e2 := hb1.free 2
      have e3 := hb1.free 3
      have e4 := hb1.free 4
      have e5 := hb1.free 5
      have hMlt := M.box.lt
      go_wp2_with fail
      have M6 := M.sto6 (b := w.heap.size) (by omega) (by omega) (.int .i64 4) (.string ⟨#[]⟩) (.float .f64 0) (.bool false) (.slice none 0 0) (.slice ca cn cc)
      refine post_tree rfl rfl (hb1.sto ⟨4, ⟨#[]⟩, 0, false, none, 0, 0, ca, cn, cc⟩) rfl ⟨⟨4, ⟨#[]⟩, 0, false, none, 0, 0, ca, cn, cc⟩, rfl, ?_, ext_sto6 hx (by omega) _ _ _ _ _ _⟩
      have hfull : (l.map numT).take j = l.map numT := List.take_of_length_le (by rw [List.length_map]; have := HN.out; omega)
      have hK := HK.out
      rw [hfull] at hK
      refine M6.tree (ss := []) hK.1 (fun b hb => by cases hb) (fun b hb => by have := (M6.kids.block hb).1; omega) fun i e t h1 h2 => ?_
      refine TreeAt.keep (S := fun b => w.heap.size + 2 ≤ b ∧ (Value.slice ca cn cc).ownBlock ≠ some b) (fun b hb _ => by have := hb.1; omega) (keeps_grown (grown_sto6 _ _ _ _ _ _ _ _) (fun b hb e => by injection e with e; have := hb.1; omega)) _ (hK.2 i e t h1 h2)
set_option maxHeartbeats 1000000 in
theorem told_nums (l : List Nat) : Told (.nums l) := by
  intro S v w h
  simp only [JAt] at h
  obtain ⟨a, n, c, rfl, h2, h3⟩ := h
  have hc := fun w' (x : Ext w w') => listNum (S := S) l a n c w' h2 (h3.ext x)
  have HC := Lib.hid hc
  clear hc h3
  go_enter Tryz.func75, Tryz.ntmps75
  go_wp2_with (go_at_call 100; refine (HC.out _ (by (repeat (first | exact ext_refl _ | assumption | refine ext_alloc ?_ _ | refine ext_drew ?_ | refine ext_set ?_ (by simp) _ | refine ext_trans ?_ (by assumption))))).mono ?_; rintro r w2 ⟨e2, rfl, hT2, hx2⟩; simp only [El.val]; (have hb := (Box.at (w := w) rfl (El.arr El0) 26).ext hx2; obtain ⟨o0, o1, o2, o3, o4, o5⟩ := hb.six; have f0 := hb.free 0; have f1 := hb.free 1; have f2 := hb.free 2; have f3 := hb.free 3; have f4 := hb.free 4; have f5 := hb.free 5))
  have x1 := ext_trans (ext_alloc (ext_refl w) (.cells (El.arr El0) 26)) hx2
  refine post_tree rfl rfl (hb.sto e2) rfl ⟨e2, rfl, ?_, ext_sto6 x1 (Nat.le_refl _) _ _ _ _ _ _⟩
  simp only [World.size_alloc] at hT2
  exact TreeAt.keep (fun b hb _ => by omega) (keeps_sto w2 (by omega) e2) _ hT2

mutual
theorem told : ∀ j : J, Told j
  | .null => told_null
  | .str s => told_str s
  | .yes b => told_yes b
  | .num x => told_num x
  | .int i => told_int i
  | .long i => told_long i
  | .texts l => told_texts l
  | .nums l => told_nums l
  | .list l => told_list l (tolds l)
  | .map ks js => told_map ks js (tolds js)
theorem tolds : ∀ (l : List J) (j : J), j ∈ l → Told j
  | [], _, h => by cases h
  | j :: r, q, h => by
    rcases List.mem_cons.1 h with e | h
    · rw [e]; exact told j
    · exact tolds r q h
end

set_option maxHeartbeats 1000000 in
/-- What a builder gives, and that it gives something. -/
theorem told_any {S : Nat → Prop} (v : Value) (j : J) (w : World) (h : JAt S w v j) : Calls Tryz.prog 38 #[v, .nilIface] w fun r w' => ∃ g : El, r = .returned (.tuple #[g.val, .bool true]) ∧ TreeAt (fun b => w.heap.size ≤ b) w' g (treeJ j) ∧ Ext w w' := by
  have hc := fun w' (x : Ext w w') => told j S v w' (h.ext x)
  have HC := Lib.hid hc
  clear hc h
  go_enter Tryz.func38, Tryz.ntmps38
  go_wp2_with (go_at_call 75; refine (HC.out _ (by (repeat (first | exact ext_refl _ | assumption | refine ext_alloc ?_ _ | refine ext_drew ?_ | refine ext_set ?_ (by simp) _ | refine ext_trans ?_ (by assumption))))).mono ?_; rintro r w2 ⟨e2, rfl, hT2, hx2⟩; simp only [El.val]; (have hb := (Box.at (w := w) rfl (El.arr El0) 26).ext hx2; obtain ⟨o0, o1, o2, o3, o4, o5⟩ := hb.six; have f0 := hb.free 0; have f1 := hb.free 1; have f2 := hb.free 2; have f3 := hb.free 3; have f4 := hb.free 4; have f5 := hb.free 5))
  have x1 := ext_trans (ext_alloc (ext_refl w) (.cells (El.arr El0) 26)) hx2
  refine post_tree2 rfl rfl (hb.sto e2) rfl ⟨e2, rfl, ?_, ext_sto6 x1 (Nat.le_refl _) _ _ _ _ _ _⟩
  simp only [World.size_alloc] at hT2
  exact TreeAt.keep (fun b hb _ => by omega) (keeps_sto w2 (by omega) e2) _ hT2
end Go.Proofs.YtfngaoicoecncaaGreatDoor
