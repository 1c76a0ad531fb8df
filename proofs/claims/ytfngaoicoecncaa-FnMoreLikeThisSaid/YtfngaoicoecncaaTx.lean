/-
  A list of texts as a tree; its length is bound.
-/
import Derived.Test.YtfngaoicoecncaaZz
import Derived.Test.YtfngaoicoecncaaTell
namespace Go.Proofs.Ytfngaoicoecncaa
open Go.RowKit

set_option maxHeartbeats 400000 in
theorem list_exact (a : Option Addr) (n c : Nat) (w : World) : Calls Try.prog 77 #[.slice a n c] w fun r w' => r = .returned (⟨4, ⟨#[]⟩, 0, false, none, 0, 0, a, n, c⟩ : El).val ∧ Ext w w' := by
  go_enter Try.func77, Try.ntmps77
  go_wp2
  refine post_tree rfl rfl (Box.at rfl _ _) rfl ⟨rfl, by (repeat (first | exact ext_refl _ | assumption | refine ext_alloc ?_ _ | refine ext_drew ?_ | refine ext_set ?_ (by simp) _ | refine ext_trans ?_ (by assumption)))⟩
set_option maxHeartbeats 2000000 in
theorem texts_any {S : Nat → Prop} (l : List ByteArray) (a : Option Addr) (n c : Nat) (w : World) (hb : l.length ≤ 4294967296) (hs : StrsAt S w a n c l) :
    Calls Try.prog 79 #[.slice a n c] w fun r w' => ∃ g : El, r = .returned g.val ∧ TreeAt (fun b => w.heap.size ≤ b) w' g (listT (l.map textT)) ∧ Ext w w' := by
  have hs := hs.keep (S' := fun b => b < w.heap.size) (fun b _ h2 => h2) (fun _ _ _ => rfl)
  obtain ⟨hn, hc, hm, hv⟩ := hs
  unfold maxLen at hm
  have HN := Lib.hid hn
  clear hn
  go_enter Try.func79, Try.ntmps79
  go_wp2_with (go_at_call 77; refine (list_exact none 0 0 _).mono ?_; rintro r wL ⟨rfl, hxL⟩; simp only [El.val])
  have hwL : w.heap.size + 1 ≤ wL.heap.size := by
    have h1 := hxL.sz
    simp at h1
    exact h1
  have hbL : Box wL w.heap.size (El.arr El0) 30 := (Box.at rfl _ _ : Box (w.alloc (.cells (El.arr El0) 30)) w.heap.size (El.arr El0) 30).ext hxL
  go_loopw [4] (fun i wr => Ext w wr ∧ Box wr w.heap.size (El.arr El0) 30 ∧ ∃ (j : Nat) (es : List El) (ca : Option Addr) (cn cc : Nat), j ≤ n ∧ i = .int .i64 j ∧ es.length = j ∧
    Making wr (wL.heap.size + 1) (wL.heap.size) 4 [] es none 0 0 ca cn cc ∧ Kin wr (wL.heap.size + 1) (.slice ca cn cc) es ((l.map textT).take j)) (fun i _ => n - (intOf i).toNat)
  case atStart =>
    exact ⟨ext_alloc (ext_trans (ext_alloc (ext_refl _) _) hxL) _, hbL.alloc _, 0, [], none, 0, 0, Nat.zero_le _, rfl, rfl, ⟨Box.at (by simp) _ _, World.ownsRow_nil _ _ _ _, World.ownsRow_nil _ _ _ _, by omega, fun _ h => by cases h⟩, Kin.nil _ _ _⟩
  case round =>
    obtain ⟨hx, hb1, j, es, ca, cn, cc, hj, rfl, hes, M, HK⟩ := hrel
    have HES := Lib.hid hes
    have HK := Lib.hid HK
    clear hes
    by_cases hlt : j < n
    · obtain ⟨q, hq⟩ := some_of_lt HN.out hlt
      obtain ⟨b, off, rfl, hSb, hcell⟩ := hv j q hq
      have hcell := hx.cell hcell
      have hqm : (l.map textT)[j]? = some (treeJ (.str q)) := by rw [List.getElem?_map, hq]; rfl
      have HQ := Lib.hid hqm
      clear hq hqm
      go_upto_region 5 with fail
      obtain ⟨o0, o1, o2, o3, o4, o5⟩ := M.box.six
      refine wp_region_order (C2 ⟨wL.heap.size, 5, none⟩ (.slice ca cn cc) ⟨b, off + j, none⟩ (.string q)) [0, 1, 2, 3, 4, 5, 9] [0, 1, 2, 3, 4, 5, 6, 7, 8, 9, 10] (by kernel_rfl) (by kernel_rfl) (fun d _ _ _ _ h => by cases d <;> exact h) (by kernel_rfl) ?_
      have hS : C2 ⟨wL.heap.size, 5, none⟩ (.slice ca cn cc) ⟨b, off + j, none⟩ (.string q) wr.drew := ⟨o5, hcell⟩
      iterate 6 (apply ord_held rfl rfl (by assumption) rfl; (focus ((intro w' hS'); go_simp; (try with_reducible rfl))); (try simp only [Act.put, List.setIfInBounds_toArray, List.set_cons_zero, List.set_cons_succ]))
      (apply ord_loud rfl rfl rfl; intro K hK; go_simp)
      have x0 : Ext wr wr.drew := ext_drew (ext_refl _)
      refine (text_any q _).mono ?_
      rintro r w2 ⟨e2, rfl, hT2', hx2⟩
      have hT2 := hT2' (fun b => wr.heap.size ≤ b)
      have x2 : Ext wr w2 := ext_trans x0 hx2
      refine hK _ _ (fun _ => ⟨x2.cell o5, x2.cell hcell⟩) ?_
      clear hK K
      simp only [El.val]
      (try simp only [Act.put, List.setIfInBounds_toArray, List.set_cons_zero, List.set_cons_succ])
      have x3 : Ext wr (w2.alloc (.cells #[.int .i64 e2.k, .string e2.x, .float .f64 e2.d, .bool e2.y, .slice e2.ka e2.n e2.kc, .slice e2.ca e2.m e2.cc] 30)) := ext_alloc x2 _
      have hbz : Box (w2.alloc (.cells #[.int .i64 e2.k, .string e2.x, .float .f64 e2.d, .bool e2.y, .slice e2.ka e2.n e2.kc, .slice e2.ca e2.m e2.cc] 30)) w2.heap.size e2.arr 30 := Box.new _ _ _
      have hT3 := hT2.ext (ext_alloc (ext_refl w2) (.cells #[.int .i64 e2.k, .string e2.x, .float .f64 e2.d, .bool e2.y, .slice e2.ka e2.n e2.kc, .slice e2.ca e2.m e2.cc] 30))
      (apply ord_loud rfl rfl rfl; intro K hK; go_simp)
      refine hK _ _ (fun _ => ⟨x3.cell o5, x3.cell hcell⟩) ?_
      clear hK K
      have M1 := M.ext x3
      have hMlt := M.box.lt
      have hs2 := x2.sz
      have hbd : ∀ q, (Value.slice ca cn cc).ownBlock = some q → q < wr.heap.size := fun q h => (M.kids.block h).2
      apply ord_loud rfl rfl rfl
      intro K hK
      refine wp_append_tree _ _ _ rfl (wL.heap.size + 1) _ es rfl M1.kids w2.heap.size e2 rfl (boxCells hbz) (by have := HES.out; have := HN.out; omega) (by simp; omega) ?_
      intro g1 cap1 w4 hown hgrow hlies hglt
      have hS : C1 ⟨wL.heap.size, 5, none⟩ (.slice ca cn cc) w4 := hgrow.cell (x3.cell o5) (fun e => absurd (M1.kids.block e.symm).1 (by simp))
      have hS2 : w4.cell? ⟨b, off + j, none⟩ = some (.string q) := hgrow.cell (x3.cell hcell) (fun e => by have h1 := (M1.kids.block e.symm).1; simp at h1; have h2 := hSb; omega)
      have q5 := (M1.boxMid' hgrow).free 5
      refine hK _ _ (fun _ => ⟨hS, hS2⟩) ?_
      clear hK K
      (try simp only [Act.put, List.setIfInBounds_toArray, List.set_cons_zero, List.set_cons_succ])
      have o5 := hS
      have hSS : C2 ⟨wL.heap.size, 5, none⟩ (.slice ca cn cc) ⟨b, off + j, none⟩ (.string q) w4 := ⟨hS, hS2⟩
      (apply ord_held rfl rfl (by assumption) rfl; (focus ((intro w' hS'); go_simp; (try with_reducible rfl))); (try simp only [Act.put, List.setIfInBounds_toArray, List.set_cons_zero, List.set_cons_succ]))
      (apply ord_last rfl rfl rfl (by kernel_rfl); intro K hK; go_simp; refine hK _ _ ?_; clear hK K; (try simp only [Act.put, List.setIfInBounds_toArray, List.set_cons_zero, List.set_cons_succ]))
      refine ord_end ?_
      have M2 := M1.kid hown hgrow hlies
      have hb2 := M1.boxKid (hb1.ext x3) (by omega) (by omega) hgrow 5 (.slice (some ⟨g1, 0, none⟩) (es.length + 1) cap1)
      have x4 := M1.extKid (ext_trans hx x3) (by omega) hgrow 5 (.slice (some ⟨g1, 0, none⟩) (es.length + 1) cap1)
      have HK2 := Lib.hid ((HK.out.ext x3).step (hT3.to fun b h1 h2 => ⟨Nat.le_trans (show wL.heap.size + 1 ≤ wr.heap.size by omega) h1, fun e => absurd (hbd b e) (Nat.not_lt.2 h1)⟩) hgrow hlies (by omega : wL.heap.size < wL.heap.size + 1) 5 (.slice (some ⟨g1, 0, none⟩) (es.length + 1) cap1) (es.length + 1) cap1)
      clear hown hgrow hlies hglt hS q5 M1 M o0 o1 o2 o3 o4 o5 hT2 hT3 hbz HK
      generalize w4.setCell ⟨wL.heap.size, 5, none⟩ (.slice (some ⟨g1, 0, none⟩) (es.length + 1) cap1) = w5 at M2 hb2 x4 HK2 ⊢
      go_wp2_with fail
      go_roundw
      case rel => exact ⟨x4, hb2, j + 1, es ++ [e2], _, _, _, by omega, by go_num, by simp [HES.out], M2, by rw [take_snoc HQ.out]; exact HK2.out⟩
      case measure => simp [intOf]; omega
    · obtain ⟨o0, o1, o2, o3, o4, o5⟩ := M.box.six
      obtain ⟨r0, r1, r2, r3, r4, r5⟩ := hb1.six
      have e0 := hb1.free 0
      have e1 := hb1.free 1
      have e2 := hb1.free 2
      have e3 := hb1.free 3
      have e4 := hb1.free 4
      have e5 := hb1.free 5
      have hMlt := M.box.lt
      go_wp2_with fail
      have M6 := M.sto6 (b := w.heap.size) (by omega) (by omega) (.int .i64 4) (.string ⟨#[]⟩) (.float .f64 0) (.bool false) (.slice none 0 0) (.slice ca cn cc)
      refine post_tree rfl rfl (hb1.sto ⟨4, ⟨#[]⟩, 0, false, none, 0, 0, ca, cn, cc⟩) rfl ⟨⟨4, ⟨#[]⟩, 0, false, none, 0, 0, ca, cn, cc⟩, rfl, ?_, ext_sto6 hx (by omega) _ _ _ _ _ _⟩
      have hfull : (l.map textT).take j = l.map textT := List.take_of_length_le (by rw [List.length_map]; have := HN.out; omega)
      have hK := HK.out
      rw [hfull] at hK
      refine M6.tree (ss := []) hK.1 (fun b hb => by cases hb) (fun b hb => by have := (M6.kids.block hb).1; omega) fun i e t h1 h2 => ?_
      refine TreeAt.keep (S := fun b => wL.heap.size + 1 ≤ b ∧ (Value.slice ca cn cc).ownBlock ≠ some b) (fun b hb _ => by have := hb.1; omega) (keeps_grown (grown_sto6 _ _ _ _ _ _ _ _) (fun b hb e => by injection e with e; have := hb.1; omega)) _ (hK.2 i e t h1 h2)
end Go.Proofs.Ytfngaoicoecncaa
