/-
  What the builder of a query (Boosting) gives behind settings, in order.
-/
import Derived.Test.YtpkkdmopcfcnkaaBoosting
import Derived.Test.YtpkkdmopcfcnkaaNb
namespace Go.Proofs.Ytpkkdmopcfcnkaa
open Go.RowKit

set_option maxRecDepth 20000 in
set_option maxHeartbeats 4000000 in
theorem boosting_any {S : Nat → Prop} (a : Option Addr) (n c : Nat) (ps : List (ByteArray × T)) (w : World) (ge : El) (gt : T) (hgT : TreeAt S w ge gt) (hgF : FullT gt) (g2e : El) (g2t : T) (hg2T : TreeAt S w g2e g2t) (hg2F : FullT g2t) (h : PairsAt S w a n c ps) :
    Calls Try.prog 21 #[ge.val, g2e.val, .slice a n c] w fun r w' => ∃ g : El, r = .returned (.tuple #[g.val, .bool true]) ∧ TreeAt (fun b => w.heap.size + 1 ≤ b) w' g (treeJ (jMap [(s_boosting, jMap ([(s_positive, jFull gt)] ++ [(s_negative, jFull g2t)] ++ jN s_negative_boost (lastOf ps s_negative_boost) ++ jN s_boost (lastOf ps s_boost)))])) ∧ Ext w w' := by
  obtain ⟨hl, hn, hm, hc⟩ := h
  unfold maxLen at hm
  have HL := Lib.hid hl
  clear hl
  have HTg := Lib.hid (fun (w1 : World) (x : Ext w w1) => (TreeAt.ext x hgT).any)
  clear hgT
  have HTg2 := Lib.hid (fun (w1 : World) (x : Ext w w1) => (TreeAt.ext x hg2T).any)
  clear hg2T
  simp only [El.val]
  go_enter Try.func21, Try.ntmps21
  have hW0a : Box (((w.alloc (.cells ge.arr 26)).alloc (.cells g2e.arr 26)).alloc (.cells (El.arr El0) 26)) w.heap.size ge.arr 26 := ((Box.at rfl _ _).alloc _).alloc _
  have hW0b : Box (((w.alloc (.cells ge.arr 26)).alloc (.cells g2e.arr 26)).alloc (.cells (El.arr El0) 26)) (w.heap.size + 1) g2e.arr 26 := (Box.at (by simp) _ _).alloc _
  have hW0r : Box (((w.alloc (.cells ge.arr 26)).alloc (.cells g2e.arr 26)).alloc (.cells (El.arr El0) 26)) (w.heap.size + 1 + 1) (El.arr El0) 26 := Box.at (by simp) _ _
  have hxW0 : Ext w (((w.alloc (.cells ge.arr 26)).alloc (.cells g2e.arr 26)).alloc (.cells (El.arr El0) 26)) := ext_alloc (ext_alloc (ext_alloc (ext_refl _) _) _) _
  have hsW0 : (((w.alloc (.cells ge.arr 26)).alloc (.cells g2e.arr 26)).alloc (.cells (El.arr El0) 26)).heap.size = w.heap.size + 1 + 1 + 1 := by simp
  go_upto_region 1 with fail
  generalize hWW : (((w.alloc (.cells #[.int .i64 ge.k, .string ge.x, .float .f64 ge.d, .bool ge.y, .slice ge.ka ge.n ge.kc, .slice ge.ca ge.m ge.cc] 26)).alloc (.cells #[.int .i64 g2e.k, .string g2e.x, .float .f64 g2e.d, .bool g2e.y, .slice g2e.ka g2e.n g2e.kc, .slice g2e.ca g2e.m g2e.cc] 26)).alloc (.cells #[.int .i64 0, .string ⟨#[]⟩, .float .f64 0, .bool false, .slice none 0 0, .slice none 0 0] 26)) = w0
  have hWW2 : (((w.alloc (.cells ge.arr 26)).alloc (.cells g2e.arr 26)).alloc (.cells (El.arr El0) 26)) = w0 := hWW
  rw [hWW2] at hW0a hW0b hW0r hxW0 hsW0
  clear hWW hWW2
  refine wp_region_order (fun w' => Six w' w.heap.size ge ∧ Six w' (w.heap.size + 1) g2e) [1, 2, 3, 5, 6, 7, 9] [1, 2, 3, 5, 6, 7, 0, 4, 8, 9] (by kernel_rfl) (by kernel_rfl) (fun d _ _ _ _ h => by cases d <;> exact h) (by kernel_rfl) ?_
  have hS : (fun w' => Six w' w.heap.size ge ∧ Six w' (w.heap.size + 1) g2e) w0.drew := ⟨hW0a.Six, hW0b.Six⟩
  iterate 6 (apply ord_held rfl rfl (by assumption) rfl; (focus ((intro w' hS'); go_simp; (try with_reducible rfl))); (try simp only [Act.put, List.setIfInBounds_toArray, List.set_cons_zero, List.set_cons_succ]))
  (apply ord_loud rfl rfl rfl; intro K hK; go_simp)
  refine (newBoosting_any _).mono ?_
  rintro r w1 ⟨rfl, hw1⟩
  have hs1 : w0.drew.heap.size = w.heap.size + 1 + 1 + 1 := hsW0
  rw [hs1]
  have hx1 : Ext w0 w1 := by rw [hw1]; exact ext_alloc (ext_drew (ext_refl _)) _
  have hb1 : Box w1 (w.heap.size + 1 + 1 + 1) #[.nilIface, .nilIface, .nilIface, .pointer none, .pointer none] 164 := by rw [hw1]; exact Box.at hs1 _ _
  clear hw1
  have hr1 := hW0r.ext hx1
  have hxa1 := ext_trans hxW0 hx1
  have hS1 : (fun w' => Six w' w.heap.size ge ∧ Six w' (w.heap.size + 1) g2e) w1 := ⟨Six.ext hx1 hW0a.Six, Six.ext hx1 hW0b.Six⟩
  have hl1 := hb1.lt
  refine hK _ _ (fun _ => hS1) ?_
  clear hK K hS
  (try simp only [Act.put, List.setIfInBounds_toArray, List.set_cons_zero, List.set_cons_succ])
  (apply ord_loud rfl rfl rfl; intro K hK; go_simp)
  refine (positive_any _ _ _ _ hb1 _ _).mono ?_
  rintro r w2 ⟨rfl, hw2⟩
  have hb2 := hb1.set 1 (.iface 73 ge.val)
  have hr2 := hr1.other (p := ⟨w.heap.size + 1 + 1 + 1, 1, none⟩) (by simp) (.iface 73 ge.val)
  have hxa2 : Ext w (w1.setCell ⟨w.heap.size + 1 + 1 + 1, 1, none⟩ (.iface 73 ge.val)) := ext_set hxa1 (by simp; omega) _
  have hS2 : (fun w' => Six w' w.heap.size ge ∧ Six w' (w.heap.size + 1) g2e) (w1.setCell ⟨w.heap.size + 1 + 1 + 1, 1, none⟩ (.iface 73 ge.val)) := ⟨Six.set hS1.1 (by omega) _, Six.set hS1.2 (by omega) _⟩
  have hw2' : w2 = w1.setCell ⟨w.heap.size + 1 + 1 + 1, 1, none⟩ (.iface 73 ge.val) := hw2
  rw [← hw2'] at hb2 hr2 hxa2 hS2
  clear hw2 hw2'
  refine hK _ _ (fun _ => hS2) ?_
  clear hK K
  (try simp only [Act.put, List.setIfInBounds_toArray, List.set_cons_zero, List.set_cons_succ])
  (apply ord_loud rfl rfl rfl; intro K hK; go_simp)
  refine (negative_any _ _ _ _ hb2 _ _).mono ?_
  rintro r w3 ⟨rfl, hw3⟩
  have hbs := hb2.set 2 (.iface 73 g2e.val)
  have hb0s := hr2.other (p := ⟨w.heap.size + 1 + 1 + 1, 2, none⟩) (by simp) (.iface 73 g2e.val)
  have hxs : Ext w (w2.setCell ⟨w.heap.size + 1 + 1 + 1, 2, none⟩ (.iface 73 g2e.val)) := ext_set hxa2 (by simp; omega) _
  have hS3 : (fun w' => Six w' w.heap.size ge ∧ Six w' (w.heap.size + 1) g2e) (w2.setCell ⟨w.heap.size + 1 + 1 + 1, 2, none⟩ (.iface 73 g2e.val)) := ⟨Six.set hS2.1 (by omega) _, Six.set hS2.2 (by omega) _⟩
  have hw3' : w3 = w2.setCell ⟨w.heap.size + 1 + 1 + 1, 2, none⟩ (.iface 73 g2e.val) := hw3
  rw [← hw3'] at hbs hb0s hxs hS3
  clear hw3 hw3' hS1 hS2
  refine hK _ _ (fun _ => hS3) ?_
  clear hK K
  (try simp only [Act.put, List.setIfInBounds_toArray, List.set_cons_zero, List.set_cons_succ])
  (apply ord_held rfl rfl (by assumption) rfl; (focus ((intro w' hS'); go_simp; (try with_reducible rfl))); (try simp only [Act.put, List.setIfInBounds_toArray, List.set_cons_zero, List.set_cons_succ]))
  refine ord_end ?_
  have hss := hbs.lt
  have hbs : Box w3 (w.heap.size + 1 + 1 + 1) #[.nilIface, .iface 73 ge.val, .iface 73 g2e.val, .pointer none, .pointer none] 164 := hbs
  clear hS3 hr2 hr1 hb1 hb2 hx1 hW0a hW0b hW0r hxa1 hxa2 hxW0
  go_wp2_with fail
  go_loopw [22] (fun i wr => Ext w wr ∧ (w.heap.size + 1 + 1 + 1 + 1) ≤ wr.heap.size ∧ Box wr (w.heap.size + 1 + 1) (El.arr El0) 26 ∧ ∃ (j : Nat) (v3 : Option Addr) (v4 : Option Addr), j ≤ n ∧ i = .int .i64 j ∧ Box wr (w.heap.size + 1 + 1 + 1) #[.nilIface, .iface 73 ge.val, .iface 73 g2e.val, .pointer v3, .pointer v4] 164 ∧ FN (fun q => q ≠ (w.heap.size + 1 + 1 + 1)) wr v3 (lastOf (ps.take j) s_negative_boost) ∧ FN (fun q => q ≠ (w.heap.size + 1 + 1 + 1)) wr v4 (lastOf (ps.take j) s_boost)) (fun i _ => n - (intOf i).toNat)
  case atStart => exact ⟨hxs, by omega, hb0s, 0, _, _, Nat.zero_le _, rfl, hbs, rfl, rfl⟩
  case round =>
    obtain ⟨hx, hsz, hb0, j, v3, v4, hj, rfl, hbq, h3, h4⟩ := hrel
    have H3 := Lib.hid h3
    have H4 := Lib.hid h4
    clear h3 h4
    have hbql := hbq.lt
    by_cases hlt : j < n
    · obtain ⟨p, hp⟩ := some_of_lt HL.out hlt
      obtain ⟨b, off, ⟨k, x, d, y, ka, kn, kc, ca, m, cc⟩, rfl, hSb, hc7, hT⟩ := hc j p hp
      obtain ⟨z0, z1, z2, z3, z4, z5, z6⟩ := Cells7.ext hx hc7
      have HP := Lib.hid hp
      have hl0 : (w.heap.size + 1 + 1) < wr.heap.size := by omega
      have hl1 : ¬ (w.heap.size + 1 + 1) = wr.heap.size := by omega
      have hl2 : (w.heap.size + 1 + 1 + 1) < wr.heap.size + 1 := by omega
      have hTx := Lib.hid hT.parts.2.1
      have hTd := Lib.hid hT.parts.2.2.1
      have hTy := Lib.hid hT.parts.2.2.2.1
      clear hp
      have hc0 := hbq.cell 0 _ rfl
      have hf0 := hbq.free 0
      have hc1 := hbq.cell 1 _ rfl
      have hf1 := hbq.free 1
      have hc2 := hbq.cell 2 _ rfl
      have hf2 := hbq.free 2
      have hc3 := hbq.cell 3 _ rfl
      have hf3 := hbq.free 3
      have hc4 := hbq.cell 4 _ rfl
      have hf4 := hbq.free 4
      cases he0 : p.1.toList == [98, 111, 111, 115, 116]
      · have e0 : seq p.1 s_boost = false := by rw [seq, show s_boost.toList = [98, 111, 111, 115, 116] by rw [Lib.toList_data]]; exact he0
        cases he1 : p.1.toList == [110, 101, 103, 97, 116, 105, 118, 101, 95, 98, 111, 111, 115, 116]
        · have e1 : seq p.1 s_negative_boost = false := by rw [seq, show s_negative_boost.toList = [110, 101, 103, 97, 116, 105, 118, 101, 95, 98, 111, 111, 115, 116] by rw [Lib.toList_data]]; exact he1
          go_wp2_with go_in
          go_roundw
          case rel =>
            have hy := ext_alloc (ext_refl wr) (.cells #[.string p.1, .int .i64 k, .string x, .float .f64 d, .bool y, .slice ka kn kc, .slice ca m cc] 69)
            exact ⟨ext_trans hx hy, Nat.le_trans hsz hy.sz, hb0.ext hy, j + 1, v3, v4, by omega, by go_num, hbq.ext hy, by rw [last_miss HP.out e1]; exact FN.ext hy H3.out, by rw [last_miss HP.out e0]; exact FN.ext hy H4.out⟩
          case measure => simp [intOf]; omega
        · have e1 : seq p.1 s_negative_boost = true := by rw [seq, show s_negative_boost.toList = [110, 101, 103, 97, 116, 105, 118, 101, 95, 98, 111, 111, 115, 116] by rw [Lib.toList_data]]; exact he1
          go_wp2_with go_in
          go_roundw
          case rel =>
            have hk : Keeps (fun q => q ≠ (w.heap.size + 1 + 1 + 1)) wr (((wr.setCell ⟨(w.heap.size + 1 + 1 + 1), 3, none⟩ (.pointer (some ⟨wr.heap.size + 1, 0, none⟩))).alloc (.cells #[.string p.1, .int .i64 k, .string x, .float .f64 d, .bool y, .slice ka kn kc, .slice ca m cc] 69)).alloc (.cells #[.float .f64 d] 22)) := fun q hq hlt => (Below.heap_alloc _ _ _ (by simp; omega)).trans ((Below.heap_alloc _ _ _ (by simpa using hlt)).trans (Below.heap_setCell _ _ _ _ (by simp; omega)))
            have hnew : (((wr.setCell ⟨(w.heap.size + 1 + 1 + 1), 3, none⟩ (.pointer (some ⟨wr.heap.size + 1, 0, none⟩))).alloc (.cells #[.string p.1, .int .i64 k, .string x, .float .f64 d, .bool y, .slice ka kn kc, .slice ca m cc] 69)).alloc (.cells #[.float .f64 d] 22)).cell? ⟨wr.heap.size + 1, 0, none⟩ = some (.float .f64 d) := (Box.at (by simp) _ _).cell 0 _ rfl
            exact ⟨ext_alloc (ext_alloc (ext_set hx (by simp <;> omega) _) _) _, by simp; omega, ((hb0.other (by simp <;> omega) _).alloc _).alloc _, j + 1, some ⟨wr.heap.size + 1, 0, none⟩, v4, by omega, by go_num, ((hbq.set 3 _).alloc _).alloc _, by rw [last_hit HP.out e1]; exact ⟨wr.heap.size + 1, rfl, by omega, by rw [← hTd.out]; exact hnew⟩, by rw [last_other HP.out e1 (seq_false.2 (by decide))]; exact FN.keep (fun _ h _ => h) hk H4.out⟩
          case measure => simp [intOf]; omega
      · have e0 : seq p.1 s_boost = true := by rw [seq, show s_boost.toList = [98, 111, 111, 115, 116] by rw [Lib.toList_data]]; exact he0
        go_wp2_with go_in
        go_roundw
        case rel =>
          have hk : Keeps (fun q => q ≠ (w.heap.size + 1 + 1 + 1)) wr (((wr.setCell ⟨(w.heap.size + 1 + 1 + 1), 4, none⟩ (.pointer (some ⟨wr.heap.size + 1, 0, none⟩))).alloc (.cells #[.string p.1, .int .i64 k, .string x, .float .f64 d, .bool y, .slice ka kn kc, .slice ca m cc] 69)).alloc (.cells #[.float .f64 d] 22)) := fun q hq hlt => (Below.heap_alloc _ _ _ (by simp; omega)).trans ((Below.heap_alloc _ _ _ (by simpa using hlt)).trans (Below.heap_setCell _ _ _ _ (by simp; omega)))
          have hnew : (((wr.setCell ⟨(w.heap.size + 1 + 1 + 1), 4, none⟩ (.pointer (some ⟨wr.heap.size + 1, 0, none⟩))).alloc (.cells #[.string p.1, .int .i64 k, .string x, .float .f64 d, .bool y, .slice ka kn kc, .slice ca m cc] 69)).alloc (.cells #[.float .f64 d] 22)).cell? ⟨wr.heap.size + 1, 0, none⟩ = some (.float .f64 d) := (Box.at (by simp) _ _).cell 0 _ rfl
          exact ⟨ext_alloc (ext_alloc (ext_set hx (by simp <;> omega) _) _) _, by simp; omega, ((hb0.other (by simp <;> omega) _).alloc _).alloc _, j + 1, v3, some ⟨wr.heap.size + 1, 0, none⟩, by omega, by go_num, ((hbq.set 4 _).alloc _).alloc _, by rw [last_other HP.out e0 (seq_false.2 (by decide))]; exact FN.keep (fun _ h _ => h) hk H3.out, by rw [last_hit HP.out e0]; exact ⟨wr.heap.size + 1, rfl, by omega, by rw [← hTd.out]; exact hnew⟩⟩
        case measure => simp [intOf]; omega
    · have hjn : j = n := by omega
      have hfull : ps.take j = ps := List.take_of_length_le (by have := HL.out; omega)
      rw [hfull] at H3 H4
      have hS := boosting_src (S := fun q => q ≠ (w.heap.size + 1 + 1 + 1)) wr (w.heap.size + 1 + 1 + 1) ge gt (HTg.out wr hx) hgF g2e g2t (HTg2.out wr hx) hg2F v3 _ H3.out v4 _ H4.out hbq
      go_wp2_with (first
        | (go_at_call 62; refine hS.mono ?_; rintro r w2 ⟨v, rfl, hJ, hx2⟩)
        | (go_at_call 49; refine (told_any v _ _ hJ).mono ?_; rintro r w3 ⟨e2, rfl, hT3, hx3⟩; simp only [El.val]
           have hb := (hb0.ext hx2).ext hx3; obtain ⟨o0, o1, o2, o3, o4, o5⟩ := hb.six; have f0 := hb.free 0; have f1 := hb.free 1; have f2 := hb.free 2; have f3 := hb.free 3; have f4 := hb.free 4; have f5 := hb.free 5))
      have hx4 := ext_trans hx (ext_trans hx2 hx3)
      have hs2 := hx2.sz
      refine post_tree2 rfl rfl (hb.sto e2) rfl ⟨e2, rfl, ?_, ext_sto6 hx4 (by omega) _ _ _ _ _ _⟩
      have hfin := TreeAt.keep (S := fun b => w2.heap.size ≤ b) (S' := fun b => w.heap.size + 1 ≤ b) (fun b hb _ => by omega) (keeps_sto (b := (w.heap.size + 1 + 1)) w3 (by omega) e2) _ hT3
      simp only [List.append_assoc, List.cons_append, List.nil_append] at hfin ⊢
      exact hfin
end Go.Proofs.Ytpkkdmopcfcnkaa
