/-
  What the builder of a query (MatchBoolPrefix) gives behind settings, in order.
-/
import Derived.Test.YtocfoheckgdonaaGreatDoorMatchBoolPrefix
import Derived.Test.YtocfoheckgdonaaGreatDoorPlainv
namespace Go.Proofs.YtocfoheckgdonaaGreatDoor
open Go.RowKit

set_option maxRecDepth 20000 in
set_option maxHeartbeats 4000000 in
theorem matchBoolPrefix_any {S : Nat → Prop} (a : Option Addr) (n c : Nat) (ps : List (ByteArray × T)) (w : World) (f : ByteArray) (hf_le : f.size ≤ maxLen) (ge : El) (gt : T) (hgT : TreeAt S w ge gt) (hgS : scalarT gt = true) (hW6 : WholeAt ps s_prefix_length) (hW7 : WholeAt ps s_max_expansions) (h : PairsAt S w a n c ps) :
    Calls Tryz.prog 24 #[.string f, ge.val, .slice a n c] w fun r w' => ∃ g : El, r = .returned (.tuple #[g.val, .bool true]) ∧ TreeAt (fun b => w.heap.size + 1 ≤ b) w' g (treeJ (jMap [(s_match_bool_prefix, jMap [(f, jMap ([(s_query, jOf gt)] ++ jT s_analyzer (lastOf ps s_analyzer) ++ jT s_minimum_should_match (lastOf ps s_minimum_should_match) ++ jT s_operator (lastOf ps s_operator) ++ jT s_fuzziness (lastOf ps s_fuzziness) ++ jW s_prefix_length (lastOf ps s_prefix_length) ++ jW s_max_expansions (lastOf ps s_max_expansions) ++ jY s_fuzzy_transpositions (lastOf ps s_fuzzy_transpositions) ++ jT s_fuzzy_rewrite (lastOf ps s_fuzzy_rewrite) ++ jN s_boost (lastOf ps s_boost)))])])) ∧ Ext w w' := by
  obtain ⟨hl, hn, hm, hc⟩ := h
  unfold maxLen at hm
  have HL := Lib.hid hl
  clear hl
  have HW6 := Lib.hid hW6
  clear hW6
  have HW7 := Lib.hid hW7
  clear hW7
  have HPg := Lib.hid (fun (w1 : World) (x : Ext w w1) => plain_any ge gt w1 (hgT.ext x) hgS)
  clear hgT
  simp only [El.val]
  go_enter Tryz.func24, Tryz.ntmps24
  go_wp2_with (first
    | (go_at_call 36; refine (HPg.out _ (by (repeat (first | exact ext_refl _ | assumption | refine ext_alloc ?_ _ | refine ext_drew ?_ | refine ext_set ?_ (by simp) _ | refine ext_trans ?_ (by assumption))))).mono ?_; rintro r wpg ⟨gv, rfl, hgJ, hgx⟩; have HJg := Lib.hid hgJ; obtain ⟨gty, gx, rfl⟩ := plain_iface hgS hgJ; clear hgJ)
    | go_in)
  have hbp : Box wpg (w.heap.size + 1) (El.arr El0) 26 := (Box.at (w := w.alloc (.cells ge.arr 26)) (by simp) (El.arr El0) 26).ext hgx
  have hp0 := hgx.sz
  simp at hp0
  go_loopw [17] (fun i wr => Ext w wr ∧ (wpg.heap.size + 1) ≤ wr.heap.size ∧ Box wr (w.heap.size + 1) (El.arr El0) 26 ∧ ∃ (j : Nat) (v2 : ByteArray) (v3 : ByteArray) (v4 : ByteArray) (v5 : ByteArray) (v6 : Option Addr) (v7 : Option Addr) (v8 : Option Addr) (v9 : ByteArray) (v10 : Option Addr), j ≤ n ∧ i = .int .i64 j ∧ Box wr wpg.heap.size #[.string f, .iface gty gx, .string v2, .string v3, .string v4, .string v5, .pointer v6, .pointer v7, .pointer v8, .string v9, .pointer v10] 137 ∧ v2 = fT (lastOf (ps.take j) s_analyzer) ∧ v3 = fT (lastOf (ps.take j) s_minimum_should_match) ∧ v4 = fT (lastOf (ps.take j) s_operator) ∧ v5 = fT (lastOf (ps.take j) s_fuzziness) ∧ FW (fun q => q ≠ wpg.heap.size) wr v6 (lastOf (ps.take j) s_prefix_length) ∧ FW (fun q => q ≠ wpg.heap.size) wr v7 (lastOf (ps.take j) s_max_expansions) ∧ FY (fun q => q ≠ wpg.heap.size) wr v8 (lastOf (ps.take j) s_fuzzy_transpositions) ∧ v9 = fT (lastOf (ps.take j) s_fuzzy_rewrite) ∧ FN (fun q => q ≠ wpg.heap.size) wr v10 (lastOf (ps.take j) s_boost)) (fun i _ => n - (intOf i).toNat)
  case atStart => exact ⟨ext_alloc (ext_trans (by (repeat (first | exact ext_refl _ | assumption | refine ext_alloc ?_ _ | refine ext_drew ?_ | refine ext_set ?_ (by simp) _ | refine ext_trans ?_ (by assumption)))) hgx) _, by simp, hbp.alloc _, 0, _, _, _, _, _, _, _, _, _, Nat.zero_le _, rfl, Box.at rfl _ _, rfl, rfl, rfl, rfl, rfl, rfl, rfl, rfl, rfl⟩
  case round =>
    obtain ⟨hx, hsz, hb0, j, v2, v3, v4, v5, v6, v7, v8, v9, v10, hj, rfl, hbq, h2, h3, h4, h5, h6, h7, h8, h9, h10⟩ := hrel
    have H2 := Lib.hid h2
    have H3 := Lib.hid h3
    have H4 := Lib.hid h4
    have H5 := Lib.hid h5
    have H6 := Lib.hid h6
    have H7 := Lib.hid h7
    have H8 := Lib.hid h8
    have H9 := Lib.hid h9
    have H10 := Lib.hid h10
    clear h2 h3 h4 h5 h6 h7 h8 h9 h10
    have hbql := hbq.lt
    by_cases hlt : j < n
    · obtain ⟨p, hp⟩ := some_of_lt HL.out hlt
      obtain ⟨b, off, ⟨k, x, d, y, ka, kn, kc, ca, m, cc⟩, rfl, hSb, hc7, hT⟩ := hc j p hp
      obtain ⟨z0, z1, z2, z3, z4, z5, z6⟩ := Cells7.ext hx hc7
      have HP := Lib.hid hp
      have hl0 : (w.heap.size + 1) < wr.heap.size := by omega
      have hl1 : ¬ (w.heap.size + 1) = wr.heap.size := by omega
      have hl2 : wpg.heap.size < wr.heap.size + 1 := by omega
      have hTx := Lib.hid hT.parts.2.1
      have hTd := Lib.hid hT.parts.2.2.1
      have hTy := Lib.hid hT.parts.2.2.2.1
      clear hp
      have hc0 := hbq.cell 0 _ rfl
      have hf0 := hbq.free 0
      have hc1 := hbq.cell 1 _ rfl
      have hf1 := hbq.free 1
      have hc2 := hbq.cell 2 _ rfl
      have hf2 := hbq.free 2
      have hc3 := hbq.cell 3 _ rfl
      have hf3 := hbq.free 3
      have hc4 := hbq.cell 4 _ rfl
      have hf4 := hbq.free 4
      have hc5 := hbq.cell 5 _ rfl
      have hf5 := hbq.free 5
      have hc6 := hbq.cell 6 _ rfl
      have hf6 := hbq.free 6
      have hc7 := hbq.cell 7 _ rfl
      have hf7 := hbq.free 7
      have hc8 := hbq.cell 8 _ rfl
      have hf8 := hbq.free 8
      have hc9 := hbq.cell 9 _ rfl
      have hf9 := hbq.free 9
      have hc10 := hbq.cell 10 _ rfl
      have hf10 := hbq.free 10
      cases he0 : p.1.toList == [97, 110, 97, 108, 121, 122, 101, 114]
      · have e0 : seq p.1 s_analyzer = false := by rw [seq, show s_analyzer.toList = [97, 110, 97, 108, 121, 122, 101, 114] by rw [Lib.toList_data]]; exact he0
        cases he1 : p.1.toList == [98, 111, 111, 115, 116]
        · have e1 : seq p.1 s_boost = false := by rw [seq, show s_boost.toList = [98, 111, 111, 115, 116] by rw [Lib.toList_data]]; exact he1
          cases he2 : p.1.toList == [102, 117, 122, 122, 105, 110, 101, 115, 115]
          · have e2 : seq p.1 s_fuzziness = false := by rw [seq, show s_fuzziness.toList = [102, 117, 122, 122, 105, 110, 101, 115, 115] by rw [Lib.toList_data]]; exact he2
            cases he3 : p.1.toList == [102, 117, 122, 122, 121, 95, 114, 101, 119, 114, 105, 116, 101]
            · have e3 : seq p.1 s_fuzzy_rewrite = false := by rw [seq, show s_fuzzy_rewrite.toList = [102, 117, 122, 122, 121, 95, 114, 101, 119, 114, 105, 116, 101] by rw [Lib.toList_data]]; exact he3
              cases he4 : p.1.toList == [102, 117, 122, 122, 121, 95, 116, 114, 97, 110, 115, 112, 111, 115, 105, 116, 105, 111, 110, 115]
              · have e4 : seq p.1 s_fuzzy_transpositions = false := by rw [seq, show s_fuzzy_transpositions.toList = [102, 117, 122, 122, 121, 95, 116, 114, 97, 110, 115, 112, 111, 115, 105, 116, 105, 111, 110, 115] by rw [Lib.toList_data]]; exact he4
                cases he5 : p.1.toList == [109, 97, 120, 95, 101, 120, 112, 97, 110, 115, 105, 111, 110, 115]
                · have e5 : seq p.1 s_max_expansions = false := by rw [seq, show s_max_expansions.toList = [109, 97, 120, 95, 101, 120, 112, 97, 110, 115, 105, 111, 110, 115] by rw [Lib.toList_data]]; exact he5
                  cases he6 : p.1.toList == [109, 105, 110, 105, 109, 117, 109, 95, 115, 104, 111, 117, 108, 100, 95, 109, 97, 116, 99, 104]
                  · have e6 : seq p.1 s_minimum_should_match = false := by rw [seq, show s_minimum_should_match.toList = [109, 105, 110, 105, 109, 117, 109, 95, 115, 104, 111, 117, 108, 100, 95, 109, 97, 116, 99, 104] by rw [Lib.toList_data]]; exact he6
                    cases he7 : p.1.toList == [111, 112, 101, 114, 97, 116, 111, 114]
                    · have e7 : seq p.1 s_operator = false := by rw [seq, show s_operator.toList = [111, 112, 101, 114, 97, 116, 111, 114] by rw [Lib.toList_data]]; exact he7
                      cases he8 : p.1.toList == [112, 114, 101, 102, 105, 120, 95, 108, 101, 110, 103, 116, 104]
                      · have e8 : seq p.1 s_prefix_length = false := by rw [seq, show s_prefix_length.toList = [112, 114, 101, 102, 105, 120, 95, 108, 101, 110, 103, 116, 104] by rw [Lib.toList_data]]; exact he8
                        go_wp2_with go_in
                        go_roundw
                        case rel =>
                          have hy := ext_alloc (ext_refl wr) (.cells #[.string p.1, .int .i64 k, .string x, .float .f64 d, .bool y, .slice ka kn kc, .slice ca m cc] 52)
                          exact ⟨ext_trans hx hy, Nat.le_trans hsz hy.sz, hb0.ext hy, j + 1, v2, v3, v4, v5, v6, v7, v8, v9, v10, by omega, by go_num, hbq.ext hy, by rw [last_miss HP.out e0]; exact H2.out, by rw [last_miss HP.out e6]; exact H3.out, by rw [last_miss HP.out e7]; exact H4.out, by rw [last_miss HP.out e2]; exact H5.out, by rw [last_miss HP.out e8]; exact FW.ext hy H6.out, by rw [last_miss HP.out e5]; exact FW.ext hy H7.out, by rw [last_miss HP.out e4]; exact FY.ext hy H8.out, by rw [last_miss HP.out e3]; exact H9.out, by rw [last_miss HP.out e1]; exact FN.ext hy H10.out⟩
                        case measure => simp [intOf]; omega
                      · have e8 : seq p.1 s_prefix_length = true := by rw [seq, show s_prefix_length.toList = [112, 114, 101, 102, 105, 120, 95, 108, 101, 110, 103, 116, 104] by rw [Lib.toList_data]]; exact he8
                        obtain ⟨z, hz, -⟩ := HW6.out p (List.mem_of_getElem? HP.out) e8
                        have hcv : ∀ w, (convert 22 3 (.float .f64 d)).run Tryz.prog w = .ok (.int .i64 z) w := fun w => run_convert_float_int w 22 3 .f64 .i64 d z (by rw [Tryz.underlying22]; rfl) Tryz.underlying3 (show floatToIntVal .f64 d .i64 = some z from by have h9 : d = p.2.num := hTd.out; rw [h9]; exact hz)
                        have HZ := Lib.hid hz
                        clear hz
                        go_wp2_with go_in
                        go_roundw
                        case rel =>
                          have hk : Keeps (fun q => q ≠ wpg.heap.size) wr (((wr.setCell ⟨wpg.heap.size, 6, none⟩ (.pointer (some ⟨wr.heap.size + 1, 0, none⟩))).alloc (.cells #[.string p.1, .int .i64 k, .string x, .float .f64 d, .bool y, .slice ka kn kc, .slice ca m cc] 52)).alloc (.cells #[.int .i64 z] 3)) := fun q hq hlt => (Below.heap_alloc _ _ _ (by simp; omega)).trans ((Below.heap_alloc _ _ _ (by simpa using hlt)).trans (Below.heap_setCell _ _ _ _ (by simp; omega)))
                          have hnew : (((wr.setCell ⟨wpg.heap.size, 6, none⟩ (.pointer (some ⟨wr.heap.size + 1, 0, none⟩))).alloc (.cells #[.string p.1, .int .i64 k, .string x, .float .f64 d, .bool y, .slice ka kn kc, .slice ca m cc] 52)).alloc (.cells #[.int .i64 z] 3)).cell? ⟨wr.heap.size + 1, 0, none⟩ = some (.int .i64 z) := (Box.at (by simp) _ _).cell 0 _ rfl
                          exact ⟨ext_alloc (ext_alloc (ext_set hx (by simp; omega) _) _) _, by simp; omega, ((hb0.other (by simp; omega) _).alloc _).alloc _, j + 1, v2, v3, v4, v5, some ⟨wr.heap.size + 1, 0, none⟩, v7, v8, v9, v10, by omega, by go_num, ((hbq.set 6 _).alloc _).alloc _, by rw [last_other HP.out e8 (seq_false.2 (by decide))]; exact H2.out, by rw [last_other HP.out e8 (seq_false.2 (by decide))]; exact H3.out, by rw [last_other HP.out e8 (seq_false.2 (by decide))]; exact H4.out, by rw [last_other HP.out e8 (seq_false.2 (by decide))]; exact H5.out, by rw [last_hit HP.out e8]; exact ⟨wr.heap.size + 1, z, rfl, by omega, hnew, HZ.out⟩, by rw [last_other HP.out e8 (seq_false.2 (by decide))]; exact FW.keep (fun _ h _ => h) hk H7.out, by rw [last_other HP.out e8 (seq_false.2 (by decide))]; exact FY.keep (fun _ h _ => h) hk H8.out, by rw [last_other HP.out e8 (seq_false.2 (by decide))]; exact H9.out, by rw [last_other HP.out e8 (seq_false.2 (by decide))]; exact FN.keep (fun _ h _ => h) hk H10.out⟩
                        case measure => simp [intOf]; omega
                    · have e7 : seq p.1 s_operator = true := by rw [seq, show s_operator.toList = [111, 112, 101, 114, 97, 116, 111, 114] by rw [Lib.toList_data]]; exact he7
                      go_wp2_with go_in
                      go_roundw
                      case rel =>
                        have hk : Keeps (fun q => q ≠ wpg.heap.size) wr ((wr.setCell ⟨wpg.heap.size, 4, none⟩ (.string x)).alloc (.cells #[.string p.1, .int .i64 k, .string x, .float .f64 d, .bool y, .slice ka kn kc, .slice ca m cc] 52)) := fun q hq hlt => (Below.heap_alloc _ _ _ (by simpa using hlt)).trans (Below.heap_setCell _ _ _ _ (by simp; omega))
                        exact ⟨ext_alloc (ext_set hx (by simp; omega) _) _, by simp; omega, (hb0.other (by simp; omega) _).alloc _, j + 1, v2, v3, x, v5, v6, v7, v8, v9, v10, by omega, by go_num, (hbq.set 4 _).alloc _, by rw [last_other HP.out e7 (seq_false.2 (by decide))]; exact H2.out, by rw [last_other HP.out e7 (seq_false.2 (by decide))]; exact H3.out, by rw [last_hit HP.out e7]; exact hTx.out, by rw [last_other HP.out e7 (seq_false.2 (by decide))]; exact H5.out, by rw [last_other HP.out e7 (seq_false.2 (by decide))]; exact FW.keep (fun _ h _ => h) hk H6.out, by rw [last_other HP.out e7 (seq_false.2 (by decide))]; exact FW.keep (fun _ h _ => h) hk H7.out, by rw [last_other HP.out e7 (seq_false.2 (by decide))]; exact FY.keep (fun _ h _ => h) hk H8.out, by rw [last_other HP.out e7 (seq_false.2 (by decide))]; exact H9.out, by rw [last_other HP.out e7 (seq_false.2 (by decide))]; exact FN.keep (fun _ h _ => h) hk H10.out⟩
                      case measure => simp [intOf]; omega
                  · have e6 : seq p.1 s_minimum_should_match = true := by rw [seq, show s_minimum_should_match.toList = [109, 105, 110, 105, 109, 117, 109, 95, 115, 104, 111, 117, 108, 100, 95, 109, 97, 116, 99, 104] by rw [Lib.toList_data]]; exact he6
                    go_wp2_with go_in
                    go_roundw
                    case rel =>
                      have hk : Keeps (fun q => q ≠ wpg.heap.size) wr ((wr.setCell ⟨wpg.heap.size, 3, none⟩ (.string x)).alloc (.cells #[.string p.1, .int .i64 k, .string x, .float .f64 d, .bool y, .slice ka kn kc, .slice ca m cc] 52)) := fun q hq hlt => (Below.heap_alloc _ _ _ (by simpa using hlt)).trans (Below.heap_setCell _ _ _ _ (by simp; omega))
                      exact ⟨ext_alloc (ext_set hx (by simp; omega) _) _, by simp; omega, (hb0.other (by simp; omega) _).alloc _, j + 1, v2, x, v4, v5, v6, v7, v8, v9, v10, by omega, by go_num, (hbq.set 3 _).alloc _, by rw [last_other HP.out e6 (seq_false.2 (by decide))]; exact H2.out, by rw [last_hit HP.out e6]; exact hTx.out, by rw [last_other HP.out e6 (seq_false.2 (by decide))]; exact H4.out, by rw [last_other HP.out e6 (seq_false.2 (by decide))]; exact H5.out, by rw [last_other HP.out e6 (seq_false.2 (by decide))]; exact FW.keep (fun _ h _ => h) hk H6.out, by rw [last_other HP.out e6 (seq_false.2 (by decide))]; exact FW.keep (fun _ h _ => h) hk H7.out, by rw [last_other HP.out e6 (seq_false.2 (by decide))]; exact FY.keep (fun _ h _ => h) hk H8.out, by rw [last_other HP.out e6 (seq_false.2 (by decide))]; exact H9.out, by rw [last_other HP.out e6 (seq_false.2 (by decide))]; exact FN.keep (fun _ h _ => h) hk H10.out⟩
                    case measure => simp [intOf]; omega
                · have e5 : seq p.1 s_max_expansions = true := by rw [seq, show s_max_expansions.toList = [109, 97, 120, 95, 101, 120, 112, 97, 110, 115, 105, 111, 110, 115] by rw [Lib.toList_data]]; exact he5
                  obtain ⟨z, hz, -⟩ := HW7.out p (List.mem_of_getElem? HP.out) e5
                  have hcv : ∀ w, (convert 22 3 (.float .f64 d)).run Tryz.prog w = .ok (.int .i64 z) w := fun w => run_convert_float_int w 22 3 .f64 .i64 d z (by rw [Tryz.underlying22]; rfl) Tryz.underlying3 (show floatToIntVal .f64 d .i64 = some z from by have h9 : d = p.2.num := hTd.out; rw [h9]; exact hz)
                  have HZ := Lib.hid hz
                  clear hz
                  go_wp2_with go_in
                  go_roundw
                  case rel =>
                    have hk : Keeps (fun q => q ≠ wpg.heap.size) wr (((wr.setCell ⟨wpg.heap.size, 7, none⟩ (.pointer (some ⟨wr.heap.size + 1, 0, none⟩))).alloc (.cells #[.string p.1, .int .i64 k, .string x, .float .f64 d, .bool y, .slice ka kn kc, .slice ca m cc] 52)).alloc (.cells #[.int .i64 z] 3)) := fun q hq hlt => (Below.heap_alloc _ _ _ (by simp; omega)).trans ((Below.heap_alloc _ _ _ (by simpa using hlt)).trans (Below.heap_setCell _ _ _ _ (by simp; omega)))
                    have hnew : (((wr.setCell ⟨wpg.heap.size, 7, none⟩ (.pointer (some ⟨wr.heap.size + 1, 0, none⟩))).alloc (.cells #[.string p.1, .int .i64 k, .string x, .float .f64 d, .bool y, .slice ka kn kc, .slice ca m cc] 52)).alloc (.cells #[.int .i64 z] 3)).cell? ⟨wr.heap.size + 1, 0, none⟩ = some (.int .i64 z) := (Box.at (by simp) _ _).cell 0 _ rfl
                    exact ⟨ext_alloc (ext_alloc (ext_set hx (by simp; omega) _) _) _, by simp; omega, ((hb0.other (by simp; omega) _).alloc _).alloc _, j + 1, v2, v3, v4, v5, v6, some ⟨wr.heap.size + 1, 0, none⟩, v8, v9, v10, by omega, by go_num, ((hbq.set 7 _).alloc _).alloc _, by rw [last_other HP.out e5 (seq_false.2 (by decide))]; exact H2.out, by rw [last_other HP.out e5 (seq_false.2 (by decide))]; exact H3.out, by rw [last_other HP.out e5 (seq_false.2 (by decide))]; exact H4.out, by rw [last_other HP.out e5 (seq_false.2 (by decide))]; exact H5.out, by rw [last_other HP.out e5 (seq_false.2 (by decide))]; exact FW.keep (fun _ h _ => h) hk H6.out, by rw [last_hit HP.out e5]; exact ⟨wr.heap.size + 1, z, rfl, by omega, hnew, HZ.out⟩, by rw [last_other HP.out e5 (seq_false.2 (by decide))]; exact FY.keep (fun _ h _ => h) hk H8.out, by rw [last_other HP.out e5 (seq_false.2 (by decide))]; exact H9.out, by rw [last_other HP.out e5 (seq_false.2 (by decide))]; exact FN.keep (fun _ h _ => h) hk H10.out⟩
                  case measure => simp [intOf]; omega
              · have e4 : seq p.1 s_fuzzy_transpositions = true := by rw [seq, show s_fuzzy_transpositions.toList = [102, 117, 122, 122, 121, 95, 116, 114, 97, 110, 115, 112, 111, 115, 105, 116, 105, 111, 110, 115] by rw [Lib.toList_data]]; exact he4
                go_wp2_with go_in
                go_roundw
                case rel =>
                  have hk : Keeps (fun q => q ≠ wpg.heap.size) wr (((wr.setCell ⟨wpg.heap.size, 8, none⟩ (.pointer (some ⟨wr.heap.size + 1, 0, none⟩))).alloc (.cells #[.string p.1, .int .i64 k, .string x, .float .f64 d, .bool y, .slice ka kn kc, .slice ca m cc] 52)).alloc (.cells #[.bool y] 4)) := fun q hq hlt => (Below.heap_alloc _ _ _ (by simp; omega)).trans ((Below.heap_alloc _ _ _ (by simpa using hlt)).trans (Below.heap_setCell _ _ _ _ (by simp; omega)))
                  have hnew : (((wr.setCell ⟨wpg.heap.size, 8, none⟩ (.pointer (some ⟨wr.heap.size + 1, 0, none⟩))).alloc (.cells #[.string p.1, .int .i64 k, .string x, .float .f64 d, .bool y, .slice ka kn kc, .slice ca m cc] 52)).alloc (.cells #[.bool y] 4)).cell? ⟨wr.heap.size + 1, 0, none⟩ = some (.bool y) := (Box.at (by simp) _ _).cell 0 _ rfl
                  exact ⟨ext_alloc (ext_alloc (ext_set hx (by simp; omega) _) _) _, by simp; omega, ((hb0.other (by simp; omega) _).alloc _).alloc _, j + 1, v2, v3, v4, v5, v6, v7, some ⟨wr.heap.size + 1, 0, none⟩, v9, v10, by omega, by go_num, ((hbq.set 8 _).alloc _).alloc _, by rw [last_other HP.out e4 (seq_false.2 (by decide))]; exact H2.out, by rw [last_other HP.out e4 (seq_false.2 (by decide))]; exact H3.out, by rw [last_other HP.out e4 (seq_false.2 (by decide))]; exact H4.out, by rw [last_other HP.out e4 (seq_false.2 (by decide))]; exact H5.out, by rw [last_other HP.out e4 (seq_false.2 (by decide))]; exact FW.keep (fun _ h _ => h) hk H6.out, by rw [last_other HP.out e4 (seq_false.2 (by decide))]; exact FW.keep (fun _ h _ => h) hk H7.out, by rw [last_hit HP.out e4]; exact ⟨wr.heap.size + 1, rfl, by omega, by rw [← hTy.out]; exact hnew⟩, by rw [last_other HP.out e4 (seq_false.2 (by decide))]; exact H9.out, by rw [last_other HP.out e4 (seq_false.2 (by decide))]; exact FN.keep (fun _ h _ => h) hk H10.out⟩
                case measure => simp [intOf]; omega
            · have e3 : seq p.1 s_fuzzy_rewrite = true := by rw [seq, show s_fuzzy_rewrite.toList = [102, 117, 122, 122, 121, 95, 114, 101, 119, 114, 105, 116, 101] by rw [Lib.toList_data]]; exact he3
              go_wp2_with go_in
              go_roundw
              case rel =>
                have hk : Keeps (fun q => q ≠ wpg.heap.size) wr ((wr.setCell ⟨wpg.heap.size, 9, none⟩ (.string x)).alloc (.cells #[.string p.1, .int .i64 k, .string x, .float .f64 d, .bool y, .slice ka kn kc, .slice ca m cc] 52)) := fun q hq hlt => (Below.heap_alloc _ _ _ (by simpa using hlt)).trans (Below.heap_setCell _ _ _ _ (by simp; omega))
                exact ⟨ext_alloc (ext_set hx (by simp; omega) _) _, by simp; omega, (hb0.other (by simp; omega) _).alloc _, j + 1, v2, v3, v4, v5, v6, v7, v8, x, v10, by omega, by go_num, (hbq.set 9 _).alloc _, by rw [last_other HP.out e3 (seq_false.2 (by decide))]; exact H2.out, by rw [last_other HP.out e3 (seq_false.2 (by decide))]; exact H3.out, by rw [last_other HP.out e3 (seq_false.2 (by decide))]; exact H4.out, by rw [last_other HP.out e3 (seq_false.2 (by decide))]; exact H5.out, by rw [last_other HP.out e3 (seq_false.2 (by decide))]; exact FW.keep (fun _ h _ => h) hk H6.out, by rw [last_other HP.out e3 (seq_false.2 (by decide))]; exact FW.keep (fun _ h _ => h) hk H7.out, by rw [last_other HP.out e3 (seq_false.2 (by decide))]; exact FY.keep (fun _ h _ => h) hk H8.out, by rw [last_hit HP.out e3]; exact hTx.out, by rw [last_other HP.out e3 (seq_false.2 (by decide))]; exact FN.keep (fun _ h _ => h) hk H10.out⟩
              case measure => simp [intOf]; omega
          · have e2 : seq p.1 s_fuzziness = true := by rw [seq, show s_fuzziness.toList = [102, 117, 122, 122, 105, 110, 101, 115, 115] by rw [Lib.toList_data]]; exact he2
            go_wp2_with go_in
            go_roundw
            case rel =>
              have hk : Keeps (fun q => q ≠ wpg.heap.size) wr ((wr.setCell ⟨wpg.heap.size, 5, none⟩ (.string x)).alloc (.cells #[.string p.1, .int .i64 k, .string x, .float .f64 d, .bool y, .slice ka kn kc, .slice ca m cc] 52)) := fun q hq hlt => (Below.heap_alloc _ _ _ (by simpa using hlt)).trans (Below.heap_setCell _ _ _ _ (by simp; omega))
              exact ⟨ext_alloc (ext_set hx (by simp; omega) _) _, by simp; omega, (hb0.other (by simp; omega) _).alloc _, j + 1, v2, v3, v4, x, v6, v7, v8, v9, v10, by omega, by go_num, (hbq.set 5 _).alloc _, by rw [last_other HP.out e2 (seq_false.2 (by decide))]; exact H2.out, by rw [last_other HP.out e2 (seq_false.2 (by decide))]; exact H3.out, by rw [last_other HP.out e2 (seq_false.2 (by decide))]; exact H4.out, by rw [last_hit HP.out e2]; exact hTx.out, by rw [last_other HP.out e2 (seq_false.2 (by decide))]; exact FW.keep (fun _ h _ => h) hk H6.out, by rw [last_other HP.out e2 (seq_false.2 (by decide))]; exact FW.keep (fun _ h _ => h) hk H7.out, by rw [last_other HP.out e2 (seq_false.2 (by decide))]; exact FY.keep (fun _ h _ => h) hk H8.out, by rw [last_other HP.out e2 (seq_false.2 (by decide))]; exact H9.out, by rw [last_other HP.out e2 (seq_false.2 (by decide))]; exact FN.keep (fun _ h _ => h) hk H10.out⟩
            case measure => simp [intOf]; omega
        · have e1 : seq p.1 s_boost = true := by rw [seq, show s_boost.toList = [98, 111, 111, 115, 116] by rw [Lib.toList_data]]; exact he1
          go_wp2_with go_in
          go_roundw
          case rel =>
            have hk : Keeps (fun q => q ≠ wpg.heap.size) wr (((wr.setCell ⟨wpg.heap.size, 10, none⟩ (.pointer (some ⟨wr.heap.size + 1, 0, none⟩))).alloc (.cells #[.string p.1, .int .i64 k, .string x, .float .f64 d, .bool y, .slice ka kn kc, .slice ca m cc] 52)).alloc (.cells #[.float .f64 d] 22)) := fun q hq hlt => (Below.heap_alloc _ _ _ (by simp; omega)).trans ((Below.heap_alloc _ _ _ (by simpa using hlt)).trans (Below.heap_setCell _ _ _ _ (by simp; omega)))
            have hnew : (((wr.setCell ⟨wpg.heap.size, 10, none⟩ (.pointer (some ⟨wr.heap.size + 1, 0, none⟩))).alloc (.cells #[.string p.1, .int .i64 k, .string x, .float .f64 d, .bool y, .slice ka kn kc, .slice ca m cc] 52)).alloc (.cells #[.float .f64 d] 22)).cell? ⟨wr.heap.size + 1, 0, none⟩ = some (.float .f64 d) := (Box.at (by simp) _ _).cell 0 _ rfl
            exact ⟨ext_alloc (ext_alloc (ext_set hx (by simp; omega) _) _) _, by simp; omega, ((hb0.other (by simp; omega) _).alloc _).alloc _, j + 1, v2, v3, v4, v5, v6, v7, v8, v9, some ⟨wr.heap.size + 1, 0, none⟩, by omega, by go_num, ((hbq.set 10 _).alloc _).alloc _, by rw [last_other HP.out e1 (seq_false.2 (by decide))]; exact H2.out, by rw [last_other HP.out e1 (seq_false.2 (by decide))]; exact H3.out, by rw [last_other HP.out e1 (seq_false.2 (by decide))]; exact H4.out, by rw [last_other HP.out e1 (seq_false.2 (by decide))]; exact H5.out, by rw [last_other HP.out e1 (seq_false.2 (by decide))]; exact FW.keep (fun _ h _ => h) hk H6.out, by rw [last_other HP.out e1 (seq_false.2 (by decide))]; exact FW.keep (fun _ h _ => h) hk H7.out, by rw [last_other HP.out e1 (seq_false.2 (by decide))]; exact FY.keep (fun _ h _ => h) hk H8.out, by rw [last_other HP.out e1 (seq_false.2 (by decide))]; exact H9.out, by rw [last_hit HP.out e1]; exact ⟨wr.heap.size + 1, rfl, by omega, by rw [← hTd.out]; exact hnew⟩⟩
          case measure => simp [intOf]; omega
      · have e0 : seq p.1 s_analyzer = true := by rw [seq, show s_analyzer.toList = [97, 110, 97, 108, 121, 122, 101, 114] by rw [Lib.toList_data]]; exact he0
        go_wp2_with go_in
        go_roundw
        case rel =>
          have hk : Keeps (fun q => q ≠ wpg.heap.size) wr ((wr.setCell ⟨wpg.heap.size, 2, none⟩ (.string x)).alloc (.cells #[.string p.1, .int .i64 k, .string x, .float .f64 d, .bool y, .slice ka kn kc, .slice ca m cc] 52)) := fun q hq hlt => (Below.heap_alloc _ _ _ (by simpa using hlt)).trans (Below.heap_setCell _ _ _ _ (by simp; omega))
          exact ⟨ext_alloc (ext_set hx (by simp; omega) _) _, by simp; omega, (hb0.other (by simp; omega) _).alloc _, j + 1, x, v3, v4, v5, v6, v7, v8, v9, v10, by omega, by go_num, (hbq.set 2 _).alloc _, by rw [last_hit HP.out e0]; exact hTx.out, by rw [last_other HP.out e0 (seq_false.2 (by decide))]; exact H3.out, by rw [last_other HP.out e0 (seq_false.2 (by decide))]; exact H4.out, by rw [last_other HP.out e0 (seq_false.2 (by decide))]; exact H5.out, by rw [last_other HP.out e0 (seq_false.2 (by decide))]; exact FW.keep (fun _ h _ => h) hk H6.out, by rw [last_other HP.out e0 (seq_false.2 (by decide))]; exact FW.keep (fun _ h _ => h) hk H7.out, by rw [last_other HP.out e0 (seq_false.2 (by decide))]; exact FY.keep (fun _ h _ => h) hk H8.out, by rw [last_other HP.out e0 (seq_false.2 (by decide))]; exact H9.out, by rw [last_other HP.out e0 (seq_false.2 (by decide))]; exact FN.keep (fun _ h _ => h) hk H10.out⟩
        case measure => simp [intOf]; omega
    · have hjn : j = n := by omega
      have hfull : ps.take j = ps := List.take_of_length_le (by have := HL.out; omega)
      rw [hfull] at H2 H3 H4 H5 H6 H7 H8 H9 H10
      have hS := matchBoolPrefix_src (S := fun q => q ≠ wpg.heap.size) wr wpg.heap.size f hf_le gty gx (jOf gt) (JAt.no HJg.out) v2 _ H2.out v3 _ H3.out v4 _ H4.out v5 _ H5.out v6 _ H6.out v7 _ H7.out v8 _ H8.out v9 _ H9.out v10 _ H10.out hbq
      go_wp2_with (first
        | (go_at_call 85; refine hS.mono ?_; rintro r w2 ⟨v, rfl, hJ, hx2⟩)
        | (go_at_call 42; refine (told_any v _ _ hJ).mono ?_; rintro r w3 ⟨e2, rfl, hT3, hx3⟩; simp only [El.val]
           have hb := (hb0.ext hx2).ext hx3; obtain ⟨o0, o1, o2, o3, o4, o5⟩ := hb.six; have f0 := hb.free 0; have f1 := hb.free 1; have f2 := hb.free 2; have f3 := hb.free 3; have f4 := hb.free 4; have f5 := hb.free 5))
      have hx4 := ext_trans hx (ext_trans hx2 hx3)
      have hs2 := hx2.sz
      refine post_tree2 rfl rfl (hb.sto e2) rfl ⟨e2, rfl, ?_, ext_sto6 hx4 (by omega) _ _ _ _ _ _⟩
      have hfin := TreeAt.keep (S := fun b => w2.heap.size ≤ b) (S' := fun b => w.heap.size + 1 ≤ b) (fun b hb _ => by omega) (keeps_sto (b := (w.heap.size + 1)) w3 (by omega) e2) _ hT3
      simp only [List.append_assoc, List.cons_append, List.nil_append] at hfin ⊢
      exact hfin
end Go.Proofs.YtocfoheckgdonaaGreatDoor
