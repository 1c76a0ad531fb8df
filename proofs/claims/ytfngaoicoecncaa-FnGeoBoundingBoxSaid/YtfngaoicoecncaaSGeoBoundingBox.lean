/-
  A geo_bounding_box query has two corners that lie across, or a text, in its field, and its settings: the statement FnGeoBoundingBox, for every input.
-/
import Derived.Test.YtfngaoicoecncaaGeoBoundingBox
import Derived.Test.YtfngaoicoecncaaPlainv
import Derived.Test.YtfngaoicoecncaaGb
import Derived.Test.YtfngaoicoecncaaBk
import Derived.Test.YtfngaoicoecncaaR1
import Derived.Test.YtfngaoicoecncaaP4
import Derived.Test.YtfngaoicoecncaaSm
import Derived.Test.YtfngaoicoecncaaLx
import Derived.Test.YtfngaoicoecncaaQx
import Derived.Test.YtfngaoicoecncaaGdS
import Derived.Test.YtfngaoicoecncaaVw
import Derived.Test.YtfngaoicoecncaaRows
import Derived.Test.YtfngaoicoecncaaOpen
namespace Go.Proofs.Ytfngaoicoecncaa
open Go.RowKit

set_option maxRecDepth 20000 in
set_option maxHeartbeats 4000000 in
theorem geoBoundingBox_any {S : Nat → Prop} (a : Option Addr) (n c : Nat) (ps : List (ByteArray × T)) (w : World) (f : ByteArray) (hf_le : f.size ≤ maxLen) (hW5 : ScalarAt ps s_wkt) (h : PairsAt S w a n c ps) :
    Calls Try.prog 8 #[.string f, .slice a n c] w fun r w' => ∃ g : El, r = .returned (.tuple #[g.val, .bool true]) ∧ TreeAt (fun b => w.heap.size + 1 ≤ b) w' g (treeJ (jMap [(s_geo_bounding_box, jMap ([(f, jBox (lastOf ps s_wkt) (foldC s_top_left s_top_left_hash false (ps)) (foldC s_top_right s_top_right_hash false (ps)) (foldC s_bottom_left s_bottom_left_hash true (ps)) (foldC s_bottom_right s_bottom_right_hash false (ps)))] ++ jT s_type (lastOf ps s_type) ++ jT s_validation_method (lastOf ps s_validation_method) ++ jY s_ignore_unmapped (lastOf ps s_ignore_unmapped) ++ jT s_name (lastOf ps s_name)))])) ∧ Ext w w' := by
  obtain ⟨hl, hn, hm, hc⟩ := h
  unfold maxLen at hm
  have HL := Lib.hid hl
  clear hl
  have HW5 := Lib.hid hW5
  clear hW5
  go_enter Try.func8, Try.ntmps8
  go_wp2_with go_in
  go_loopw [13] (fun i wr => Ext w wr ∧ (w.heap.size + 2) ≤ wr.heap.size ∧ Box wr w.heap.size (El.arr El0) 30 ∧ ∃ (j : Nat) (v1 : Value) (v2 : Value) (v3 : Value) (v4 : Value) (v5 : Value) (v6 : ByteArray) (v7 : ByteArray) (v8 : Option Addr) (v9 : ByteArray), j ≤ n ∧ i = .int .i64 j ∧ Box wr (w.heap.size + 1) #[.string f, v1, v2, v3, v4, v5, .string v6, .string v7, .pointer v8, .string v9] 101 ∧ CornAt (fun q => q ≠ (w.heap.size + 1)) wr v1 (foldC s_top_left s_top_left_hash false (ps.take j)) ∧ CornAt (fun q => q ≠ (w.heap.size + 1)) wr v2 (foldC s_top_right s_top_right_hash false (ps.take j)) ∧ CornAt (fun q => q ≠ (w.heap.size + 1)) wr v3 (foldC s_bottom_right s_bottom_right_hash false (ps.take j)) ∧ CornAt (fun q => q ≠ (w.heap.size + 1)) wr v4 (foldC s_bottom_left s_bottom_left_hash true (ps.take j)) ∧ FV v5 (lastOf (ps.take j) s_wkt) ∧ v6 = fT (lastOf (ps.take j) s_type) ∧ v7 = fT (lastOf (ps.take j) s_validation_method) ∧ FY (fun q => q ≠ (w.heap.size + 1)) wr v8 (lastOf (ps.take j) s_ignore_unmapped) ∧ v9 = fT (lastOf (ps.take j) s_name)) (fun i _ => n - (intOf i).toNat)
  case atStart => exact ⟨by (repeat (first | exact ext_refl _ | assumption | refine ext_alloc ?_ _ | refine ext_drew ?_ | refine ext_set ?_ (by simp) _ | refine ext_trans ?_ (by assumption))), by simp, (Box.at rfl _ _).alloc _, 0, _, _, _, _, _, _, _, _, _, Nat.zero_le _, rfl, Box.at (by simp) _ _, rfl, rfl, rfl, rfl, rfl, rfl, rfl, rfl, rfl⟩
  case round =>
    obtain ⟨hx, hsz, hb0, j, v1, v2, v3, v4, v5, v6, v7, v8, v9, hj, rfl, hbq, h1, h2, h3, h4, h5, h6, h7, h8, h9⟩ := hrel
    have H1 := Lib.hid h1
    have H2 := Lib.hid h2
    have H3 := Lib.hid h3
    have H4 := Lib.hid h4
    have H5 := Lib.hid h5
    have H6 := Lib.hid h6
    have H7 := Lib.hid h7
    have H8 := Lib.hid h8
    have H9 := Lib.hid h9
    clear h1 h2 h3 h4 h5 h6 h7 h8 h9
    have hbql := hbq.lt
    by_cases hlt : j < n
    · obtain ⟨p, hp⟩ := some_of_lt HL.out hlt
      obtain ⟨b, off, ⟨k, x, d, y, ka, kn, kc, ca, m, cc⟩, rfl, hSb, hc7, hT⟩ := hc j p hp
      obtain ⟨z0, z1, z2, z3, z4, z5, z6⟩ := Cells7.ext hx hc7
      have HP := Lib.hid hp
      have hl0 : w.heap.size < wr.heap.size := by omega
      have hl1 : ¬ w.heap.size = wr.heap.size := by omega
      have hl2 : (w.heap.size + 1) < wr.heap.size + 1 := by omega
      have hTx := Lib.hid hT.parts.2.1
      have hTd := Lib.hid hT.parts.2.2.1
      have hTy := Lib.hid hT.parts.2.2.2.1
      clear hp
      have hTz := Lib.hid (hT.ext hx)
      have HTT := Lib.hid (fun (w1 : World) (xx : Ext w w1) (hs : scalarT p.2 = true) => plain_any _ _ w1 (hT.ext xx) hs)
      clear hT
      have hc0 := hbq.cell 0 _ rfl
      have hf0 := hbq.free 0
      have hc1 := hbq.cell 1 _ rfl
      have hf1 := hbq.free 1
      have hc2 := hbq.cell 2 _ rfl
      have hf2 := hbq.free 2
      have hc3 := hbq.cell 3 _ rfl
      have hf3 := hbq.free 3
      have hc4 := hbq.cell 4 _ rfl
      have hf4 := hbq.free 4
      have hc5 := hbq.cell 5 _ rfl
      have hf5 := hbq.free 5
      have hc6 := hbq.cell 6 _ rfl
      have hf6 := hbq.free 6
      have hc7 := hbq.cell 7 _ rfl
      have hf7 := hbq.free 7
      have hc8 := hbq.cell 8 _ rfl
      have hf8 := hbq.free 8
      have hc9 := hbq.cell 9 _ rfl
      have hf9 := hbq.free 9
      cases he0 : p.1.toList == [116, 111, 112, 95, 108, 101, 102, 116]
      · have e0 : seq p.1 s_top_left = false := by rw [seq, show s_top_left.toList = [116, 111, 112, 95, 108, 101, 102, 116] by rw [Lib.toList_data]]; exact he0
        cases he1 : p.1.toList == [98, 111, 116, 116, 111, 109, 95, 114, 105, 103, 104, 116]
        · have e1 : seq p.1 s_bottom_right = false := by rw [seq, show s_bottom_right.toList = [98, 111, 116, 116, 111, 109, 95, 114, 105, 103, 104, 116] by rw [Lib.toList_data]]; exact he1
          cases he2 : p.1.toList == [98, 111, 116, 116, 111, 109, 95, 108, 101, 102, 116]
          · have e2 : seq p.1 s_bottom_left = false := by rw [seq, show s_bottom_left.toList = [98, 111, 116, 116, 111, 109, 95, 108, 101, 102, 116] by rw [Lib.toList_data]]; exact he2
            cases he3 : p.1.toList == [116, 111, 112, 95, 114, 105, 103, 104, 116]
            · have e3 : seq p.1 s_top_right = false := by rw [seq, show s_top_right.toList = [116, 111, 112, 95, 114, 105, 103, 104, 116] by rw [Lib.toList_data]]; exact he3
              cases he4 : p.1.toList == [116, 111, 112, 95, 108, 101, 102, 116, 95, 104, 97, 115, 104]
              · have e4 : seq p.1 s_top_left_hash = false := by rw [seq, show s_top_left_hash.toList = [116, 111, 112, 95, 108, 101, 102, 116, 95, 104, 97, 115, 104] by rw [Lib.toList_data]]; exact he4
                cases he5 : p.1.toList == [98, 111, 116, 116, 111, 109, 95, 114, 105, 103, 104, 116, 95, 104, 97, 115, 104]
                · have e5 : seq p.1 s_bottom_right_hash = false := by rw [seq, show s_bottom_right_hash.toList = [98, 111, 116, 116, 111, 109, 95, 114, 105, 103, 104, 116, 95, 104, 97, 115, 104] by rw [Lib.toList_data]]; exact he5
                  cases he6 : p.1.toList == [98, 111, 116, 116, 111, 109, 95, 108, 101, 102, 116, 95, 104, 97, 115, 104]
                  · have e6 : seq p.1 s_bottom_left_hash = false := by rw [seq, show s_bottom_left_hash.toList = [98, 111, 116, 116, 111, 109, 95, 108, 101, 102, 116, 95, 104, 97, 115, 104] by rw [Lib.toList_data]]; exact he6
                    cases he7 : p.1.toList == [116, 111, 112, 95, 114, 105, 103, 104, 116, 95, 104, 97, 115, 104]
                    · have e7 : seq p.1 s_top_right_hash = false := by rw [seq, show s_top_right_hash.toList = [116, 111, 112, 95, 114, 105, 103, 104, 116, 95, 104, 97, 115, 104] by rw [Lib.toList_data]]; exact he7
                      cases he8 : p.1.toList == [119, 107, 116]
                      · have e8 : seq p.1 s_wkt = false := by rw [seq, show s_wkt.toList = [119, 107, 116] by rw [Lib.toList_data]]; exact he8
                        cases he9 : p.1.toList == [116, 121, 112, 101]
                        · have e9 : seq p.1 s_type = false := by rw [seq, show s_type.toList = [116, 121, 112, 101] by rw [Lib.toList_data]]; exact he9
                          cases he10 : p.1.toList == [105, 103, 110, 111, 114, 101, 95, 117, 110, 109, 97, 112, 112, 101, 100]
                          · have e10 : seq p.1 s_ignore_unmapped = false := by rw [seq, show s_ignore_unmapped.toList = [105, 103, 110, 111, 114, 101, 95, 117, 110, 109, 97, 112, 112, 101, 100] by rw [Lib.toList_data]]; exact he10
                            cases he11 : p.1.toList == [118, 97, 108, 105, 100, 97, 116, 105, 111, 110, 95, 109, 101, 116, 104, 111, 100]
                            · have e11 : seq p.1 s_validation_method = false := by rw [seq, show s_validation_method.toList = [118, 97, 108, 105, 100, 97, 116, 105, 111, 110, 95, 109, 101, 116, 104, 111, 100] by rw [Lib.toList_data]]; exact he11
                              cases he12 : p.1.toList == [95, 110, 97, 109, 101]
                              · have e12 : seq p.1 s_name = false := by rw [seq, show s_name.toList = [95, 110, 97, 109, 101] by rw [Lib.toList_data]]; exact he12
                                go_wp2_with go_in
                                go_roundw
                                case rel =>
                                  have hy := ext_alloc (ext_refl wr) (.cells #[.string p.1, .int .i64 k, .string x, .float .f64 d, .bool y, .slice ka kn kc, .slice ca m cc] 49)
                                  exact ⟨ext_trans hx hy, Nat.le_trans hsz hy.sz, hb0.ext hy, j + 1, v1, v2, v3, v4, v5, v6, v7, v8, v9, by omega, by go_num, hbq.ext hy, by rw [foldC_step HP.out, stepC_skip e0 e4]; exact CornAt.ext H1.out hy, by rw [foldC_step HP.out, stepC_skip e3 e7]; exact CornAt.ext H2.out hy, by rw [foldC_step HP.out, stepC_skip e1 e5]; exact CornAt.ext H3.out hy, by rw [foldC_step HP.out, stepC_skip e2 e6]; exact CornAt.ext H4.out hy, by rw [last_miss HP.out e8]; exact H5.out, by rw [last_miss HP.out e9]; exact H6.out, by rw [last_miss HP.out e11]; exact H7.out, by rw [last_miss HP.out e10]; exact FY.ext hy H8.out, by rw [last_miss HP.out e12]; exact H9.out⟩
                                case measure => simp [intOf]; omega
                              · have e12 : seq p.1 s_name = true := by rw [seq, show s_name.toList = [95, 110, 97, 109, 101] by rw [Lib.toList_data]]; exact he12
                                go_wp2_with go_in
                                go_roundw
                                case rel =>
                                  have hk : Keeps (fun q => q ≠ (w.heap.size + 1)) wr ((wr.setCell ⟨(w.heap.size + 1), 9, none⟩ (.string x)).alloc (.cells #[.string p.1, .int .i64 k, .string x, .float .f64 d, .bool y, .slice ka kn kc, .slice ca m cc] 49)) := fun q hq hlt => (Below.heap_alloc _ _ _ (by simpa using hlt)).trans (Below.heap_setCell _ _ _ _ (by simp; omega))
                                  exact ⟨ext_alloc (ext_set hx (by simp) _) _, by simp; omega, (hb0.other (by simp) _).alloc _, j + 1, v1, v2, v3, v4, v5, v6, v7, v8, x, by omega, by go_num, (hbq.set 9 _).alloc _, by rw [foldC_step HP.out, stepC_ne e12 (seq_false.2 (by decide)) (seq_false.2 (by decide))]; exact CornAt.keep H1.out (fun _ h _ => h) hk, by rw [foldC_step HP.out, stepC_ne e12 (seq_false.2 (by decide)) (seq_false.2 (by decide))]; exact CornAt.keep H2.out (fun _ h _ => h) hk, by rw [foldC_step HP.out, stepC_ne e12 (seq_false.2 (by decide)) (seq_false.2 (by decide))]; exact CornAt.keep H3.out (fun _ h _ => h) hk, by rw [foldC_step HP.out, stepC_ne e12 (seq_false.2 (by decide)) (seq_false.2 (by decide))]; exact CornAt.keep H4.out (fun _ h _ => h) hk, by rw [last_other HP.out e12 (seq_false.2 (by decide))]; exact H5.out, by rw [last_other HP.out e12 (seq_false.2 (by decide))]; exact H6.out, by rw [last_other HP.out e12 (seq_false.2 (by decide))]; exact H7.out, by rw [last_other HP.out e12 (seq_false.2 (by decide))]; exact FY.keep (fun _ h _ => h) hk H8.out, by rw [last_hit HP.out e12]; exact hTx.out⟩
                                case measure => simp [intOf]; omega
                            · have e11 : seq p.1 s_validation_method = true := by rw [seq, show s_validation_method.toList = [118, 97, 108, 105, 100, 97, 116, 105, 111, 110, 95, 109, 101, 116, 104, 111, 100] by rw [Lib.toList_data]]; exact he11
                              go_wp2_with go_in
                              go_roundw
                              case rel =>
                                have hk : Keeps (fun q => q ≠ (w.heap.size + 1)) wr ((wr.setCell ⟨(w.heap.size + 1), 7, none⟩ (.string x)).alloc (.cells #[.string p.1, .int .i64 k, .string x, .float .f64 d, .bool y, .slice ka kn kc, .slice ca m cc] 49)) := fun q hq hlt => (Below.heap_alloc _ _ _ (by simpa using hlt)).trans (Below.heap_setCell _ _ _ _ (by simp; omega))
                                exact ⟨ext_alloc (ext_set hx (by simp) _) _, by simp; omega, (hb0.other (by simp) _).alloc _, j + 1, v1, v2, v3, v4, v5, v6, x, v8, v9, by omega, by go_num, (hbq.set 7 _).alloc _, by rw [foldC_step HP.out, stepC_ne e11 (seq_false.2 (by decide)) (seq_false.2 (by decide))]; exact CornAt.keep H1.out (fun _ h _ => h) hk, by rw [foldC_step HP.out, stepC_ne e11 (seq_false.2 (by decide)) (seq_false.2 (by decide))]; exact CornAt.keep H2.out (fun _ h _ => h) hk, by rw [foldC_step HP.out, stepC_ne e11 (seq_false.2 (by decide)) (seq_false.2 (by decide))]; exact CornAt.keep H3.out (fun _ h _ => h) hk, by rw [foldC_step HP.out, stepC_ne e11 (seq_false.2 (by decide)) (seq_false.2 (by decide))]; exact CornAt.keep H4.out (fun _ h _ => h) hk, by rw [last_other HP.out e11 (seq_false.2 (by decide))]; exact H5.out, by rw [last_other HP.out e11 (seq_false.2 (by decide))]; exact H6.out, by rw [last_hit HP.out e11]; exact hTx.out, by rw [last_other HP.out e11 (seq_false.2 (by decide))]; exact FY.keep (fun _ h _ => h) hk H8.out, by rw [last_other HP.out e11 (seq_false.2 (by decide))]; exact H9.out⟩
                              case measure => simp [intOf]; omega
                          · have e10 : seq p.1 s_ignore_unmapped = true := by rw [seq, show s_ignore_unmapped.toList = [105, 103, 110, 111, 114, 101, 95, 117, 110, 109, 97, 112, 112, 101, 100] by rw [Lib.toList_data]]; exact he10
                            go_wp2_with go_in
                            go_roundw
                            case rel =>
                              have hk : Keeps (fun q => q ≠ (w.heap.size + 1)) wr (((wr.setCell ⟨(w.heap.size + 1), 8, none⟩ (.pointer (some ⟨wr.heap.size + 1, 0, none⟩))).alloc (.cells #[.string p.1, .int .i64 k, .string x, .float .f64 d, .bool y, .slice ka kn kc, .slice ca m cc] 49)).alloc (.cells #[.bool y] 4)) := fun q hq hlt => (Below.heap_alloc _ _ _ (by simp; omega)).trans ((Below.heap_alloc _ _ _ (by simpa using hlt)).trans (Below.heap_setCell _ _ _ _ (by simp; omega)))
                              have hnew : (((wr.setCell ⟨(w.heap.size + 1), 8, none⟩ (.pointer (some ⟨wr.heap.size + 1, 0, none⟩))).alloc (.cells #[.string p.1, .int .i64 k, .string x, .float .f64 d, .bool y, .slice ka kn kc, .slice ca m cc] 49)).alloc (.cells #[.bool y] 4)).cell? ⟨wr.heap.size + 1, 0, none⟩ = some (.bool y) := (Box.at (by simp) _ _).cell 0 _ rfl
                              exact ⟨ext_alloc (ext_alloc (ext_set hx (by simp) _) _) _, by simp; omega, ((hb0.other (by simp) _).alloc _).alloc _, j + 1, v1, v2, v3, v4, v5, v6, v7, some ⟨wr.heap.size + 1, 0, none⟩, v9, by omega, by go_num, ((hbq.set 8 _).alloc _).alloc _, by rw [foldC_step HP.out, stepC_ne e10 (seq_false.2 (by decide)) (seq_false.2 (by decide))]; exact CornAt.keep H1.out (fun _ h _ => h) hk, by rw [foldC_step HP.out, stepC_ne e10 (seq_false.2 (by decide)) (seq_false.2 (by decide))]; exact CornAt.keep H2.out (fun _ h _ => h) hk, by rw [foldC_step HP.out, stepC_ne e10 (seq_false.2 (by decide)) (seq_false.2 (by decide))]; exact CornAt.keep H3.out (fun _ h _ => h) hk, by rw [foldC_step HP.out, stepC_ne e10 (seq_false.2 (by decide)) (seq_false.2 (by decide))]; exact CornAt.keep H4.out (fun _ h _ => h) hk, by rw [last_other HP.out e10 (seq_false.2 (by decide))]; exact H5.out, by rw [last_other HP.out e10 (seq_false.2 (by decide))]; exact H6.out, by rw [last_other HP.out e10 (seq_false.2 (by decide))]; exact H7.out, by rw [last_hit HP.out e10]; exact ⟨wr.heap.size + 1, rfl, by omega, by rw [← hTy.out]; exact hnew⟩, by rw [last_other HP.out e10 (seq_false.2 (by decide))]; exact H9.out⟩
                            case measure => simp [intOf]; omega
                        · have e9 : seq p.1 s_type = true := by rw [seq, show s_type.toList = [116, 121, 112, 101] by rw [Lib.toList_data]]; exact he9
                          go_wp2_with go_in
                          go_roundw
                          case rel =>
                            have hk : Keeps (fun q => q ≠ (w.heap.size + 1)) wr ((wr.setCell ⟨(w.heap.size + 1), 6, none⟩ (.string x)).alloc (.cells #[.string p.1, .int .i64 k, .string x, .float .f64 d, .bool y, .slice ka kn kc, .slice ca m cc] 49)) := fun q hq hlt => (Below.heap_alloc _ _ _ (by simpa using hlt)).trans (Below.heap_setCell _ _ _ _ (by simp; omega))
                            exact ⟨ext_alloc (ext_set hx (by simp) _) _, by simp; omega, (hb0.other (by simp) _).alloc _, j + 1, v1, v2, v3, v4, v5, x, v7, v8, v9, by omega, by go_num, (hbq.set 6 _).alloc _, by rw [foldC_step HP.out, stepC_ne e9 (seq_false.2 (by decide)) (seq_false.2 (by decide))]; exact CornAt.keep H1.out (fun _ h _ => h) hk, by rw [foldC_step HP.out, stepC_ne e9 (seq_false.2 (by decide)) (seq_false.2 (by decide))]; exact CornAt.keep H2.out (fun _ h _ => h) hk, by rw [foldC_step HP.out, stepC_ne e9 (seq_false.2 (by decide)) (seq_false.2 (by decide))]; exact CornAt.keep H3.out (fun _ h _ => h) hk, by rw [foldC_step HP.out, stepC_ne e9 (seq_false.2 (by decide)) (seq_false.2 (by decide))]; exact CornAt.keep H4.out (fun _ h _ => h) hk, by rw [last_other HP.out e9 (seq_false.2 (by decide))]; exact H5.out, by rw [last_hit HP.out e9]; exact hTx.out, by rw [last_other HP.out e9 (seq_false.2 (by decide))]; exact H7.out, by rw [last_other HP.out e9 (seq_false.2 (by decide))]; exact FY.keep (fun _ h _ => h) hk H8.out, by rw [last_other HP.out e9 (seq_false.2 (by decide))]; exact H9.out⟩
                          case measure => simp [intOf]; omega
                      · have e8 : seq p.1 s_wkt = true := by rw [seq, show s_wkt.toList = [119, 107, 116] by rw [Lib.toList_data]]; exact he8
                        have HSC := Lib.hid (HW5.out p (List.mem_of_getElem? HP.out) e8)
                        have hnn := ext_alloc (ext_refl wr) (.cells #[.string p.1, .int .i64 k, .string x, .float .f64 d, .bool y, .slice ka kn kc, .slice ca m cc] 49)
                        have HPL := Lib.hid (HTT.out _ (ext_trans hx hnn) HSC.out)
                        go_wp2_with (first
                          | (go_at_call 36; refine HPL.out.mono ?_; rintro r wl ⟨pv, rfl, hJ, hxl⟩; obtain ⟨tyv, xv, rfl⟩ := plain_iface HSC.out hJ; have HJ := Lib.hid hJ; clear hJ
                             have hyl := ext_trans hnn hxl; have hbl := hbq.ext hyl; have hbl0 := hb0.ext hyl; have hsl := hyl.sz
                             have hc0 := hbl.cell 0 _ rfl; have hf0 := hbl.free 0
                             have hc1 := hbl.cell 1 _ rfl; have hf1 := hbl.free 1
                             have hc2 := hbl.cell 2 _ rfl; have hf2 := hbl.free 2
                             have hc3 := hbl.cell 3 _ rfl; have hf3 := hbl.free 3
                             have hc4 := hbl.cell 4 _ rfl; have hf4 := hbl.free 4
                             have hc5 := hbl.cell 5 _ rfl; have hf5 := hbl.free 5
                             have hc6 := hbl.cell 6 _ rfl; have hf6 := hbl.free 6
                             have hc7 := hbl.cell 7 _ rfl; have hf7 := hbl.free 7
                             have hc8 := hbl.cell 8 _ rfl; have hf8 := hbl.free 8
                             have hc9 := hbl.cell 9 _ rfl; have hf9 := hbl.free 9
                             have g0 := hbl.lt; have g1 : ¬ w.heap.size = wl.heap.size := by omega)
                          | go_in)
                        go_roundw
                        case rel =>
                          have hk : Keeps (fun q => q ≠ (w.heap.size + 1)) wr (wl.setCell ⟨(w.heap.size + 1), 5, none⟩ (.iface tyv xv)) := fun q hq hlt => (Below.heap_setCell _ _ _ _ (by simp; omega)).trans (hyl.block q hlt)
                          repeat apply Exists.intro
                          refine And.intro ?_ rfl
                          exact ⟨ext_set (ext_trans hx hyl) (by simp <;> omega) _, by simp <;> omega, hbl0.other (p := ⟨(w.heap.size + 1), 5, none⟩) (by simp <;> omega) (.iface tyv xv), j + 1, v1, v2, v3, v4, _, v6, v7, v8, v9, by omega, by go_num, hbl.set 5 _, by rw [foldC_step HP.out, stepC_ne e8 (seq_false.2 (by decide)) (seq_false.2 (by decide))]; exact CornAt.keep H1.out (fun _ h _ => h) hk, by rw [foldC_step HP.out, stepC_ne e8 (seq_false.2 (by decide)) (seq_false.2 (by decide))]; exact CornAt.keep H2.out (fun _ h _ => h) hk, by rw [foldC_step HP.out, stepC_ne e8 (seq_false.2 (by decide)) (seq_false.2 (by decide))]; exact CornAt.keep H3.out (fun _ h _ => h) hk, by rw [foldC_step HP.out, stepC_ne e8 (seq_false.2 (by decide)) (seq_false.2 (by decide))]; exact CornAt.keep H4.out (fun _ h _ => h) hk, by rw [last_hit HP.out e8]; exact ⟨tyv, xv, rfl, fun _ => JAt.no HJ.out⟩, by rw [last_other HP.out e8 (seq_false.2 (by decide))]; exact H6.out, by rw [last_other HP.out e8 (seq_false.2 (by decide))]; exact H7.out, by rw [last_other HP.out e8 (seq_false.2 (by decide))]; exact FY.keep (fun _ h _ => h) hk H8.out, by rw [last_other HP.out e8 (seq_false.2 (by decide))]; exact H9.out⟩
                        case measure => simp [intOf]; omega
                    · have e7 : seq p.1 s_top_right_hash = true := by rw [seq, show s_top_right_hash.toList = [116, 111, 112, 95, 114, 105, 103, 104, 116, 95, 104, 97, 115, 104] by rw [Lib.toList_data]]; exact he7
                      go_wp2_with go_in
                      go_roundw
                      case rel =>
                        have hk : Keeps (fun q => q ≠ (w.heap.size + 1)) wr ((wr.setCell ⟨(w.heap.size + 1), 2, none⟩ (.iface 9 (.string x))).alloc (.cells #[.string p.1, .int .i64 k, .string x, .float .f64 d, .bool y, .slice ka kn kc, .slice ca m cc] 49)) := fun q hq hlt => (Below.heap_alloc _ _ _ (by simpa using hlt)).trans (Below.heap_setCell _ _ _ _ (by simp; omega))
                        exact ⟨ext_alloc (ext_set hx (by simp) _) _, by simp; omega, (hb0.other (by simp) _).alloc _, j + 1, v1, _, v3, v4, v5, v6, v7, v8, v9, by omega, by go_num, (hbq.set 2 _).alloc _, by rw [foldC_step HP.out, stepC_ne e7 (seq_false.2 (by decide)) (seq_false.2 (by decide))]; exact CornAt.keep H1.out (fun _ h _ => h) hk, by rw [foldC_step HP.out, stepC_text e7 (seq_false.2 (by decide))]; exact ⟨_, _, rfl, by simp only [JAt]; exact congrArg (fun z => Value.iface 9 (Value.string z)) hTx.out⟩, by rw [foldC_step HP.out, stepC_ne e7 (seq_false.2 (by decide)) (seq_false.2 (by decide))]; exact CornAt.keep H3.out (fun _ h _ => h) hk, by rw [foldC_step HP.out, stepC_ne e7 (seq_false.2 (by decide)) (seq_false.2 (by decide))]; exact CornAt.keep H4.out (fun _ h _ => h) hk, by rw [last_other HP.out e7 (seq_false.2 (by decide))]; exact H5.out, by rw [last_other HP.out e7 (seq_false.2 (by decide))]; exact H6.out, by rw [last_other HP.out e7 (seq_false.2 (by decide))]; exact H7.out, by rw [last_other HP.out e7 (seq_false.2 (by decide))]; exact FY.keep (fun _ h _ => h) hk H8.out, by rw [last_other HP.out e7 (seq_false.2 (by decide))]; exact H9.out⟩
                      case measure => simp [intOf]; omega
                  · have e6 : seq p.1 s_bottom_left_hash = true := by rw [seq, show s_bottom_left_hash.toList = [98, 111, 116, 116, 111, 109, 95, 108, 101, 102, 116, 95, 104, 97, 115, 104] by rw [Lib.toList_data]]; exact he6
                    go_wp2_with go_in
                    go_roundw
                    case rel =>
                      have hk : Keeps (fun q => q ≠ (w.heap.size + 1)) wr ((wr.setCell ⟨(w.heap.size + 1), 4, none⟩ (.iface 9 (.string x))).alloc (.cells #[.string p.1, .int .i64 k, .string x, .float .f64 d, .bool y, .slice ka kn kc, .slice ca m cc] 49)) := fun q hq hlt => (Below.heap_alloc _ _ _ (by simpa using hlt)).trans (Below.heap_setCell _ _ _ _ (by simp; omega))
                      exact ⟨ext_alloc (ext_set hx (by simp) _) _, by simp; omega, (hb0.other (by simp) _).alloc _, j + 1, v1, v2, v3, _, v5, v6, v7, v8, v9, by omega, by go_num, (hbq.set 4 _).alloc _, by rw [foldC_step HP.out, stepC_ne e6 (seq_false.2 (by decide)) (seq_false.2 (by decide))]; exact CornAt.keep H1.out (fun _ h _ => h) hk, by rw [foldC_step HP.out, stepC_ne e6 (seq_false.2 (by decide)) (seq_false.2 (by decide))]; exact CornAt.keep H2.out (fun _ h _ => h) hk, by rw [foldC_step HP.out, stepC_ne e6 (seq_false.2 (by decide)) (seq_false.2 (by decide))]; exact CornAt.keep H3.out (fun _ h _ => h) hk, by rw [foldC_step HP.out, stepC_text e6 (seq_false.2 (by decide))]; exact ⟨_, _, rfl, by simp only [JAt]; exact congrArg (fun z => Value.iface 9 (Value.string z)) hTx.out⟩, by rw [last_other HP.out e6 (seq_false.2 (by decide))]; exact H5.out, by rw [last_other HP.out e6 (seq_false.2 (by decide))]; exact H6.out, by rw [last_other HP.out e6 (seq_false.2 (by decide))]; exact H7.out, by rw [last_other HP.out e6 (seq_false.2 (by decide))]; exact FY.keep (fun _ h _ => h) hk H8.out, by rw [last_other HP.out e6 (seq_false.2 (by decide))]; exact H9.out⟩
                    case measure => simp [intOf]; omega
                · have e5 : seq p.1 s_bottom_right_hash = true := by rw [seq, show s_bottom_right_hash.toList = [98, 111, 116, 116, 111, 109, 95, 114, 105, 103, 104, 116, 95, 104, 97, 115, 104] by rw [Lib.toList_data]]; exact he5
                  go_wp2_with go_in
                  go_roundw
                  case rel =>
                    have hk : Keeps (fun q => q ≠ (w.heap.size + 1)) wr ((wr.setCell ⟨(w.heap.size + 1), 3, none⟩ (.iface 9 (.string x))).alloc (.cells #[.string p.1, .int .i64 k, .string x, .float .f64 d, .bool y, .slice ka kn kc, .slice ca m cc] 49)) := fun q hq hlt => (Below.heap_alloc _ _ _ (by simpa using hlt)).trans (Below.heap_setCell _ _ _ _ (by simp; omega))
                    exact ⟨ext_alloc (ext_set hx (by simp) _) _, by simp; omega, (hb0.other (by simp) _).alloc _, j + 1, v1, v2, _, v4, v5, v6, v7, v8, v9, by omega, by go_num, (hbq.set 3 _).alloc _, by rw [foldC_step HP.out, stepC_ne e5 (seq_false.2 (by decide)) (seq_false.2 (by decide))]; exact CornAt.keep H1.out (fun _ h _ => h) hk, by rw [foldC_step HP.out, stepC_ne e5 (seq_false.2 (by decide)) (seq_false.2 (by decide))]; exact CornAt.keep H2.out (fun _ h _ => h) hk, by rw [foldC_step HP.out, stepC_text e5 (seq_false.2 (by decide))]; exact ⟨_, _, rfl, by simp only [JAt]; exact congrArg (fun z => Value.iface 9 (Value.string z)) hTx.out⟩, by rw [foldC_step HP.out, stepC_ne e5 (seq_false.2 (by decide)) (seq_false.2 (by decide))]; exact CornAt.keep H4.out (fun _ h _ => h) hk, by rw [last_other HP.out e5 (seq_false.2 (by decide))]; exact H5.out, by rw [last_other HP.out e5 (seq_false.2 (by decide))]; exact H6.out, by rw [last_other HP.out e5 (seq_false.2 (by decide))]; exact H7.out, by rw [last_other HP.out e5 (seq_false.2 (by decide))]; exact FY.keep (fun _ h _ => h) hk H8.out, by rw [last_other HP.out e5 (seq_false.2 (by decide))]; exact H9.out⟩
                  case measure => simp [intOf]; omega
              · have e4 : seq p.1 s_top_left_hash = true := by rw [seq, show s_top_left_hash.toList = [116, 111, 112, 95, 108, 101, 102, 116, 95, 104, 97, 115, 104] by rw [Lib.toList_data]]; exact he4
                go_wp2_with go_in
                go_roundw
                case rel =>
                  have hk : Keeps (fun q => q ≠ (w.heap.size + 1)) wr ((wr.setCell ⟨(w.heap.size + 1), 1, none⟩ (.iface 9 (.string x))).alloc (.cells #[.string p.1, .int .i64 k, .string x, .float .f64 d, .bool y, .slice ka kn kc, .slice ca m cc] 49)) := fun q hq hlt => (Below.heap_alloc _ _ _ (by simpa using hlt)).trans (Below.heap_setCell _ _ _ _ (by simp; omega))
                  exact ⟨ext_alloc (ext_set hx (by simp) _) _, by simp; omega, (hb0.other (by simp) _).alloc _, j + 1, _, v2, v3, v4, v5, v6, v7, v8, v9, by omega, by go_num, (hbq.set 1 _).alloc _, by rw [foldC_step HP.out, stepC_text e4 (seq_false.2 (by decide))]; exact ⟨_, _, rfl, by simp only [JAt]; exact congrArg (fun z => Value.iface 9 (Value.string z)) hTx.out⟩, by rw [foldC_step HP.out, stepC_ne e4 (seq_false.2 (by decide)) (seq_false.2 (by decide))]; exact CornAt.keep H2.out (fun _ h _ => h) hk, by rw [foldC_step HP.out, stepC_ne e4 (seq_false.2 (by decide)) (seq_false.2 (by decide))]; exact CornAt.keep H3.out (fun _ h _ => h) hk, by rw [foldC_step HP.out, stepC_ne e4 (seq_false.2 (by decide)) (seq_false.2 (by decide))]; exact CornAt.keep H4.out (fun _ h _ => h) hk, by rw [last_other HP.out e4 (seq_false.2 (by decide))]; exact H5.out, by rw [last_other HP.out e4 (seq_false.2 (by decide))]; exact H6.out, by rw [last_other HP.out e4 (seq_false.2 (by decide))]; exact H7.out, by rw [last_other HP.out e4 (seq_false.2 (by decide))]; exact FY.keep (fun _ h _ => h) hk H8.out, by rw [last_other HP.out e4 (seq_false.2 (by decide))]; exact H9.out⟩
                case measure => simp [intOf]; omega
            · have e3 : seq p.1 s_top_right = true := by rw [seq, show s_top_right.toList = [116, 111, 112, 95, 114, 105, 103, 104, 116] by rw [Lib.toList_data]]; exact he3
              go_upto_region 13 with go_in
              have hy := ext_alloc (ext_refl wr) (.cells #[.string p.1, .int .i64 k, .string x, .float .f64 d, .bool y, .slice ka kn kc, .slice ca m cc] 49)
              have hbS : Box (wr.alloc (.cells #[.string p.1, .int .i64 k, .string x, .float .f64 d, .bool y, .slice ka kn kc, .slice ca m cc] 49)) wr.heap.size #[.string p.1, .int .i64 k, .string x, .float .f64 d, .bool y, .slice ka kn kc, .slice ca m cc] 49 := Box.at rfl _ _
              refine wp_region_order (fun (w' : World) => w'.cell? ⟨wr.heap.size, 1, none⟩ = some (.int .i64 k) ∧ w'.cell? ⟨wr.heap.size, 2, none⟩ = some (.string x) ∧ w'.cell? ⟨wr.heap.size, 3, none⟩ = some (.float .f64 d) ∧ w'.cell? ⟨wr.heap.size, 4, none⟩ = some (.bool y) ∧ w'.cell? ⟨wr.heap.size, 5, none⟩ = some (.slice ka kn kc) ∧ w'.cell? ⟨wr.heap.size, 6, none⟩ = some (.slice ca m cc)) [0, 1, 2, 4, 5] [0, 1, 2, 4, 5, 3, 6, 7] (by kernel_rfl) (by kernel_rfl) (fun d _ _ _ _ h => by cases d <;> exact h) (by kernel_rfl) ?_
              have hS : (fun (w' : World) => w'.cell? ⟨wr.heap.size, 1, none⟩ = some (.int .i64 k) ∧ w'.cell? ⟨wr.heap.size, 2, none⟩ = some (.string x) ∧ w'.cell? ⟨wr.heap.size, 3, none⟩ = some (.float .f64 d) ∧ w'.cell? ⟨wr.heap.size, 4, none⟩ = some (.bool y) ∧ w'.cell? ⟨wr.heap.size, 5, none⟩ = some (.slice ka kn kc) ∧ w'.cell? ⟨wr.heap.size, 6, none⟩ = some (.slice ca m cc)) (wr.alloc (.cells #[.string p.1, .int .i64 k, .string x, .float .f64 d, .bool y, .slice ka kn kc, .slice ca m cc] 49)).drew := ⟨hbS.drew.cell 1 _ rfl, hbS.drew.cell 2 _ rfl, hbS.drew.cell 3 _ rfl, hbS.drew.cell 4 _ rfl, hbS.drew.cell 5 _ rfl, hbS.drew.cell 6 _ rfl⟩
              (apply ord_held rfl rfl (by assumption) rfl; (focus ((intro w' hS'); go_simp; (try with_reducible rfl))); (try simp only [Act.put, List.setIfInBounds_toArray, List.set_cons_zero, List.set_cons_succ]))
              (apply ord_held rfl rfl (by assumption) rfl; (focus ((intro w' hS'); go_simp; (try with_reducible rfl))); (try simp only [Act.put, List.setIfInBounds_toArray, List.set_cons_zero, List.set_cons_succ]))
              (apply ord_held rfl rfl (by assumption) rfl; (focus ((intro w' hS'); go_simp; (try with_reducible rfl))); (try simp only [Act.put, List.setIfInBounds_toArray, List.set_cons_zero, List.set_cons_succ]))
              (apply ord_held rfl rfl (by assumption) rfl; (focus ((intro w' hS'); go_simp; (try with_reducible rfl))); (try simp only [Act.put, List.setIfInBounds_toArray, List.set_cons_zero, List.set_cons_succ]))
              (apply ord_held rfl rfl (by assumption) rfl; (focus ((intro w' hS'); go_simp; (try with_reducible rfl))); (try simp only [Act.put, List.setIfInBounds_toArray, List.set_cons_zero, List.set_cons_succ]))
              (apply ord_loud rfl rfl rfl; intro K hK; go_simp)
              refine (kidN_any (⟨k, x, d, y, ka, kn, kc, ca, m, cc⟩ : El) p.2 0 _ ((hTz.out.ext hy).ext (ext_drew (ext_refl _)))).mono ?_
              rintro r wk1 ⟨rfl, hk1⟩
              have hz1 : Ext (wr.alloc (.cells #[.string p.1, .int .i64 k, .string x, .float .f64 d, .bool y, .slice ka kn kc, .slice ca m cc] 49)) wk1 := ext_trans (ext_drew (ext_refl _)) hk1
              have hS1 : (fun (w' : World) => w'.cell? ⟨wr.heap.size, 1, none⟩ = some (.int .i64 k) ∧ w'.cell? ⟨wr.heap.size, 2, none⟩ = some (.string x) ∧ w'.cell? ⟨wr.heap.size, 3, none⟩ = some (.float .f64 d) ∧ w'.cell? ⟨wr.heap.size, 4, none⟩ = some (.bool y) ∧ w'.cell? ⟨wr.heap.size, 5, none⟩ = some (.slice ka kn kc) ∧ w'.cell? ⟨wr.heap.size, 6, none⟩ = some (.slice ca m cc)) wk1 := ⟨(hbS.ext hz1).cell 1 _ rfl, (hbS.ext hz1).cell 2 _ rfl, (hbS.ext hz1).cell 3 _ rfl, (hbS.ext hz1).cell 4 _ rfl, (hbS.ext hz1).cell 5 _ rfl, (hbS.ext hz1).cell 6 _ rfl⟩
              refine hK _ _ (fun _ => hS1) ?_
              clear hK K
              (try simp only [Act.put, List.setIfInBounds_toArray, List.set_cons_zero, List.set_cons_succ])
              (apply ord_loud rfl rfl rfl; intro K hK; go_simp)
              refine (kidN_any (⟨k, x, d, y, ka, kn, kc, ca, m, cc⟩ : El) p.2 1 _ ((hTz.out.ext hy).ext (hz1))).mono ?_
              rintro r wk2 ⟨rfl, hk2⟩
              have hz2 : Ext (wr.alloc (.cells #[.string p.1, .int .i64 k, .string x, .float .f64 d, .bool y, .slice ka kn kc, .slice ca m cc] 49)) wk2 := ext_trans (hz1) hk2
              have hS2 : (fun (w' : World) => w'.cell? ⟨wr.heap.size, 1, none⟩ = some (.int .i64 k) ∧ w'.cell? ⟨wr.heap.size, 2, none⟩ = some (.string x) ∧ w'.cell? ⟨wr.heap.size, 3, none⟩ = some (.float .f64 d) ∧ w'.cell? ⟨wr.heap.size, 4, none⟩ = some (.bool y) ∧ w'.cell? ⟨wr.heap.size, 5, none⟩ = some (.slice ka kn kc) ∧ w'.cell? ⟨wr.heap.size, 6, none⟩ = some (.slice ca m cc)) wk2 := ⟨(hbS.ext hz2).cell 1 _ rfl, (hbS.ext hz2).cell 2 _ rfl, (hbS.ext hz2).cell 3 _ rfl, (hbS.ext hz2).cell 4 _ rfl, (hbS.ext hz2).cell 5 _ rfl, (hbS.ext hz2).cell 6 _ rfl⟩
              refine hK _ _ (fun _ => hS2) ?_
              clear hK K
              (try simp only [Act.put, List.setIfInBounds_toArray, List.set_cons_zero, List.set_cons_succ])
              (apply ord_loud rfl rfl rfl; intro K hK; go_simp)
              have hb5 := (hbq.ext hy).ext hz2
              refine (cTopRight_any _ _ _ _ _ _ _ _ _ _ _ _ hb5 _ _).mono ?_
              rintro r wp ⟨rfl, hwp⟩
              have hbSp : Box wp wr.heap.size #[.string p.1, .int .i64 k, .string x, .float .f64 d, .bool y, .slice ka kn kc, .slice ca m cc] 49 := by rw [hwp]; exact ((hbS.ext hz2).other (by simp; omega) _).alloc _
              have hS9 : (fun (w' : World) => w'.cell? ⟨wr.heap.size, 1, none⟩ = some (.int .i64 k) ∧ w'.cell? ⟨wr.heap.size, 2, none⟩ = some (.string x) ∧ w'.cell? ⟨wr.heap.size, 3, none⟩ = some (.float .f64 d) ∧ w'.cell? ⟨wr.heap.size, 4, none⟩ = some (.bool y) ∧ w'.cell? ⟨wr.heap.size, 5, none⟩ = some (.slice ka kn kc) ∧ w'.cell? ⟨wr.heap.size, 6, none⟩ = some (.slice ca m cc)) wp := ⟨hbSp.cell 1 _ rfl, hbSp.cell 2 _ rfl, hbSp.cell 3 _ rfl, hbSp.cell 4 _ rfl, hbSp.cell 5 _ rfl, hbSp.cell 6 _ rfl⟩
              refine hK _ _ (fun _ => hS9) ?_
              clear hK K
              (try simp only [Act.put, List.setIfInBounds_toArray, List.set_cons_zero, List.set_cons_succ])
              refine ord_end ?_
              have hyz := ext_trans hy hz2
              have hszp := hyz.sz
              have hbp0 := (hb0.ext hyz)
              have hxp : Ext w wp := by rw [hwp]; exact ext_alloc (ext_set (ext_trans hx hyz) (by simp) _) _
              have hb0p : Box wp w.heap.size (El.arr El0) 30 := by rw [hwp]; exact (hbp0.other (by simp) _).alloc _
              have hbqp : Box wp (w.heap.size + 1) #[.string f, v1, .iface 102 (.slice (some ⟨wk2.heap.size, 0, none⟩) 2 2), v3, v4, v5, .string v6, .string v7, .pointer v8, .string v9] 101 := by rw [hwp]; exact (hb5.set 2 _).alloc _
              have hszq : (w.heap.size + 2) ≤ wp.heap.size := by rw [hwp]; simp; omega
              have hk : Keeps (fun q => q ≠ (w.heap.size + 1)) wr wp := by rw [hwp]; exact fun q hq hl9 => (Below.heap_alloc _ _ _ (by simp; omega)).trans ((Below.heap_setCell _ _ _ _ (by simp; omega)).trans (hyz.block q hl9))
              have hnJ : JAt (fun q => q ≠ (w.heap.size + 1)) wp (.iface 102 (.slice (some ⟨wk2.heap.size, 0, none⟩) 2 2)) (.nums [(kidT p.2 1).num, (kidT p.2 0).num]) := by rw [hwp]; exact nums_at (Box.at (by simp) #[.float .f64 (kidT p.2 1).num, .float .f64 (kidT p.2 0).num] _) (by omega)
              clear hwp hb5 hbp0 hbS hS hS1 hS2 hS9 hbSp
              go_wp2_with fail
              go_roundw
              case rel =>
                first
                  | exact ⟨j + 1, by omega, by first | rfl | simp | omega, v1, _, v3, v4, v5, v6, v7, v8, v9, hbqp, by rw [foldC_step HP.out, stepC_ne e3 (seq_false.2 (by decide)) (seq_false.2 (by decide))]; exact CornAt.keep H1.out (fun _ h _ => h) hk, by rw [foldC_step HP.out, stepC_pair e3]; exact ⟨_, _, rfl, hnJ⟩, by rw [foldC_step HP.out, stepC_ne e3 (seq_false.2 (by decide)) (seq_false.2 (by decide))]; exact CornAt.keep H3.out (fun _ h _ => h) hk, by rw [foldC_step HP.out, stepC_ne e3 (seq_false.2 (by decide)) (seq_false.2 (by decide))]; exact CornAt.keep H4.out (fun _ h _ => h) hk, by rw [last_other HP.out e3 (seq_false.2 (by decide))]; exact H5.out, by rw [last_other HP.out e3 (seq_false.2 (by decide))]; exact H6.out, by rw [last_other HP.out e3 (seq_false.2 (by decide))]; exact H7.out, by rw [last_other HP.out e3 (seq_false.2 (by decide))]; exact FY.keep (fun _ h _ => h) hk H8.out, by rw [last_other HP.out e3 (seq_false.2 (by decide))]; exact H9.out⟩
                  | (repeat apply Exists.intro
                     refine And.intro ?_ rfl
                     exact ⟨hxp, hszq, hb0p, j + 1, v1, _, v3, v4, v5, v6, v7, v8, v9, by omega, by go_num, hbqp, by rw [foldC_step HP.out, stepC_ne e3 (seq_false.2 (by decide)) (seq_false.2 (by decide))]; exact CornAt.keep H1.out (fun _ h _ => h) hk, by rw [foldC_step HP.out, stepC_pair e3]; exact ⟨_, _, rfl, hnJ⟩, by rw [foldC_step HP.out, stepC_ne e3 (seq_false.2 (by decide)) (seq_false.2 (by decide))]; exact CornAt.keep H3.out (fun _ h _ => h) hk, by rw [foldC_step HP.out, stepC_ne e3 (seq_false.2 (by decide)) (seq_false.2 (by decide))]; exact CornAt.keep H4.out (fun _ h _ => h) hk, by rw [last_other HP.out e3 (seq_false.2 (by decide))]; exact H5.out, by rw [last_other HP.out e3 (seq_false.2 (by decide))]; exact H6.out, by rw [last_other HP.out e3 (seq_false.2 (by decide))]; exact H7.out, by rw [last_other HP.out e3 (seq_false.2 (by decide))]; exact FY.keep (fun _ h _ => h) hk H8.out, by rw [last_other HP.out e3 (seq_false.2 (by decide))]; exact H9.out⟩)
                  | exact ⟨hxp, hszq, hb0p, j + 1, v1, _, v3, v4, v5, v6, v7, v8, v9, by omega, by go_num, hbqp, by rw [foldC_step HP.out, stepC_ne e3 (seq_false.2 (by decide)) (seq_false.2 (by decide))]; exact CornAt.keep H1.out (fun _ h _ => h) hk, by rw [foldC_step HP.out, stepC_pair e3]; exact ⟨_, _, rfl, hnJ⟩, by rw [foldC_step HP.out, stepC_ne e3 (seq_false.2 (by decide)) (seq_false.2 (by decide))]; exact CornAt.keep H3.out (fun _ h _ => h) hk, by rw [foldC_step HP.out, stepC_ne e3 (seq_false.2 (by decide)) (seq_false.2 (by decide))]; exact CornAt.keep H4.out (fun _ h _ => h) hk, by rw [last_other HP.out e3 (seq_false.2 (by decide))]; exact H5.out, by rw [last_other HP.out e3 (seq_false.2 (by decide))]; exact H6.out, by rw [last_other HP.out e3 (seq_false.2 (by decide))]; exact H7.out, by rw [last_other HP.out e3 (seq_false.2 (by decide))]; exact FY.keep (fun _ h _ => h) hk H8.out, by rw [last_other HP.out e3 (seq_false.2 (by decide))]; exact H9.out⟩
              case measure => simp [intOf]; omega
          · have e2 : seq p.1 s_bottom_left = true := by rw [seq, show s_bottom_left.toList = [98, 111, 116, 116, 111, 109, 95, 108, 101, 102, 116] by rw [Lib.toList_data]]; exact he2
            go_upto_region 11 with go_in
            have hy := ext_alloc (ext_refl wr) (.cells #[.string p.1, .int .i64 k, .string x, .float .f64 d, .bool y, .slice ka kn kc, .slice ca m cc] 49)
            have hbS : Box (wr.alloc (.cells #[.string p.1, .int .i64 k, .string x, .float .f64 d, .bool y, .slice ka kn kc, .slice ca m cc] 49)) wr.heap.size #[.string p.1, .int .i64 k, .string x, .float .f64 d, .bool y, .slice ka kn kc, .slice ca m cc] 49 := Box.at rfl _ _
            refine wp_region_order (fun (w' : World) => w'.cell? ⟨wr.heap.size, 1, none⟩ = some (.int .i64 k) ∧ w'.cell? ⟨wr.heap.size, 2, none⟩ = some (.string x) ∧ w'.cell? ⟨wr.heap.size, 3, none⟩ = some (.float .f64 d) ∧ w'.cell? ⟨wr.heap.size, 4, none⟩ = some (.bool y) ∧ w'.cell? ⟨wr.heap.size, 5, none⟩ = some (.slice ka kn kc) ∧ w'.cell? ⟨wr.heap.size, 6, none⟩ = some (.slice ca m cc)) [0, 1, 2, 4, 5] [0, 1, 2, 4, 5, 3, 6, 7] (by kernel_rfl) (by kernel_rfl) (fun d _ _ _ _ h => by cases d <;> exact h) (by kernel_rfl) ?_
            have hS : (fun (w' : World) => w'.cell? ⟨wr.heap.size, 1, none⟩ = some (.int .i64 k) ∧ w'.cell? ⟨wr.heap.size, 2, none⟩ = some (.string x) ∧ w'.cell? ⟨wr.heap.size, 3, none⟩ = some (.float .f64 d) ∧ w'.cell? ⟨wr.heap.size, 4, none⟩ = some (.bool y) ∧ w'.cell? ⟨wr.heap.size, 5, none⟩ = some (.slice ka kn kc) ∧ w'.cell? ⟨wr.heap.size, 6, none⟩ = some (.slice ca m cc)) (wr.alloc (.cells #[.string p.1, .int .i64 k, .string x, .float .f64 d, .bool y, .slice ka kn kc, .slice ca m cc] 49)).drew := ⟨hbS.drew.cell 1 _ rfl, hbS.drew.cell 2 _ rfl, hbS.drew.cell 3 _ rfl, hbS.drew.cell 4 _ rfl, hbS.drew.cell 5 _ rfl, hbS.drew.cell 6 _ rfl⟩
            (apply ord_held rfl rfl (by assumption) rfl; (focus ((intro w' hS'); go_simp; (try with_reducible rfl))); (try simp only [Act.put, List.setIfInBounds_toArray, List.set_cons_zero, List.set_cons_succ]))
            (apply ord_held rfl rfl (by assumption) rfl; (focus ((intro w' hS'); go_simp; (try with_reducible rfl))); (try simp only [Act.put, List.setIfInBounds_toArray, List.set_cons_zero, List.set_cons_succ]))
            (apply ord_held rfl rfl (by assumption) rfl; (focus ((intro w' hS'); go_simp; (try with_reducible rfl))); (try simp only [Act.put, List.setIfInBounds_toArray, List.set_cons_zero, List.set_cons_succ]))
            (apply ord_held rfl rfl (by assumption) rfl; (focus ((intro w' hS'); go_simp; (try with_reducible rfl))); (try simp only [Act.put, List.setIfInBounds_toArray, List.set_cons_zero, List.set_cons_succ]))
            (apply ord_held rfl rfl (by assumption) rfl; (focus ((intro w' hS'); go_simp; (try with_reducible rfl))); (try simp only [Act.put, List.setIfInBounds_toArray, List.set_cons_zero, List.set_cons_succ]))
            (apply ord_loud rfl rfl rfl; intro K hK; go_simp)
            refine (kidN_any (⟨k, x, d, y, ka, kn, kc, ca, m, cc⟩ : El) p.2 0 _ ((hTz.out.ext hy).ext (ext_drew (ext_refl _)))).mono ?_
            rintro r wk1 ⟨rfl, hk1⟩
            have hz1 : Ext (wr.alloc (.cells #[.string p.1, .int .i64 k, .string x, .float .f64 d, .bool y, .slice ka kn kc, .slice ca m cc] 49)) wk1 := ext_trans (ext_drew (ext_refl _)) hk1
            have hS1 : (fun (w' : World) => w'.cell? ⟨wr.heap.size, 1, none⟩ = some (.int .i64 k) ∧ w'.cell? ⟨wr.heap.size, 2, none⟩ = some (.string x) ∧ w'.cell? ⟨wr.heap.size, 3, none⟩ = some (.float .f64 d) ∧ w'.cell? ⟨wr.heap.size, 4, none⟩ = some (.bool y) ∧ w'.cell? ⟨wr.heap.size, 5, none⟩ = some (.slice ka kn kc) ∧ w'.cell? ⟨wr.heap.size, 6, none⟩ = some (.slice ca m cc)) wk1 := ⟨(hbS.ext hz1).cell 1 _ rfl, (hbS.ext hz1).cell 2 _ rfl, (hbS.ext hz1).cell 3 _ rfl, (hbS.ext hz1).cell 4 _ rfl, (hbS.ext hz1).cell 5 _ rfl, (hbS.ext hz1).cell 6 _ rfl⟩
            refine hK _ _ (fun _ => hS1) ?_
            clear hK K
            (try simp only [Act.put, List.setIfInBounds_toArray, List.set_cons_zero, List.set_cons_succ])
            (apply ord_loud rfl rfl rfl; intro K hK; go_simp)
            refine (kidN_any (⟨k, x, d, y, ka, kn, kc, ca, m, cc⟩ : El) p.2 1 _ ((hTz.out.ext hy).ext (hz1))).mono ?_
            rintro r wk2 ⟨rfl, hk2⟩
            have hz2 : Ext (wr.alloc (.cells #[.string p.1, .int .i64 k, .string x, .float .f64 d, .bool y, .slice ka kn kc, .slice ca m cc] 49)) wk2 := ext_trans (hz1) hk2
            have hS2 : (fun (w' : World) => w'.cell? ⟨wr.heap.size, 1, none⟩ = some (.int .i64 k) ∧ w'.cell? ⟨wr.heap.size, 2, none⟩ = some (.string x) ∧ w'.cell? ⟨wr.heap.size, 3, none⟩ = some (.float .f64 d) ∧ w'.cell? ⟨wr.heap.size, 4, none⟩ = some (.bool y) ∧ w'.cell? ⟨wr.heap.size, 5, none⟩ = some (.slice ka kn kc) ∧ w'.cell? ⟨wr.heap.size, 6, none⟩ = some (.slice ca m cc)) wk2 := ⟨(hbS.ext hz2).cell 1 _ rfl, (hbS.ext hz2).cell 2 _ rfl, (hbS.ext hz2).cell 3 _ rfl, (hbS.ext hz2).cell 4 _ rfl, (hbS.ext hz2).cell 5 _ rfl, (hbS.ext hz2).cell 6 _ rfl⟩
            refine hK _ _ (fun _ => hS2) ?_
            clear hK K
            (try simp only [Act.put, List.setIfInBounds_toArray, List.set_cons_zero, List.set_cons_succ])
            (apply ord_loud rfl rfl rfl; intro K hK; go_simp)
            have hb5 := (hbq.ext hy).ext hz2
            refine (cBottomLeft_any _ _ _ _ _ _ _ _ _ _ _ _ hb5 _ _).mono ?_
            rintro r wp ⟨rfl, hwp⟩
            have hbSp : Box wp wr.heap.size #[.string p.1, .int .i64 k, .string x, .float .f64 d, .bool y, .slice ka kn kc, .slice ca m cc] 49 := by rw [hwp]; exact ((hbS.ext hz2).other (by simp; omega) _).alloc _
            have hS9 : (fun (w' : World) => w'.cell? ⟨wr.heap.size, 1, none⟩ = some (.int .i64 k) ∧ w'.cell? ⟨wr.heap.size, 2, none⟩ = some (.string x) ∧ w'.cell? ⟨wr.heap.size, 3, none⟩ = some (.float .f64 d) ∧ w'.cell? ⟨wr.heap.size, 4, none⟩ = some (.bool y) ∧ w'.cell? ⟨wr.heap.size, 5, none⟩ = some (.slice ka kn kc) ∧ w'.cell? ⟨wr.heap.size, 6, none⟩ = some (.slice ca m cc)) wp := ⟨hbSp.cell 1 _ rfl, hbSp.cell 2 _ rfl, hbSp.cell 3 _ rfl, hbSp.cell 4 _ rfl, hbSp.cell 5 _ rfl, hbSp.cell 6 _ rfl⟩
            refine hK _ _ (fun _ => hS9) ?_
            clear hK K
            (try simp only [Act.put, List.setIfInBounds_toArray, List.set_cons_zero, List.set_cons_succ])
            refine ord_end ?_
            have hyz := ext_trans hy hz2
            have hszp := hyz.sz
            have hbp0 := (hb0.ext hyz)
            have hxp : Ext w wp := by rw [hwp]; exact ext_alloc (ext_set (ext_trans hx hyz) (by simp) _) _
            have hb0p : Box wp w.heap.size (El.arr El0) 30 := by rw [hwp]; exact (hbp0.other (by simp) _).alloc _
            have hbqp : Box wp (w.heap.size + 1) #[.string f, v1, v2, v3, .iface 102 (.slice (some ⟨wk2.heap.size, 0, none⟩) 2 2), v5, .string v6, .string v7, .pointer v8, .string v9] 101 := by rw [hwp]; exact (hb5.set 4 _).alloc _
            have hszq : (w.heap.size + 2) ≤ wp.heap.size := by rw [hwp]; simp; omega
            have hk : Keeps (fun q => q ≠ (w.heap.size + 1)) wr wp := by rw [hwp]; exact fun q hq hl9 => (Below.heap_alloc _ _ _ (by simp; omega)).trans ((Below.heap_setCell _ _ _ _ (by simp; omega)).trans (hyz.block q hl9))
            have hnJ : JAt (fun q => q ≠ (w.heap.size + 1)) wp (.iface 102 (.slice (some ⟨wk2.heap.size, 0, none⟩) 2 2)) (.nums [(kidT p.2 0).num, (kidT p.2 1).num]) := by rw [hwp]; exact nums_at (Box.at (by simp) #[.float .f64 (kidT p.2 0).num, .float .f64 (kidT p.2 1).num] _) (by omega)
            clear hwp hb5 hbp0 hbS hS hS1 hS2 hS9 hbSp
            go_wp2_with fail
            go_roundw
            case rel =>
              first
                | exact ⟨j + 1, by omega, by first | rfl | simp | omega, v1, v2, v3, _, v5, v6, v7, v8, v9, hbqp, by rw [foldC_step HP.out, stepC_ne e2 (seq_false.2 (by decide)) (seq_false.2 (by decide))]; exact CornAt.keep H1.out (fun _ h _ => h) hk, by rw [foldC_step HP.out, stepC_ne e2 (seq_false.2 (by decide)) (seq_false.2 (by decide))]; exact CornAt.keep H2.out (fun _ h _ => h) hk, by rw [foldC_step HP.out, stepC_ne e2 (seq_false.2 (by decide)) (seq_false.2 (by decide))]; exact CornAt.keep H3.out (fun _ h _ => h) hk, by rw [foldC_step HP.out, stepC_pair e2]; exact ⟨_, _, rfl, hnJ⟩, by rw [last_other HP.out e2 (seq_false.2 (by decide))]; exact H5.out, by rw [last_other HP.out e2 (seq_false.2 (by decide))]; exact H6.out, by rw [last_other HP.out e2 (seq_false.2 (by decide))]; exact H7.out, by rw [last_other HP.out e2 (seq_false.2 (by decide))]; exact FY.keep (fun _ h _ => h) hk H8.out, by rw [last_other HP.out e2 (seq_false.2 (by decide))]; exact H9.out⟩
                | (repeat apply Exists.intro
                   refine And.intro ?_ rfl
                   exact ⟨hxp, hszq, hb0p, j + 1, v1, v2, v3, _, v5, v6, v7, v8, v9, by omega, by go_num, hbqp, by rw [foldC_step HP.out, stepC_ne e2 (seq_false.2 (by decide)) (seq_false.2 (by decide))]; exact CornAt.keep H1.out (fun _ h _ => h) hk, by rw [foldC_step HP.out, stepC_ne e2 (seq_false.2 (by decide)) (seq_false.2 (by decide))]; exact CornAt.keep H2.out (fun _ h _ => h) hk, by rw [foldC_step HP.out, stepC_ne e2 (seq_false.2 (by decide)) (seq_false.2 (by decide))]; exact CornAt.keep H3.out (fun _ h _ => h) hk, by rw [foldC_step HP.out, stepC_pair e2]; exact ⟨_, _, rfl, hnJ⟩, by rw [last_other HP.out e2 (seq_false.2 (by decide))]; exact H5.out, by rw [last_other HP.out e2 (seq_false.2 (by decide))]; exact H6.out, by rw [last_other HP.out e2 (seq_false.2 (by decide))]; exact H7.out, by rw [last_other HP.out e2 (seq_false.2 (by decide))]; exact FY.keep (fun _ h _ => h) hk H8.out, by rw [last_other HP.out e2 (seq_false.2 (by decide))]; exact H9.out⟩)
                | exact ⟨hxp, hszq, hb0p, j + 1, v1, v2, v3, _, v5, v6, v7, v8, v9, by omega, by go_num, hbqp, by rw [foldC_step HP.out, stepC_ne e2 (seq_false.2 (by decide)) (seq_false.2 (by decide))]; exact CornAt.keep H1.out (fun _ h _ => h) hk, by rw [foldC_step HP.out, stepC_ne e2 (seq_false.2 (by decide)) (seq_false.2 (by decide))]; exact CornAt.keep H2.out (fun _ h _ => h) hk, by rw [foldC_step HP.out, stepC_ne e2 (seq_false.2 (by decide)) (seq_false.2 (by decide))]; exact CornAt.keep H3.out (fun _ h _ => h) hk, by rw [foldC_step HP.out, stepC_pair e2]; exact ⟨_, _, rfl, hnJ⟩, by rw [last_other HP.out e2 (seq_false.2 (by decide))]; exact H5.out, by rw [last_other HP.out e2 (seq_false.2 (by decide))]; exact H6.out, by rw [last_other HP.out e2 (seq_false.2 (by decide))]; exact H7.out, by rw [last_other HP.out e2 (seq_false.2 (by decide))]; exact FY.keep (fun _ h _ => h) hk H8.out, by rw [last_other HP.out e2 (seq_false.2 (by decide))]; exact H9.out⟩
            case measure => simp [intOf]; omega
        · have e1 : seq p.1 s_bottom_right = true := by rw [seq, show s_bottom_right.toList = [98, 111, 116, 116, 111, 109, 95, 114, 105, 103, 104, 116] by rw [Lib.toList_data]]; exact he1
          go_upto_region 9 with go_in
          have hy := ext_alloc (ext_refl wr) (.cells #[.string p.1, .int .i64 k, .string x, .float .f64 d, .bool y, .slice ka kn kc, .slice ca m cc] 49)
          have hbS : Box (wr.alloc (.cells #[.string p.1, .int .i64 k, .string x, .float .f64 d, .bool y, .slice ka kn kc, .slice ca m cc] 49)) wr.heap.size #[.string p.1, .int .i64 k, .string x, .float .f64 d, .bool y, .slice ka kn kc, .slice ca m cc] 49 := Box.at rfl _ _
          refine wp_region_order (fun (w' : World) => w'.cell? ⟨wr.heap.size, 1, none⟩ = some (.int .i64 k) ∧ w'.cell? ⟨wr.heap.size, 2, none⟩ = some (.string x) ∧ w'.cell? ⟨wr.heap.size, 3, none⟩ = some (.float .f64 d) ∧ w'.cell? ⟨wr.heap.size, 4, none⟩ = some (.bool y) ∧ w'.cell? ⟨wr.heap.size, 5, none⟩ = some (.slice ka kn kc) ∧ w'.cell? ⟨wr.heap.size, 6, none⟩ = some (.slice ca m cc)) [0, 1, 2, 4, 5] [0, 1, 2, 4, 5, 3, 6, 7] (by kernel_rfl) (by kernel_rfl) (fun d _ _ _ _ h => by cases d <;> exact h) (by kernel_rfl) ?_
          have hS : (fun (w' : World) => w'.cell? ⟨wr.heap.size, 1, none⟩ = some (.int .i64 k) ∧ w'.cell? ⟨wr.heap.size, 2, none⟩ = some (.string x) ∧ w'.cell? ⟨wr.heap.size, 3, none⟩ = some (.float .f64 d) ∧ w'.cell? ⟨wr.heap.size, 4, none⟩ = some (.bool y) ∧ w'.cell? ⟨wr.heap.size, 5, none⟩ = some (.slice ka kn kc) ∧ w'.cell? ⟨wr.heap.size, 6, none⟩ = some (.slice ca m cc)) (wr.alloc (.cells #[.string p.1, .int .i64 k, .string x, .float .f64 d, .bool y, .slice ka kn kc, .slice ca m cc] 49)).drew := ⟨hbS.drew.cell 1 _ rfl, hbS.drew.cell 2 _ rfl, hbS.drew.cell 3 _ rfl, hbS.drew.cell 4 _ rfl, hbS.drew.cell 5 _ rfl, hbS.drew.cell 6 _ rfl⟩
          (apply ord_held rfl rfl (by assumption) rfl; (focus ((intro w' hS'); go_simp; (try with_reducible rfl))); (try simp only [Act.put, List.setIfInBounds_toArray, List.set_cons_zero, List.set_cons_succ]))
          (apply ord_held rfl rfl (by assumption) rfl; (focus ((intro w' hS'); go_simp; (try with_reducible rfl))); (try simp only [Act.put, List.setIfInBounds_toArray, List.set_cons_zero, List.set_cons_succ]))
          (apply ord_held rfl rfl (by assumption) rfl; (focus ((intro w' hS'); go_simp; (try with_reducible rfl))); (try simp only [Act.put, List.setIfInBounds_toArray, List.set_cons_zero, List.set_cons_succ]))
          (apply ord_held rfl rfl (by assumption) rfl; (focus ((intro w' hS'); go_simp; (try with_reducible rfl))); (try simp only [Act.put, List.setIfInBounds_toArray, List.set_cons_zero, List.set_cons_succ]))
          (apply ord_held rfl rfl (by assumption) rfl; (focus ((intro w' hS'); go_simp; (try with_reducible rfl))); (try simp only [Act.put, List.setIfInBounds_toArray, List.set_cons_zero, List.set_cons_succ]))
          (apply ord_loud rfl rfl rfl; intro K hK; go_simp)
          refine (kidN_any (⟨k, x, d, y, ka, kn, kc, ca, m, cc⟩ : El) p.2 0 _ ((hTz.out.ext hy).ext (ext_drew (ext_refl _)))).mono ?_
          rintro r wk1 ⟨rfl, hk1⟩
          have hz1 : Ext (wr.alloc (.cells #[.string p.1, .int .i64 k, .string x, .float .f64 d, .bool y, .slice ka kn kc, .slice ca m cc] 49)) wk1 := ext_trans (ext_drew (ext_refl _)) hk1
          have hS1 : (fun (w' : World) => w'.cell? ⟨wr.heap.size, 1, none⟩ = some (.int .i64 k) ∧ w'.cell? ⟨wr.heap.size, 2, none⟩ = some (.string x) ∧ w'.cell? ⟨wr.heap.size, 3, none⟩ = some (.float .f64 d) ∧ w'.cell? ⟨wr.heap.size, 4, none⟩ = some (.bool y) ∧ w'.cell? ⟨wr.heap.size, 5, none⟩ = some (.slice ka kn kc) ∧ w'.cell? ⟨wr.heap.size, 6, none⟩ = some (.slice ca m cc)) wk1 := ⟨(hbS.ext hz1).cell 1 _ rfl, (hbS.ext hz1).cell 2 _ rfl, (hbS.ext hz1).cell 3 _ rfl, (hbS.ext hz1).cell 4 _ rfl, (hbS.ext hz1).cell 5 _ rfl, (hbS.ext hz1).cell 6 _ rfl⟩
          refine hK _ _ (fun _ => hS1) ?_
          clear hK K
          (try simp only [Act.put, List.setIfInBounds_toArray, List.set_cons_zero, List.set_cons_succ])
          (apply ord_loud rfl rfl rfl; intro K hK; go_simp)
          refine (kidN_any (⟨k, x, d, y, ka, kn, kc, ca, m, cc⟩ : El) p.2 1 _ ((hTz.out.ext hy).ext (hz1))).mono ?_
          rintro r wk2 ⟨rfl, hk2⟩
          have hz2 : Ext (wr.alloc (.cells #[.string p.1, .int .i64 k, .string x, .float .f64 d, .bool y, .slice ka kn kc, .slice ca m cc] 49)) wk2 := ext_trans (hz1) hk2
          have hS2 : (fun (w' : World) => w'.cell? ⟨wr.heap.size, 1, none⟩ = some (.int .i64 k) ∧ w'.cell? ⟨wr.heap.size, 2, none⟩ = some (.string x) ∧ w'.cell? ⟨wr.heap.size, 3, none⟩ = some (.float .f64 d) ∧ w'.cell? ⟨wr.heap.size, 4, none⟩ = some (.bool y) ∧ w'.cell? ⟨wr.heap.size, 5, none⟩ = some (.slice ka kn kc) ∧ w'.cell? ⟨wr.heap.size, 6, none⟩ = some (.slice ca m cc)) wk2 := ⟨(hbS.ext hz2).cell 1 _ rfl, (hbS.ext hz2).cell 2 _ rfl, (hbS.ext hz2).cell 3 _ rfl, (hbS.ext hz2).cell 4 _ rfl, (hbS.ext hz2).cell 5 _ rfl, (hbS.ext hz2).cell 6 _ rfl⟩
          refine hK _ _ (fun _ => hS2) ?_
          clear hK K
          (try simp only [Act.put, List.setIfInBounds_toArray, List.set_cons_zero, List.set_cons_succ])
          (apply ord_loud rfl rfl rfl; intro K hK; go_simp)
          have hb5 := (hbq.ext hy).ext hz2
          refine (cBottomRight_any _ _ _ _ _ _ _ _ _ _ _ _ hb5 _ _).mono ?_
          rintro r wp ⟨rfl, hwp⟩
          have hbSp : Box wp wr.heap.size #[.string p.1, .int .i64 k, .string x, .float .f64 d, .bool y, .slice ka kn kc, .slice ca m cc] 49 := by rw [hwp]; exact ((hbS.ext hz2).other (by simp; omega) _).alloc _
          have hS9 : (fun (w' : World) => w'.cell? ⟨wr.heap.size, 1, none⟩ = some (.int .i64 k) ∧ w'.cell? ⟨wr.heap.size, 2, none⟩ = some (.string x) ∧ w'.cell? ⟨wr.heap.size, 3, none⟩ = some (.float .f64 d) ∧ w'.cell? ⟨wr.heap.size, 4, none⟩ = some (.bool y) ∧ w'.cell? ⟨wr.heap.size, 5, none⟩ = some (.slice ka kn kc) ∧ w'.cell? ⟨wr.heap.size, 6, none⟩ = some (.slice ca m cc)) wp := ⟨hbSp.cell 1 _ rfl, hbSp.cell 2 _ rfl, hbSp.cell 3 _ rfl, hbSp.cell 4 _ rfl, hbSp.cell 5 _ rfl, hbSp.cell 6 _ rfl⟩
          refine hK _ _ (fun _ => hS9) ?_
          clear hK K
          (try simp only [Act.put, List.setIfInBounds_toArray, List.set_cons_zero, List.set_cons_succ])
          refine ord_end ?_
          have hyz := ext_trans hy hz2
          have hszp := hyz.sz
          have hbp0 := (hb0.ext hyz)
          have hxp : Ext w wp := by rw [hwp]; exact ext_alloc (ext_set (ext_trans hx hyz) (by simp) _) _
          have hb0p : Box wp w.heap.size (El.arr El0) 30 := by rw [hwp]; exact (hbp0.other (by simp) _).alloc _
          have hbqp : Box wp (w.heap.size + 1) #[.string f, v1, v2, .iface 102 (.slice (some ⟨wk2.heap.size, 0, none⟩) 2 2), v4, v5, .string v6, .string v7, .pointer v8, .string v9] 101 := by rw [hwp]; exact (hb5.set 3 _).alloc _
          have hszq : (w.heap.size + 2) ≤ wp.heap.size := by rw [hwp]; simp; omega
          have hk : Keeps (fun q => q ≠ (w.heap.size + 1)) wr wp := by rw [hwp]; exact fun q hq hl9 => (Below.heap_alloc _ _ _ (by simp; omega)).trans ((Below.heap_setCell _ _ _ _ (by simp; omega)).trans (hyz.block q hl9))
          have hnJ : JAt (fun q => q ≠ (w.heap.size + 1)) wp (.iface 102 (.slice (some ⟨wk2.heap.size, 0, none⟩) 2 2)) (.nums [(kidT p.2 1).num, (kidT p.2 0).num]) := by rw [hwp]; exact nums_at (Box.at (by simp) #[.float .f64 (kidT p.2 1).num, .float .f64 (kidT p.2 0).num] _) (by omega)
          clear hwp hb5 hbp0 hbS hS hS1 hS2 hS9 hbSp
          go_wp2_with fail
          go_roundw
          case rel =>
            first
              | exact ⟨j + 1, by omega, by first | rfl | simp | omega, v1, v2, _, v4, v5, v6, v7, v8, v9, hbqp, by rw [foldC_step HP.out, stepC_ne e1 (seq_false.2 (by decide)) (seq_false.2 (by decide))]; exact CornAt.keep H1.out (fun _ h _ => h) hk, by rw [foldC_step HP.out, stepC_ne e1 (seq_false.2 (by decide)) (seq_false.2 (by decide))]; exact CornAt.keep H2.out (fun _ h _ => h) hk, by rw [foldC_step HP.out, stepC_pair e1]; exact ⟨_, _, rfl, hnJ⟩, by rw [foldC_step HP.out, stepC_ne e1 (seq_false.2 (by decide)) (seq_false.2 (by decide))]; exact CornAt.keep H4.out (fun _ h _ => h) hk, by rw [last_other HP.out e1 (seq_false.2 (by decide))]; exact H5.out, by rw [last_other HP.out e1 (seq_false.2 (by decide))]; exact H6.out, by rw [last_other HP.out e1 (seq_false.2 (by decide))]; exact H7.out, by rw [last_other HP.out e1 (seq_false.2 (by decide))]; exact FY.keep (fun _ h _ => h) hk H8.out, by rw [last_other HP.out e1 (seq_false.2 (by decide))]; exact H9.out⟩
              | (repeat apply Exists.intro
                 refine And.intro ?_ rfl
                 exact ⟨hxp, hszq, hb0p, j + 1, v1, v2, _, v4, v5, v6, v7, v8, v9, by omega, by go_num, hbqp, by rw [foldC_step HP.out, stepC_ne e1 (seq_false.2 (by decide)) (seq_false.2 (by decide))]; exact CornAt.keep H1.out (fun _ h _ => h) hk, by rw [foldC_step HP.out, stepC_ne e1 (seq_false.2 (by decide)) (seq_false.2 (by decide))]; exact CornAt.keep H2.out (fun _ h _ => h) hk, by rw [foldC_step HP.out, stepC_pair e1]; exact ⟨_, _, rfl, hnJ⟩, by rw [foldC_step HP.out, stepC_ne e1 (seq_false.2 (by decide)) (seq_false.2 (by decide))]; exact CornAt.keep H4.out (fun _ h _ => h) hk, by rw [last_other HP.out e1 (seq_false.2 (by decide))]; exact H5.out, by rw [last_other HP.out e1 (seq_false.2 (by decide))]; exact H6.out, by rw [last_other HP.out e1 (seq_false.2 (by decide))]; exact H7.out, by rw [last_other HP.out e1 (seq_false.2 (by decide))]; exact FY.keep (fun _ h _ => h) hk H8.out, by rw [last_other HP.out e1 (seq_false.2 (by decide))]; exact H9.out⟩)
              | exact ⟨hxp, hszq, hb0p, j + 1, v1, v2, _, v4, v5, v6, v7, v8, v9, by omega, by go_num, hbqp, by rw [foldC_step HP.out, stepC_ne e1 (seq_false.2 (by decide)) (seq_false.2 (by decide))]; exact CornAt.keep H1.out (fun _ h _ => h) hk, by rw [foldC_step HP.out, stepC_ne e1 (seq_false.2 (by decide)) (seq_false.2 (by decide))]; exact CornAt.keep H2.out (fun _ h _ => h) hk, by rw [foldC_step HP.out, stepC_pair e1]; exact ⟨_, _, rfl, hnJ⟩, by rw [foldC_step HP.out, stepC_ne e1 (seq_false.2 (by decide)) (seq_false.2 (by decide))]; exact CornAt.keep H4.out (fun _ h _ => h) hk, by rw [last_other HP.out e1 (seq_false.2 (by decide))]; exact H5.out, by rw [last_other HP.out e1 (seq_false.2 (by decide))]; exact H6.out, by rw [last_other HP.out e1 (seq_false.2 (by decide))]; exact H7.out, by rw [last_other HP.out e1 (seq_false.2 (by decide))]; exact FY.keep (fun _ h _ => h) hk H8.out, by rw [last_other HP.out e1 (seq_false.2 (by decide))]; exact H9.out⟩
          case measure => simp [intOf]; omega
      · have e0 : seq p.1 s_top_left = true := by rw [seq, show s_top_left.toList = [116, 111, 112, 95, 108, 101, 102, 116] by rw [Lib.toList_data]]; exact he0
        go_upto_region 7 with go_in
        have hy := ext_alloc (ext_refl wr) (.cells #[.string p.1, .int .i64 k, .string x, .float .f64 d, .bool y, .slice ka kn kc, .slice ca m cc] 49)
        have hbS : Box (wr.alloc (.cells #[.string p.1, .int .i64 k, .string x, .float .f64 d, .bool y, .slice ka kn kc, .slice ca m cc] 49)) wr.heap.size #[.string p.1, .int .i64 k, .string x, .float .f64 d, .bool y, .slice ka kn kc, .slice ca m cc] 49 := Box.at rfl _ _
        refine wp_region_order (fun (w' : World) => w'.cell? ⟨wr.heap.size, 1, none⟩ = some (.int .i64 k) ∧ w'.cell? ⟨wr.heap.size, 2, none⟩ = some (.string x) ∧ w'.cell? ⟨wr.heap.size, 3, none⟩ = some (.float .f64 d) ∧ w'.cell? ⟨wr.heap.size, 4, none⟩ = some (.bool y) ∧ w'.cell? ⟨wr.heap.size, 5, none⟩ = some (.slice ka kn kc) ∧ w'.cell? ⟨wr.heap.size, 6, none⟩ = some (.slice ca m cc)) [0, 1, 2, 4, 5] [0, 1, 2, 4, 5, 3, 6, 7] (by kernel_rfl) (by kernel_rfl) (fun d _ _ _ _ h => by cases d <;> exact h) (by kernel_rfl) ?_
        have hS : (fun (w' : World) => w'.cell? ⟨wr.heap.size, 1, none⟩ = some (.int .i64 k) ∧ w'.cell? ⟨wr.heap.size, 2, none⟩ = some (.string x) ∧ w'.cell? ⟨wr.heap.size, 3, none⟩ = some (.float .f64 d) ∧ w'.cell? ⟨wr.heap.size, 4, none⟩ = some (.bool y) ∧ w'.cell? ⟨wr.heap.size, 5, none⟩ = some (.slice ka kn kc) ∧ w'.cell? ⟨wr.heap.size, 6, none⟩ = some (.slice ca m cc)) (wr.alloc (.cells #[.string p.1, .int .i64 k, .string x, .float .f64 d, .bool y, .slice ka kn kc, .slice ca m cc] 49)).drew := ⟨hbS.drew.cell 1 _ rfl, hbS.drew.cell 2 _ rfl, hbS.drew.cell 3 _ rfl, hbS.drew.cell 4 _ rfl, hbS.drew.cell 5 _ rfl, hbS.drew.cell 6 _ rfl⟩
        (apply ord_held rfl rfl (by assumption) rfl; (focus ((intro w' hS'); go_simp; (try with_reducible rfl))); (try simp only [Act.put, List.setIfInBounds_toArray, List.set_cons_zero, List.set_cons_succ]))
        (apply ord_held rfl rfl (by assumption) rfl; (focus ((intro w' hS'); go_simp; (try with_reducible rfl))); (try simp only [Act.put, List.setIfInBounds_toArray, List.set_cons_zero, List.set_cons_succ]))
        (apply ord_held rfl rfl (by assumption) rfl; (focus ((intro w' hS'); go_simp; (try with_reducible rfl))); (try simp only [Act.put, List.setIfInBounds_toArray, List.set_cons_zero, List.set_cons_succ]))
        (apply ord_held rfl rfl (by assumption) rfl; (focus ((intro w' hS'); go_simp; (try with_reducible rfl))); (try simp only [Act.put, List.setIfInBounds_toArray, List.set_cons_zero, List.set_cons_succ]))
        (apply ord_held rfl rfl (by assumption) rfl; (focus ((intro w' hS'); go_simp; (try with_reducible rfl))); (try simp only [Act.put, List.setIfInBounds_toArray, List.set_cons_zero, List.set_cons_succ]))
        (apply ord_loud rfl rfl rfl; intro K hK; go_simp)
        refine (kidN_any (⟨k, x, d, y, ka, kn, kc, ca, m, cc⟩ : El) p.2 0 _ ((hTz.out.ext hy).ext (ext_drew (ext_refl _)))).mono ?_
        rintro r wk1 ⟨rfl, hk1⟩
        have hz1 : Ext (wr.alloc (.cells #[.string p.1, .int .i64 k, .string x, .float .f64 d, .bool y, .slice ka kn kc, .slice ca m cc] 49)) wk1 := ext_trans (ext_drew (ext_refl _)) hk1
        have hS1 : (fun (w' : World) => w'.cell? ⟨wr.heap.size, 1, none⟩ = some (.int .i64 k) ∧ w'.cell? ⟨wr.heap.size, 2, none⟩ = some (.string x) ∧ w'.cell? ⟨wr.heap.size, 3, none⟩ = some (.float .f64 d) ∧ w'.cell? ⟨wr.heap.size, 4, none⟩ = some (.bool y) ∧ w'.cell? ⟨wr.heap.size, 5, none⟩ = some (.slice ka kn kc) ∧ w'.cell? ⟨wr.heap.size, 6, none⟩ = some (.slice ca m cc)) wk1 := ⟨(hbS.ext hz1).cell 1 _ rfl, (hbS.ext hz1).cell 2 _ rfl, (hbS.ext hz1).cell 3 _ rfl, (hbS.ext hz1).cell 4 _ rfl, (hbS.ext hz1).cell 5 _ rfl, (hbS.ext hz1).cell 6 _ rfl⟩
        refine hK _ _ (fun _ => hS1) ?_
        clear hK K
        (try simp only [Act.put, List.setIfInBounds_toArray, List.set_cons_zero, List.set_cons_succ])
        (apply ord_loud rfl rfl rfl; intro K hK; go_simp)
        refine (kidN_any (⟨k, x, d, y, ka, kn, kc, ca, m, cc⟩ : El) p.2 1 _ ((hTz.out.ext hy).ext (hz1))).mono ?_
        rintro r wk2 ⟨rfl, hk2⟩
        have hz2 : Ext (wr.alloc (.cells #[.string p.1, .int .i64 k, .string x, .float .f64 d, .bool y, .slice ka kn kc, .slice ca m cc] 49)) wk2 := ext_trans (hz1) hk2
        have hS2 : (fun (w' : World) => w'.cell? ⟨wr.heap.size, 1, none⟩ = some (.int .i64 k) ∧ w'.cell? ⟨wr.heap.size, 2, none⟩ = some (.string x) ∧ w'.cell? ⟨wr.heap.size, 3, none⟩ = some (.float .f64 d) ∧ w'.cell? ⟨wr.heap.size, 4, none⟩ = some (.bool y) ∧ w'.cell? ⟨wr.heap.size, 5, none⟩ = some (.slice ka kn kc) ∧ w'.cell? ⟨wr.heap.size, 6, none⟩ = some (.slice ca m cc)) wk2 := ⟨(hbS.ext hz2).cell 1 _ rfl, (hbS.ext hz2).cell 2 _ rfl, (hbS.ext hz2).cell 3 _ rfl, (hbS.ext hz2).cell 4 _ rfl, (hbS.ext hz2).cell 5 _ rfl, (hbS.ext hz2).cell 6 _ rfl⟩
        refine hK _ _ (fun _ => hS2) ?_
        clear hK K
        (try simp only [Act.put, List.setIfInBounds_toArray, List.set_cons_zero, List.set_cons_succ])
        (apply ord_loud rfl rfl rfl; intro K hK; go_simp)
        have hb5 := (hbq.ext hy).ext hz2
        refine (cTopLeft_any _ _ _ _ _ _ _ _ _ _ _ _ hb5 _ _).mono ?_
        rintro r wp ⟨rfl, hwp⟩
        have hbSp : Box wp wr.heap.size #[.string p.1, .int .i64 k, .string x, .float .f64 d, .bool y, .slice ka kn kc, .slice ca m cc] 49 := by rw [hwp]; exact ((hbS.ext hz2).other (by simp; omega) _).alloc _
        have hS9 : (fun (w' : World) => w'.cell? ⟨wr.heap.size, 1, none⟩ = some (.int .i64 k) ∧ w'.cell? ⟨wr.heap.size, 2, none⟩ = some (.string x) ∧ w'.cell? ⟨wr.heap.size, 3, none⟩ = some (.float .f64 d) ∧ w'.cell? ⟨wr.heap.size, 4, none⟩ = some (.bool y) ∧ w'.cell? ⟨wr.heap.size, 5, none⟩ = some (.slice ka kn kc) ∧ w'.cell? ⟨wr.heap.size, 6, none⟩ = some (.slice ca m cc)) wp := ⟨hbSp.cell 1 _ rfl, hbSp.cell 2 _ rfl, hbSp.cell 3 _ rfl, hbSp.cell 4 _ rfl, hbSp.cell 5 _ rfl, hbSp.cell 6 _ rfl⟩
        refine hK _ _ (fun _ => hS9) ?_
        clear hK K
        (try simp only [Act.put, List.setIfInBounds_toArray, List.set_cons_zero, List.set_cons_succ])
        refine ord_end ?_
        have hyz := ext_trans hy hz2
        have hszp := hyz.sz
        have hbp0 := (hb0.ext hyz)
        have hxp : Ext w wp := by rw [hwp]; exact ext_alloc (ext_set (ext_trans hx hyz) (by simp) _) _
        have hb0p : Box wp w.heap.size (El.arr El0) 30 := by rw [hwp]; exact (hbp0.other (by simp) _).alloc _
        have hbqp : Box wp (w.heap.size + 1) #[.string f, .iface 102 (.slice (some ⟨wk2.heap.size, 0, none⟩) 2 2), v2, v3, v4, v5, .string v6, .string v7, .pointer v8, .string v9] 101 := by rw [hwp]; exact (hb5.set 1 _).alloc _
        have hszq : (w.heap.size + 2) ≤ wp.heap.size := by rw [hwp]; simp; omega
        have hk : Keeps (fun q => q ≠ (w.heap.size + 1)) wr wp := by rw [hwp]; exact fun q hq hl9 => (Below.heap_alloc _ _ _ (by simp; omega)).trans ((Below.heap_setCell _ _ _ _ (by simp; omega)).trans (hyz.block q hl9))
        have hnJ : JAt (fun q => q ≠ (w.heap.size + 1)) wp (.iface 102 (.slice (some ⟨wk2.heap.size, 0, none⟩) 2 2)) (.nums [(kidT p.2 1).num, (kidT p.2 0).num]) := by rw [hwp]; exact nums_at (Box.at (by simp) #[.float .f64 (kidT p.2 1).num, .float .f64 (kidT p.2 0).num] _) (by omega)
        clear hwp hb5 hbp0 hbS hS hS1 hS2 hS9 hbSp
        go_wp2_with fail
        go_roundw
        case rel =>
          first
            | exact ⟨j + 1, by omega, by first | rfl | simp | omega, _, v2, v3, v4, v5, v6, v7, v8, v9, hbqp, by rw [foldC_step HP.out, stepC_pair e0]; exact ⟨_, _, rfl, hnJ⟩, by rw [foldC_step HP.out, stepC_ne e0 (seq_false.2 (by decide)) (seq_false.2 (by decide))]; exact CornAt.keep H2.out (fun _ h _ => h) hk, by rw [foldC_step HP.out, stepC_ne e0 (seq_false.2 (by decide)) (seq_false.2 (by decide))]; exact CornAt.keep H3.out (fun _ h _ => h) hk, by rw [foldC_step HP.out, stepC_ne e0 (seq_false.2 (by decide)) (seq_false.2 (by decide))]; exact CornAt.keep H4.out (fun _ h _ => h) hk, by rw [last_other HP.out e0 (seq_false.2 (by decide))]; exact H5.out, by rw [last_other HP.out e0 (seq_false.2 (by decide))]; exact H6.out, by rw [last_other HP.out e0 (seq_false.2 (by decide))]; exact H7.out, by rw [last_other HP.out e0 (seq_false.2 (by decide))]; exact FY.keep (fun _ h _ => h) hk H8.out, by rw [last_other HP.out e0 (seq_false.2 (by decide))]; exact H9.out⟩
            | (repeat apply Exists.intro
               refine And.intro ?_ rfl
               exact ⟨hxp, hszq, hb0p, j + 1, _, v2, v3, v4, v5, v6, v7, v8, v9, by omega, by go_num, hbqp, by rw [foldC_step HP.out, stepC_pair e0]; exact ⟨_, _, rfl, hnJ⟩, by rw [foldC_step HP.out, stepC_ne e0 (seq_false.2 (by decide)) (seq_false.2 (by decide))]; exact CornAt.keep H2.out (fun _ h _ => h) hk, by rw [foldC_step HP.out, stepC_ne e0 (seq_false.2 (by decide)) (seq_false.2 (by decide))]; exact CornAt.keep H3.out (fun _ h _ => h) hk, by rw [foldC_step HP.out, stepC_ne e0 (seq_false.2 (by decide)) (seq_false.2 (by decide))]; exact CornAt.keep H4.out (fun _ h _ => h) hk, by rw [last_other HP.out e0 (seq_false.2 (by decide))]; exact H5.out, by rw [last_other HP.out e0 (seq_false.2 (by decide))]; exact H6.out, by rw [last_other HP.out e0 (seq_false.2 (by decide))]; exact H7.out, by rw [last_other HP.out e0 (seq_false.2 (by decide))]; exact FY.keep (fun _ h _ => h) hk H8.out, by rw [last_other HP.out e0 (seq_false.2 (by decide))]; exact H9.out⟩)
            | exact ⟨hxp, hszq, hb0p, j + 1, _, v2, v3, v4, v5, v6, v7, v8, v9, by omega, by go_num, hbqp, by rw [foldC_step HP.out, stepC_pair e0]; exact ⟨_, _, rfl, hnJ⟩, by rw [foldC_step HP.out, stepC_ne e0 (seq_false.2 (by decide)) (seq_false.2 (by decide))]; exact CornAt.keep H2.out (fun _ h _ => h) hk, by rw [foldC_step HP.out, stepC_ne e0 (seq_false.2 (by decide)) (seq_false.2 (by decide))]; exact CornAt.keep H3.out (fun _ h _ => h) hk, by rw [foldC_step HP.out, stepC_ne e0 (seq_false.2 (by decide)) (seq_false.2 (by decide))]; exact CornAt.keep H4.out (fun _ h _ => h) hk, by rw [last_other HP.out e0 (seq_false.2 (by decide))]; exact H5.out, by rw [last_other HP.out e0 (seq_false.2 (by decide))]; exact H6.out, by rw [last_other HP.out e0 (seq_false.2 (by decide))]; exact H7.out, by rw [last_other HP.out e0 (seq_false.2 (by decide))]; exact FY.keep (fun _ h _ => h) hk H8.out, by rw [last_other HP.out e0 (seq_false.2 (by decide))]; exact H9.out⟩
        case measure => simp [intOf]; omega
    · have hjn : j = n := by omega
      have hfull : ps.take j = ps := List.take_of_length_le (by have := HL.out; omega)
      rw [hfull] at H1 H2 H3 H4 H5 H6 H7 H8 H9
      have hS := geoBoundingBox_src (S := fun q => q ≠ (w.heap.size + 1)) wr (w.heap.size + 1) f hf_le v1 _ (CornAt.to H1.out (fun _ _ h => h)) v2 _ (CornAt.to H2.out (fun _ _ h => h)) v3 _ (CornAt.to H3.out (fun _ _ h => h)) v4 _ (CornAt.to H4.out (fun _ _ h => h)) v5 _ H5.out v6 _ H6.out v7 _ H7.out v8 _ H8.out v9 _ H9.out hbq
      go_wp2_with (first
        | (go_at_call 42; refine hS.mono ?_; rintro r w2 ⟨v, rfl, hJ, hx2⟩)
        | (go_at_call 41; refine (told_any v _ _ hJ).mono ?_; rintro r w3 ⟨e2, rfl, hT3, hx3⟩; simp only [El.val]
           have hb := (hb0.ext hx2).ext hx3; obtain ⟨o0, o1, o2, o3, o4, o5⟩ := hb.six; have f0 := hb.free 0; have f1 := hb.free 1; have f2 := hb.free 2; have f3 := hb.free 3; have f4 := hb.free 4; have f5 := hb.free 5))
      have hx4 := ext_trans hx (ext_trans hx2 hx3)
      have hs2 := hx2.sz
      refine post_tree2 rfl rfl (hb.sto e2) rfl ⟨e2, rfl, ?_, ext_sto6 hx4 (by omega) _ _ _ _ _ _⟩
      have hfin := TreeAt.keep (S := fun b => w2.heap.size ≤ b) (S' := fun b => w.heap.size + 1 ≤ b) (fun b hb _ => by omega) (keeps_sto (b := w.heap.size) w3 (by omega) e2) _ hT3
      simp only [List.append_assoc, List.cons_append, List.nil_append] at hfin ⊢
      exact hfin
end Go.Proofs.Ytfngaoicoecncaa

namespace Go.Proofs.Ytfngaoicoecncaa
open Go.RowKit

set_option maxRecDepth 20000 in
set_option maxHeartbeats 4000000 in
theorem readPoint_pair {S : Nat → Prop} (e : El) (t p q : T) (w : World) (h : TreeAt S w e t) (hk : t.kind = 4) (hkids : t.kids = [p, q]) : Calls Try.prog 47 #[e.val] w fun r w' => ∃ g : El, r = .returned g.val ∧ TreeAt (fun b => S b ∨ w.heap.size ≤ b) w' g (pointT (q, p)) ∧ Ext w w' := by
  obtain ⟨hke, -, -, -, -, hK⟩ := h.parts
  obtain ⟨k, x, d, y, ka, kn, kc, ca, m, cc⟩ := e
  simp only at hke hK
  have hm2 : m = 2 := by rw [← hK.1, hkids]; rfl
  have hk4 : k = 4 := by rw [hke]; exact hk
  obtain ⟨kb, ko, ea, hca, hSk, c0, hTa⟩ := hK.get (show t.kids[0]? = some p by rw [hkids]; rfl)
  obtain ⟨kb', ko', eb, hcb, -, c1, hTb⟩ := hK.get (show t.kids[1]? = some q by rw [hkids]; rfl)
  subst hca
  cases hcb
  rw [Nat.zero_mul, Nat.add_zero] at c0
  rw [Nat.one_mul] at c1
  have hkbw : kb < w.heap.size := lt_of_cell c0.1
  have HTa := Lib.hid (hTa.to (S' := fun b => S b ∧ b < w.heap.size) (fun q hq hl => ⟨hq, hl⟩))
  have HTb := Lib.hid (hTb.to (S' := fun b => S b ∧ b < w.heap.size) (fun q hq hl => ⟨hq, hl⟩))
  obtain ⟨ak, ax, ad, ay, aka, akn, akc, aca, am, acc⟩ := ea
  obtain ⟨bk, bx, bd, bby, bka, bkn, bkc, bca, bm, bcc⟩ := eb
  subst hm2
  subst hk4
  have hx0 : Ext w ((w.alloc (.cells (⟨4, x, d, y, ka, kn, kc, some ⟨kb, ko, none⟩, 2, cc⟩ : El).arr 30)).alloc (.cells (El.arr El0) 30)) := by (repeat (first | exact ext_refl _ | assumption | refine ext_alloc ?_ _ | refine ext_drew ?_ | refine ext_set ?_ (by simp) _ | refine ext_trans ?_ (by assumption)))
  have hb0 : Box ((w.alloc (.cells (⟨4, x, d, y, ka, kn, kc, some ⟨kb, ko, none⟩, 2, cc⟩ : El).arr 30)).alloc (.cells (El.arr El0) 30)) w.heap.size (⟨4, x, d, y, ka, kn, kc, some ⟨kb, ko, none⟩, 2, cc⟩ : El).arr 30 := (Box.at rfl _ _).alloc _
  have hbr : Box ((w.alloc (.cells (⟨4, x, d, y, ka, kn, kc, some ⟨kb, ko, none⟩, 2, cc⟩ : El).arr 30)).alloc (.cells (El.arr El0) 30)) (w.heap.size + 1) (El.arr El0) 30 := Box.at (by simp) _ _
  clear hK hTa hTb hkids h hke hk
  simp only [El.val]
  obtain ⟨y0, y1, y2, y3, y4, y5⟩ := hb0.six
  go_enter Try.func47, Try.ntmps47
  go_upto_region 2 with fail
  refine wp_region_order (fun (w' : World) => w'.cell? ⟨w.heap.size, 5, none⟩ = some (.slice (some ⟨kb, ko, none⟩) 2 cc) ∧ CellsAt w' kb ko (⟨ak, ax, ad, ay, aka, akn, akc, aca, am, acc⟩ : El) ∧ CellsAt w' kb (ko + 6) (⟨bk, bx, bd, bby, bka, bkn, bkc, bca, bm, bcc⟩ : El)) [0, 1, 2, 3, 4, 5, 6, 7] [0, 1, 2, 3, 4, 5, 6, 7, 8, 9] (by kernel_rfl) (by kernel_rfl) (fun d _ _ _ _ h => by cases d <;> exact h) (by kernel_rfl) ?_
  have hS : (fun (w' : World) => w'.cell? ⟨w.heap.size, 5, none⟩ = some (.slice (some ⟨kb, ko, none⟩) 2 cc) ∧ CellsAt w' kb ko (⟨ak, ax, ad, ay, aka, akn, akc, aca, am, acc⟩ : El) ∧ CellsAt w' kb (ko + 6) (⟨bk, bx, bd, bby, bka, bkn, bkc, bca, bm, bcc⟩ : El)) ((w.alloc (.cells (⟨4, x, d, y, ka, kn, kc, some ⟨kb, ko, none⟩, 2, cc⟩ : El).arr 30)).alloc (.cells (El.arr El0) 30)).drew := ⟨hb0.drew.cell 5 _ rfl, CellsAt.ext (ext_drew hx0) c0, CellsAt.ext (ext_drew hx0) c1⟩
  (apply ord_held rfl rfl (by assumption) rfl; (focus ((intro w' hS'); go_simp; (try with_reducible rfl))); (try simp only [Act.put, List.setIfInBounds_toArray, List.set_cons_zero, List.set_cons_succ]))
  (apply ord_held rfl rfl (by assumption) rfl; (focus ((intro w' hS'); go_simp; (try with_reducible rfl))); (try simp only [Act.put, List.setIfInBounds_toArray, List.set_cons_zero, List.set_cons_succ]))
  (apply ord_held rfl rfl (by assumption) rfl; (focus ((intro w' hS'); go_simp; (try with_reducible rfl))); (try simp only [Act.put, List.setIfInBounds_toArray, List.set_cons_zero, List.set_cons_succ]))
  (apply ord_held rfl rfl (by assumption) rfl; (focus ((intro w' hS'); go_simp; (try with_reducible rfl))); (try simp only [Act.put, List.setIfInBounds_toArray, List.set_cons_zero, List.set_cons_succ]))
  (apply ord_held rfl rfl (by assumption) rfl; (focus ((intro w' hS'); go_simp; (try with_reducible rfl))); (try simp only [Act.put, List.setIfInBounds_toArray, List.set_cons_zero, List.set_cons_succ]))
  (apply ord_held rfl rfl (by assumption) rfl; (focus ((intro w' hS'); go_simp; (try with_reducible rfl))); (try simp only [Act.put, List.setIfInBounds_toArray, List.set_cons_zero, List.set_cons_succ]))
  (apply ord_held rfl rfl (by assumption) rfl; (focus ((intro w' hS'); go_simp; (try with_reducible rfl))); (try simp only [Act.put, List.setIfInBounds_toArray, List.set_cons_zero, List.set_cons_succ]))
  (apply ord_held rfl rfl (by assumption) rfl; (focus ((intro w' hS'); go_simp; (try with_reducible rfl))); (try simp only [Act.put, List.setIfInBounds_toArray, List.set_cons_zero, List.set_cons_succ]))
  (apply ord_loud rfl rfl rfl; intro K hK; go_simp)
  refine (pointT_any (S := fun b => S b ∧ b < w.heap.size) (⟨bk, bx, bd, bby, bka, bkn, bkc, bca, bm, bcc⟩ : El) (⟨ak, ax, ad, ay, aka, akn, akc, aca, am, acc⟩ : El) q p _ (HTb.out.ext (ext_drew hx0)) (HTa.out.ext (ext_drew hx0))).mono ?_
  rintro r w2 ⟨z, rfl, hTz, hx2⟩
  have hy : Ext ((w.alloc (.cells (⟨4, x, d, y, ka, kn, kc, some ⟨kb, ko, none⟩, 2, cc⟩ : El).arr 30)).alloc (.cells (El.arr El0) 30)) w2 := ext_trans (ext_drew (ext_refl _)) hx2
  have hS2 : (fun (w' : World) => w'.cell? ⟨w.heap.size, 5, none⟩ = some (.slice (some ⟨kb, ko, none⟩) 2 cc) ∧ CellsAt w' kb ko (⟨ak, ax, ad, ay, aka, akn, akc, aca, am, acc⟩ : El) ∧ CellsAt w' kb (ko + 6) (⟨bk, bx, bd, bby, bka, bkn, bkc, bca, bm, bcc⟩ : El)) w2 := ⟨(hb0.ext hy).cell 5 _ rfl, CellsAt.ext (ext_trans hx0 hy) c0, CellsAt.ext (ext_trans hx0 hy) c1⟩
  refine hK _ _ (fun _ => hS2) ?_
  clear hK K
  simp only [El.val]
  (try simp only [Act.put, List.setIfInBounds_toArray, List.set_cons_zero, List.set_cons_succ])
  have hb9 := hbr.ext hy; obtain ⟨o0, o1, o2, o3, o4, o5⟩ := hb9.six; have f0 := hb9.free 0; have f1 := hb9.free 1; have f2 := hb9.free 2; have f3 := hb9.free 3; have f4 := hb9.free 4; have f5 := hb9.free 5; have hl9 := hb9.lt
  have hys := hy.sz
  simp only [World.size_alloc] at hys
  (apply ord_last rfl rfl rfl (by kernel_rfl); intro K hK; go_simp; refine hK _ _ ?_; clear hK K; (try simp only [Act.put, List.setIfInBounds_toArray, List.set_cons_zero, List.set_cons_succ]))
  refine ord_end ?_
  go_wp2_with fail
  refine post_tree rfl rfl (hb9.sto z) rfl ⟨z, rfl, ?_, ext_sto6 (ext_trans hx0 hy) (by omega) _ _ _ _ _ _⟩
  refine TreeAt.keep (S := fun b => (S b ∧ b < w.heap.size) ∨ w.heap.size + 2 ≤ b) (fun b hb _ => by rcases hb with hb | hb; exact .inl hb.1; exact .inr (by omega)) (keeps_sto w2 (by omega) z) _ (hTz.to fun b hb _ => ?_)
  rcases hb with hb | hb
  · exact .inl hb
  · have h9 : ((w.alloc (.cells (⟨4, x, d, y, ka, kn, kc, some ⟨kb, ko, none⟩, 2, cc⟩ : El).arr 30)).alloc (.cells (El.arr El0) 30)).drew.heap.size ≤ b := hb
    have h8 := (ext_drew (ext_refl ((w.alloc (.cells (⟨4, x, d, y, ka, kn, kc, some ⟨kb, ko, none⟩, 2, cc⟩ : El).arr 30)).alloc (.cells (El.arr El0) 30)))).sz
    simp only [World.size_alloc] at h8
    exact .inr (by omega)
def hasC (K KH : ByteArray) (ps : List (ByteArray × T)) : Bool := (lastOf ps K).isSome || (lastOf ps KH).isSome
set_option maxHeartbeats 1000000 in
theorem corner_top_left {S : Nat → Prop} (a : Option Addr) (n c : Nat) (ps : List (ByteArray × T)) (w : World) (h : PairsAt S w a n c ps) : Calls Try.prog 20 #[.slice a n c, .string s_top_left] w fun r w' => r = .returned (.bool (hasC s_top_left s_top_left_hash ps)) ∧ Ext w w' := by
  have hI := Lib.hid fun w' (x : Ext w w') => is_any a n c ps s_top_left w' (h.ext x)
  have hJ := Lib.hid fun w' (x : Ext w w') => is_any a n c ps s_top_left_hash w' (h.ext x)
  clear h
  unfold hasC
  have tk := trivial
  go_enter Try.func20, Try.ntmps20
  go_wp2_with (first
    | (go_at_call 21; have _t := tk; clear _t tk; refine (hI.out _ (by (repeat (first | exact ext_refl _ | assumption | refine ext_alloc ?_ _ | refine ext_drew ?_ | refine ext_set ?_ (by simp) _ | refine ext_trans ?_ (by assumption))))).mono ?_; rintro r wi ⟨rfl, hxi⟩; generalize hbi : (lastOf ps s_top_left).isSome = bi; have HBi := Lib.hid hbi; clear hbi; cases bi)
    | (go_at_call 21; refine (hJ.out _ (by (repeat (first | exact ext_refl _ | assumption | refine ext_alloc ?_ _ | refine ext_drew ?_ | refine ext_set ?_ (by simp) _ | refine ext_trans ?_ (by assumption))))).mono ?_; rintro r wj ⟨rfl, hxj⟩; generalize hbj : (lastOf ps s_top_left_hash).isSome = bj; have HBj := Lib.hid hbj; clear hbj; cases bj)
    | fail)
  all_goals (go_ret; exact ⟨by first | (rw [HBi.out, HBj.out]; rfl) | (rw [HBi.out]; rfl), by (repeat (first | exact ext_refl _ | assumption | refine ext_alloc ?_ _ | refine ext_drew ?_ | refine ext_set ?_ (by simp) _ | refine ext_trans ?_ (by assumption)))⟩)
set_option maxHeartbeats 1000000 in
theorem corner_bottom_right {S : Nat → Prop} (a : Option Addr) (n c : Nat) (ps : List (ByteArray × T)) (w : World) (h : PairsAt S w a n c ps) : Calls Try.prog 20 #[.slice a n c, .string s_bottom_right] w fun r w' => r = .returned (.bool (hasC s_bottom_right s_bottom_right_hash ps)) ∧ Ext w w' := by
  have hI := Lib.hid fun w' (x : Ext w w') => is_any a n c ps s_bottom_right w' (h.ext x)
  have hJ := Lib.hid fun w' (x : Ext w w') => is_any a n c ps s_bottom_right_hash w' (h.ext x)
  clear h
  unfold hasC
  have tk := trivial
  go_enter Try.func20, Try.ntmps20
  go_wp2_with (first
    | (go_at_call 21; have _t := tk; clear _t tk; refine (hI.out _ (by (repeat (first | exact ext_refl _ | assumption | refine ext_alloc ?_ _ | refine ext_drew ?_ | refine ext_set ?_ (by simp) _ | refine ext_trans ?_ (by assumption))))).mono ?_; rintro r wi ⟨rfl, hxi⟩; generalize hbi : (lastOf ps s_bottom_right).isSome = bi; have HBi := Lib.hid hbi; clear hbi; cases bi)
    | (go_at_call 21; refine (hJ.out _ (by (repeat (first | exact ext_refl _ | assumption | refine ext_alloc ?_ _ | refine ext_drew ?_ | refine ext_set ?_ (by simp) _ | refine ext_trans ?_ (by assumption))))).mono ?_; rintro r wj ⟨rfl, hxj⟩; generalize hbj : (lastOf ps s_bottom_right_hash).isSome = bj; have HBj := Lib.hid hbj; clear hbj; cases bj)
    | fail)
  all_goals (go_ret; exact ⟨by first | (rw [HBi.out, HBj.out]; rfl) | (rw [HBi.out]; rfl), by (repeat (first | exact ext_refl _ | assumption | refine ext_alloc ?_ _ | refine ext_drew ?_ | refine ext_set ?_ (by simp) _ | refine ext_trans ?_ (by assumption)))⟩)
set_option maxHeartbeats 1000000 in
theorem corner_top_right {S : Nat → Prop} (a : Option Addr) (n c : Nat) (ps : List (ByteArray × T)) (w : World) (h : PairsAt S w a n c ps) : Calls Try.prog 20 #[.slice a n c, .string s_top_right] w fun r w' => r = .returned (.bool (hasC s_top_right s_top_right_hash ps)) ∧ Ext w w' := by
  have hI := Lib.hid fun w' (x : Ext w w') => is_any a n c ps s_top_right w' (h.ext x)
  have hJ := Lib.hid fun w' (x : Ext w w') => is_any a n c ps s_top_right_hash w' (h.ext x)
  clear h
  unfold hasC
  have tk := trivial
  go_enter Try.func20, Try.ntmps20
  go_wp2_with (first
    | (go_at_call 21; have _t := tk; clear _t tk; refine (hI.out _ (by (repeat (first | exact ext_refl _ | assumption | refine ext_alloc ?_ _ | refine ext_drew ?_ | refine ext_set ?_ (by simp) _ | refine ext_trans ?_ (by assumption))))).mono ?_; rintro r wi ⟨rfl, hxi⟩; generalize hbi : (lastOf ps s_top_right).isSome = bi; have HBi := Lib.hid hbi; clear hbi; cases bi)
    | (go_at_call 21; refine (hJ.out _ (by (repeat (first | exact ext_refl _ | assumption | refine ext_alloc ?_ _ | refine ext_drew ?_ | refine ext_set ?_ (by simp) _ | refine ext_trans ?_ (by assumption))))).mono ?_; rintro r wj ⟨rfl, hxj⟩; generalize hbj : (lastOf ps s_top_right_hash).isSome = bj; have HBj := Lib.hid hbj; clear hbj; cases bj)
    | fail)
  all_goals (go_ret; exact ⟨by first | (rw [HBi.out, HBj.out]; rfl) | (rw [HBi.out]; rfl), by (repeat (first | exact ext_refl _ | assumption | refine ext_alloc ?_ _ | refine ext_drew ?_ | refine ext_set ?_ (by simp) _ | refine ext_trans ?_ (by assumption)))⟩)
set_option maxHeartbeats 1000000 in
theorem corner_bottom_left {S : Nat → Prop} (a : Option Addr) (n c : Nat) (ps : List (ByteArray × T)) (w : World) (h : PairsAt S w a n c ps) : Calls Try.prog 20 #[.slice a n c, .string s_bottom_left] w fun r w' => r = .returned (.bool (hasC s_bottom_left s_bottom_left_hash ps)) ∧ Ext w w' := by
  have hI := Lib.hid fun w' (x : Ext w w') => is_any a n c ps s_bottom_left w' (h.ext x)
  have hJ := Lib.hid fun w' (x : Ext w w') => is_any a n c ps s_bottom_left_hash w' (h.ext x)
  clear h
  unfold hasC
  have tk := trivial
  go_enter Try.func20, Try.ntmps20
  go_wp2_with (first
    | (go_at_call 21; have _t := tk; clear _t tk; refine (hI.out _ (by (repeat (first | exact ext_refl _ | assumption | refine ext_alloc ?_ _ | refine ext_drew ?_ | refine ext_set ?_ (by simp) _ | refine ext_trans ?_ (by assumption))))).mono ?_; rintro r wi ⟨rfl, hxi⟩; generalize hbi : (lastOf ps s_bottom_left).isSome = bi; have HBi := Lib.hid hbi; clear hbi; cases bi)
    | (go_at_call 21; refine (hJ.out _ (by (repeat (first | exact ext_refl _ | assumption | refine ext_alloc ?_ _ | refine ext_drew ?_ | refine ext_set ?_ (by simp) _ | refine ext_trans ?_ (by assumption))))).mono ?_; rintro r wj ⟨rfl, hxj⟩; generalize hbj : (lastOf ps s_bottom_left_hash).isSome = bj; have HBj := Lib.hid hbj; clear hbj; cases bj)
    | fail)
  all_goals (go_ret; exact ⟨by first | (rw [HBi.out, HBj.out]; rfl) | (rw [HBi.out]; rfl), by (repeat (first | exact ext_refl _ | assumption | refine ext_alloc ?_ _ | refine ext_drew ?_ | refine ext_set ?_ (by simp) _ | refine ext_trans ?_ (by assumption)))⟩)
/-- Where a text stands for the box, no corner is set. -/
def BoxP (ps : List (ByteArray × T)) : Prop := (lastOf ps s_wkt).isSome = true → hasC s_top_left s_top_left_hash ps = false ∧ hasC s_bottom_right s_bottom_right_hash ps = false ∧ hasC s_top_right s_top_right_hash ps = false ∧ hasC s_bottom_left s_bottom_left_hash ps = false
set_option maxHeartbeats 4000000 in
theorem boxFits_any {S : Nat → Prop} (a : Option Addr) (n c : Nat) (ps : List (ByteArray × T)) (w : World) (h : PairsAt S w a n c ps) : Calls Try.prog 5 #[.slice a n c] w (Yes (BoxP ps) w) := by
  have hI := Lib.hid fun w' (x : Ext w w') => is_any a n c ps s_wkt w' (h.ext x)
  have hA := Lib.hid fun w' (x : Ext w w') => corner_top_left a n c ps w' (h.ext x)
  have tka := trivial
  have hB := Lib.hid fun w' (x : Ext w w') => corner_bottom_right a n c ps w' (h.ext x)
  have tkb := trivial
  have hC := Lib.hid fun w' (x : Ext w w') => corner_top_right a n c ps w' (h.ext x)
  have tkc := trivial
  have hD := Lib.hid fun w' (x : Ext w w') => corner_bottom_left a n c ps w' (h.ext x)
  have tkd := trivial
  clear h
  go_enter Try.func5, Try.ntmps5
  go_wp2_with (first
    | (go_at_call 20; have _t := tka; clear _t tka; refine (hA.out _ (by (repeat (first | exact ext_refl _ | assumption | refine ext_alloc ?_ _ | refine ext_drew ?_ | refine ext_set ?_ (by simp) _ | refine ext_trans ?_ (by assumption))))).mono ?_; rintro r wa ⟨rfl, hxa⟩; generalize hba : hasC s_top_left s_top_left_hash ps = ba; have HBa := Lib.hid hba; clear hba; cases ba)
    | (go_at_call 20; have _t := tkb; clear _t tkb; refine (hB.out _ (by (repeat (first | exact ext_refl _ | assumption | refine ext_alloc ?_ _ | refine ext_drew ?_ | refine ext_set ?_ (by simp) _ | refine ext_trans ?_ (by assumption))))).mono ?_; rintro r wb ⟨rfl, hxb⟩; generalize hbb : hasC s_bottom_right s_bottom_right_hash ps = bb; have HBb := Lib.hid hbb; clear hbb; cases bb)
    | (go_at_call 20; have _t := tkc; clear _t tkc; refine (hC.out _ (by (repeat (first | exact ext_refl _ | assumption | refine ext_alloc ?_ _ | refine ext_drew ?_ | refine ext_set ?_ (by simp) _ | refine ext_trans ?_ (by assumption))))).mono ?_; rintro r wc ⟨rfl, hxc⟩; generalize hbc : hasC s_top_right s_top_right_hash ps = bc; have HBc := Lib.hid hbc; clear hbc; cases bc)
    | (go_at_call 20; have _t := tkd; clear _t tkd; refine (hD.out _ (by (repeat (first | exact ext_refl _ | assumption | refine ext_alloc ?_ _ | refine ext_drew ?_ | refine ext_set ?_ (by simp) _ | refine ext_trans ?_ (by assumption))))).mono ?_; rintro r wd ⟨rfl, hxd⟩; generalize hbd : hasC s_bottom_left s_bottom_left_hash ps = bd; have HBd := Lib.hid hbd; clear hbd; cases bd)
    | (go_at_call 21; refine (hI.out _ (by (repeat (first | exact ext_refl _ | assumption | refine ext_alloc ?_ _ | refine ext_drew ?_ | refine ext_set ?_ (by simp) _ | refine ext_trans ?_ (by assumption))))).mono ?_; rintro r wi ⟨rfl, hxi⟩; generalize hbi : (lastOf ps s_wkt).isSome = bi; have HBi := Lib.hid hbi; clear hbi; cases bi)
    | fail)
  all_goals (go_ret; exact ⟨_, rfl, fun hb hw => by first | exact absurd hb (by decide) | exact ⟨HBa.out, HBb.out, HBc.out, HBd.out⟩ | exact absurd (HBi.out.symm.trans hw) (by decide), by (repeat (first | exact ext_refl _ | assumption | refine ext_alloc ?_ _ | refine ext_drew ?_ | refine ext_set ?_ (by simp) _ | refine ext_trans ?_ (by assumption)))⟩)
end Go.Proofs.Ytfngaoicoecncaa

namespace Go.Proofs.Ytfngaoicoecncaa
open Go.RowKit

abbrev cornerN : List ByteArray := [s_top_left, s_top_right, s_bottom_left, s_bottom_right]
theorem corners_any (w : World) : Calls Try.prog 45 #[] w fun r w' => r = .returned (.slice (some ⟨w.heap.size, 0, none⟩) 4 4) ∧ Box w' w.heap.size #[.string s_top_left, .string s_top_right, .string s_bottom_left, .string s_bottom_right] 9 ∧ Ext w w' := by
  go_enter Try.func45, Try.ntmps45
  go_wp2_with fail
  go_ret
  exact ⟨rfl, Box.at rfl _ _, by (repeat (first | exact ext_refl _ | assumption | refine ext_alloc ?_ _ | refine ext_drew ?_ | refine ext_set ?_ (by simp) _ | refine ext_trans ?_ (by assumption)))⟩
def readR (t : T) : T := if t.kind = 4 then pointT (kidT t 1, kidT t 0) else t
def GoodT (t : T) : Prop := t.kind = 4 → t.kids.length = 2
theorem readR_good {t : T} : GoodT (readR t) := fun h => by
  unfold readR at h
  split at h
  · unfold pointT at h
    obtain ⟨m, h1, -⟩ := mapT_told [(s_lat, kidT t 1), (s_lon, kidT t 0)]
    rw [h1] at h
    simp [mapOf, T.kind] at h
  · contradiction
theorem readPoint_any {S : Nat → Prop} (e : El) (t : T) (w : World) (h : TreeAt S w e t) (hg : GoodT t) : Calls Try.prog 47 #[e.val] w fun r w' => ∃ g : El, r = .returned g.val ∧ TreeAt (fun b => S b ∨ w.heap.size ≤ b) w' g (readR t) ∧ Ext w w' := by
  by_cases hk : t.kind = 4
  · have hl := hg hk
    obtain ⟨p, q, hpq⟩ : ∃ p q, t.kids = [p, q] := by
      match hh : t.kids, hl with
      | [p, q], _ => exact ⟨p, q, rfl⟩
    have e9 : readR t = pointT (q, p) := by
      unfold readR kidT
      rw [if_pos hk, hpq]
      rfl
    rw [e9]
    exact readPoint_pair e t p q w h hk hpq
  · have e9 : readR t = t := by unfold readR; rw [if_neg hk]
    rw [e9]
    exact (readPoint_id e t w h hk).mono fun r w' ⟨h1, hx⟩ => ⟨e, h1, (TreeAt.ext hx h).to (fun b hb _ => .inl hb), hx⟩
def stepR (b : List (ByteArray × T)) (k : ByteArray) : List (ByteArray × T) := match lastOf b k with
  | some t => b ++ [(k, readR t)]
  | none => b
def readBx (l : List ByteArray) (b : List (ByteArray × T)) : List (ByteArray × T) := l.foldl stepR b
theorem readBx_step {l : List ByteArray} {b : List (ByteArray × T)} {j : Nat} {k : ByteArray} (h : l[j]? = some k) : readBx (l.take (j + 1)) b = stepR (readBx (l.take j) b) k := by
  rw [take_snoc h]
  unfold readBx
  rw [List.foldl_append]
  rfl
theorem readBx_good {b : List (ByteArray × T)} (hb : ∀ k t, lastOf b k = some t → GoodT t) : ∀ l : List ByteArray, ∀ k t, lastOf (readBx l b) k = some t → GoodT t := by
  intro l
  unfold readBx
  induction l generalizing b with
  | nil => exact hb
  | cons a r ih =>
    rw [List.foldl_cons]
    refine ih fun k t h => ?_
    unfold stepR at h
    split at h
    · rename_i t' ht'
      rw [lastOf_snoc] at h
      dsimp only at h
      split at h
      · cases h
        exact readR_good
      · exact hb k t h
    · exact hb k t h
theorem readBx_len (b : List (ByteArray × T)) : ∀ l : List ByteArray, (readBx l b).length ≤ b.length + l.length := by
  intro l
  unfold readBx
  induction l generalizing b with
  | nil => simp
  | cons a r ih =>
    rw [List.foldl_cons]
    refine Nat.le_trans (ih _) ?_
    have : (stepR b a).length ≤ b.length + 1 := by
      unfold stepR
      split <;> simp
    simp only [List.length_cons]
    omega
theorem mapT_plusR (l : List (ByteArray × T)) (k : ByteArray) (t : T) : mapT (l ++ [(k, t)]) = withT (mapT l) k t := by
  unfold mapT
  rw [List.foldl_append]
  rfl
set_option maxRecDepth 20000 in
set_option maxHeartbeats 8000000 in
theorem readBox_any {S : Nat → Prop} (f : ByteArray) (qs bx : List (ByteArray × T)) (e : El) (w : World) (h : TreeAt S w e (mapT [(s_geo_bounding_box, mapT qs)])) (hbx : lastOf qs f = some (mapT bx)) (hg : ∀ k t, lastOf bx k = some t → GoodT t) (hlen : qs.length ≤ 65536) (hbl : bx.length ≤ 65536) :
    Calls Try.prog 10 #[.string f, e.val] w fun r w' => ∃ g : El, r = .returned g.val ∧ TreeAt (fun _ => True) w' g (mapT [(s_geo_bounding_box, mapT (qs ++ [(f, mapT (readBx cornerN bx))]))]) ∧ Ext w w' := by
  have h := h.to (S' := fun b => b < w.heap.size) (fun _ _ h2 => h2)
  have HT := Lib.hid (fun (w' : World) (x : Ext w w') => TreeAt.ext x h)
  have HG := Lib.hid (readBx_good hg)
  have HL := Lib.hid (readBx_len bx)
  clear h hg
  have hWi := Lib.hid (fun (w' : World) (x : Ext w w') => within_one s_geo_bounding_box qs e w' (HT.out w' x))
  have hb0 : Box ((w.alloc (.cells e.arr 30)).alloc (.cells (El.arr El0) 30)) w.heap.size e.arr 30 := (Box.at rfl _ _).alloc _
  have hbr : Box ((w.alloc (.cells e.arr 30)).alloc (.cells (El.arr El0) 30)) (w.heap.size + 1) (El.arr El0) 30 := Box.at (by simp) _ _
  have hx0 : Ext w ((w.alloc (.cells e.arr 30)).alloc (.cells (El.arr El0) 30)) := ext_alloc (ext_alloc (ext_refl _) _) _
  have hs0 : ((w.alloc (.cells e.arr 30)).alloc (.cells (El.arr El0) 30)).heap.size = w.heap.size + 1 + 1 := by simp
  have hk5 : (mapT bx).kind = 5 := by
    obtain ⟨m, h1, -⟩ := mapT_told bx
    rw [h1]
    rfl
  simp only [El.val]
  go_enter Try.func10, Try.ntmps10
  go_wp2_with (first
    | (go_at_call 43; refine (hWi.out _ hx0).mono ?_; rintro r w1 ⟨gx, rfl, hTx0, hx1⟩; simp only [El.val]
       have hTx : TreeAt (fun b => b ≠ w.heap.size + 1 ∧ b < w1.heap.size) w1 gx (mapT qs) := hTx0.to (fun b hb hl => ⟨by have := hb.1; omega, hl⟩)
       have x13 : Ext w1 (w1.alloc (.cells gx.arr 30)) := ext_alloc (ext_refl _) _
       have hbx1 : Box (w1.alloc (.cells gx.arr 30)) w1.heap.size gx.arr 30 := Box.at rfl _ _
       have hbr3 := (hbr.ext hx1).ext x13
       obtain ⟨y0, y1, y2, y3, y4, y5⟩ := hbx1.six
       have hAt := Lib.hid (at_map qs gx f _ (hTx.ext x13)))
    | (go_at_call 44; refine hAt.out.mono ?_; rintro r w2 ⟨gd, rfl, hTd, hx2⟩; rw [hbx] at hTd ⊢; simp only [El.val, Option.isSome, Option.getD] at hTd ⊢
       obtain ⟨dk, dx, dd, dy, dka, dn, dkc, dca, dm, dcc⟩ := gd
       have hkd : dk = 5 := hTd.parts.1.trans hk5
       subst hkd
       have hxd : Ext w2 (w2.alloc (.cells (⟨5, dx, dd, dy, dka, dn, dkc, dca, dm, dcc⟩ : El).arr 30)) := ext_alloc (ext_refl _) _
       have hbd2 : Box (w2.alloc (.cells (⟨5, dx, dd, dy, dka, dn, dkc, dca, dm, dcc⟩ : El).arr 30)) w2.heap.size (⟨5, dx, dd, dy, dka, dn, dkc, dca, dm, dcc⟩ : El).arr 30 := Box.at rfl _ _
       obtain ⟨u0, u1, u2, u3, u4, u5⟩ := hbd2.six)
    | (go_at_call 45; refine (corners_any _).mono ?_; rintro r w3 ⟨rfl, hbc, hx3⟩)
    | fail)
  have hs1 := hx1.sz
  rw [hs0] at hs1
  have hs2 := hx2.sz
  have hs3 := hx3.sz
  simp only [World.size_alloc] at hs2 hs3 hbc
  have hx3w : Ext w w3 := ext_trans (ext_trans (ext_trans (ext_trans (ext_trans hx0 hx1) x13) hx2) hxd) hx3
  have hbR := (((hbr3.ext hx2).ext hxd).ext hx3)
  have hbX := ((hbx1.ext hx2).ext hxd).ext hx3
  have hbB := hbd2.ext hx3
  have HTX := Lib.hid (((((hTx.ext x13).ext hx2).ext hxd).ext hx3).to (S' := (fun b => b ≠ w.heap.size + 1 ∧ b ≠ w1.heap.size ∧ b ≠ w2.heap.size)) (fun q hq _ => by have h1 := hq.1; have h2 := hq.2; refine ⟨?_, ?_, ?_⟩ <;> omega))
  have HTB := Lib.hid (((hTd.ext hxd).ext hx3).to (S' := (fun b => b ≠ w.heap.size + 1 ∧ b ≠ w1.heap.size ∧ b ≠ w2.heap.size)) (fun q hq _ => by have h1 := hq.1; have h2 := hq.2; refine ⟨?_, ?_, ?_⟩ <;> omega))
  have hlB := hbB.lt
  clear hTx hTx0 hTd hAt hWi y0 y1 y2 y3 y4 y5 u0 u1 u2 u3 u4 u5
  go_loopw [34] (fun i wr => Ext w wr ∧ w3.heap.size ≤ wr.heap.size ∧ Box wr (w.heap.size + 1) (El.arr El0) 30 ∧ Box wr w1.heap.size gx.arr 30 ∧ Box wr (w2.heap.size + 1) #[.string s_top_left, .string s_top_right, .string s_bottom_left, .string s_bottom_right] 9 ∧ TreeAt (fun b => b ≠ w.heap.size + 1 ∧ b ≠ w1.heap.size ∧ b ≠ w2.heap.size) wr gx (mapT qs) ∧ ∃ (j : Nat) (gb : El), j ≤ 4 ∧ i = .int .i64 j ∧ Box wr w2.heap.size gb.arr 30 ∧ TreeAt (fun b => b ≠ w.heap.size + 1 ∧ b ≠ w1.heap.size ∧ b ≠ w2.heap.size) wr gb (mapT (readBx (cornerN.take j) bx))) (fun i _ => 4 - (intOf i).toNat)
  case atStart => exact ⟨hx3w, Nat.le_refl _, hbR, hbX, hbc, HTX.out, 0, (⟨5, dx, dd, dy, dka, dn, dkc, dca, dm, dcc⟩ : El), Nat.zero_le _, rfl, hbB, HTB.out⟩
  case round =>
    clear hbR hbX hbB HTX HTB hbc
    obtain ⟨hx, hsz, hbR, hbX, hbc, hTX, j, gb, hj, rfl, hb7, hTb⟩ := hrel
    have HTX := Lib.hid hTX
    have HTB := Lib.hid hTb
    clear hTX hTb
    obtain ⟨v0, v1, v2, v3, v4, v5⟩ := hb7.six
    have hl7 := hb7.lt
    have hlc := hbc.lt
    have hgj := HG.out (cornerN.take j)
    have hlj := HL.out (cornerN.take j)
    have hlt4 : (cornerN.take j).length ≤ 4 := Nat.le_trans (List.length_take_le _ _) hj
    by_cases hlt : j < 4
    case pos =>
      obtain ⟨nm, hnm⟩ := some_of_lt (l := cornerN) rfl hlt
      have hcn : wr.cell? ⟨w2.heap.size + 1, j, none⟩ = some (.string nm) := by
        match j, hnm with
        | 0, hnm => simp [cornerN] at hnm; subst hnm; exact hbc.cell 0 _ rfl
        | 1, hnm => simp [cornerN] at hnm; subst hnm; exact hbc.cell 1 _ rfl
        | 2, hnm => simp [cornerN] at hnm; subst hnm; exact hbc.cell 2 _ rfl
        | 3, hnm => simp [cornerN] at hnm; subst hnm; exact hbc.cell 3 _ rfl
      have HNM := Lib.hid hnm
      have hAt := Lib.hid (at_map (readBx (cornerN.take j) bx) gb nm wr HTB.out)
      clear hnm
      cases hlo : lastOf (readBx (cornerN.take j) bx) nm with
      | none =>
        have hst : stepR (readBx (cornerN.take j) bx) nm = readBx (cornerN.take j) bx := by unfold stepR; rw [hlo]
        have HST := Lib.hid hst
        clear hst
        go_wp2_with (first
          | (go_at_call 44; refine hAt.out.mono ?_; rintro r wa ⟨gc, rfl, hTc, hxa⟩; rw [hlo] at hTc ⊢; simp only [El.val, Option.isSome, Option.getD] at hTc ⊢)
          | fail)
        have hya : Ext wr (wa.alloc (.cells gc.arr 30)) := ext_alloc hxa _
        go_roundw
        case rel => exact ⟨ext_trans hx hya, Nat.le_trans hsz hya.sz, hbR.ext hya, hbX.ext hya, hbc.ext hya, HTX.out.ext hya, j + 1, gb, by omega, by go_num, hb7.ext hya, by rw [readBx_step HNM.out, HST.out]; exact HTB.out.ext hya⟩
        case measure => simp [intOf]; omega
      | some t =>
        have hgood := hgj nm t hlo
        have hst : stepR (readBx (cornerN.take j) bx) nm = readBx (cornerN.take j) bx ++ [(nm, readR t)] := by unfold stepR; rw [hlo]
        have HST := Lib.hid hst
        clear hst
        go_upto_region 10 with (first
          | (go_at_call 44; refine hAt.out.mono ?_; rintro r wa ⟨gc, rfl, hTc, hxa⟩; rw [hlo] at hTc ⊢; simp only [El.val, Option.isSome, Option.getD] at hTc ⊢)
          | fail)
        have hya : Ext wr (wa.alloc (.cells gc.arr 30)) := ext_alloc hxa _
        have hb75 := hb7.ext hya
        have hbc5 : Box (wa.alloc (.cells gc.arr 30)) wa.heap.size gc.arr 30 := Box.at rfl _ _
        have hTc5 := Lib.hid (hTc.ext (ext_alloc (ext_refl wa) (.cells gc.arr 30)))
        have hTb5 := Lib.hid (HTB.out.ext hya)
        have hsa := hxa.sz
        have hszb := hya.sz
        have hTX5 := Lib.hid (HTX.out.ext hya)
        have hbR5 := hbR.ext hya
        have hbX5 := hbX.ext hya
        have hbn5 := hbc.ext hya
        have hx5 := ext_trans hx hya
        clear hTc hAt
        generalize wa.alloc (.cells gc.arr 30) = w5 at hb75 hbc5 hTc5 hTb5 hszb hTX5 hbR5 hbX5 hbn5 hx5 ⊢
        have hlc5 := hbc5.lt
        refine wp_region_order (fun (w' : World) => Six w' w2.heap.size gb ∧ Six w' wa.heap.size gc) [0, 1, 2] [0, 1, 2, 3, 4, 5] (by kernel_rfl) (by kernel_rfl) (fun d _ _ _ _ h => by cases d <;> exact h) (by kernel_rfl) ?_
        have hS : (fun (w' : World) => Six w' w2.heap.size gb ∧ Six w' wa.heap.size gc) w5.drew := ⟨Six.ext (ext_drew (ext_refl w5)) hb75.Six, Six.ext (ext_drew (ext_refl w5)) hbc5.Six⟩
        (apply ord_held rfl rfl (by assumption) rfl; (focus ((intro w' hS'); go_simp; (try with_reducible rfl))); (try simp only [Act.put, List.setIfInBounds_toArray, List.set_cons_zero, List.set_cons_succ]))
        (apply ord_held rfl rfl (by assumption) rfl; (focus ((intro w' hS'); go_simp; (try with_reducible rfl))); (try simp only [Act.put, List.setIfInBounds_toArray, List.set_cons_zero, List.set_cons_succ]))
        (apply ord_held rfl rfl (by assumption) rfl; (focus ((intro w' hS'); go_simp; (try with_reducible rfl))); (try simp only [Act.put, List.setIfInBounds_toArray, List.set_cons_zero, List.set_cons_succ]))
        (apply ord_loud rfl rfl rfl; intro K hK; go_simp)
        refine (readPoint_any gc t _ (hTc5.out.ext (ext_drew (ext_refl w5))) hgood).mono ?_
        rintro r wp ⟨gp, rfl, hTp, hxp⟩
        have hyp : Ext w5 wp := ext_trans (ext_drew (ext_refl w5)) hxp
        have hTp := hTp.to (S' := (fun b => b ≠ w.heap.size + 1 ∧ b ≠ w1.heap.size ∧ b ≠ w2.heap.size)) (fun q hq _ => by
          rcases hq with hq | hq
          · exact hq
          · have h8 : w5.heap.size ≤ q := hq
            refine ⟨?_, ?_, ?_⟩ <;> omega)
        have hS1 : (fun (w' : World) => Six w' w2.heap.size gb ∧ Six w' wa.heap.size gc) wp := ⟨Six.ext hyp hb75.Six, Six.ext hyp hbc5.Six⟩
        refine hK _ _ (fun _ => hS1) ?_
        clear hK K
        simp only [El.val]
        (try simp only [Act.put, List.setIfInBounds_toArray, List.set_cons_zero, List.set_cons_succ])
        (apply ord_loud rfl rfl rfl; intro K hK; go_simp)
        have hml := mapT_len (readBx (cornerN.take j) bx)
        refine (with_any gb (mapT (readBx (cornerN.take j) bx)) nm gp (readR t) _ (hTb5.out.ext hyp) hTp (by omega) (by omega) (by omega)).mono ?_
        rintro r wv ⟨gv, rfl, hTv, hxv⟩
        rw [← mapT_plusR] at hTv
        have hyv : Ext w5 wv := ext_trans hyp hxv
        have hsp := hyp.sz
        have hTv := Lib.hid (hTv.to (S' := (fun b => b ≠ w.heap.size + 1 ∧ b ≠ w1.heap.size ∧ b ≠ w2.heap.size)) (fun q hq _ => by
          rcases hq with hq | hq
          · exact hq
          · refine ⟨?_, ?_, ?_⟩ <;> omega))
        have hS2 : (fun (w' : World) => Six w' w2.heap.size gb ∧ Six w' wa.heap.size gc) wv := ⟨Six.ext hyv hb75.Six, Six.ext hyv hbc5.Six⟩
        refine hK _ _ (fun _ => hS2) ?_
        clear hK K
        simp only [El.val]
        (try simp only [Act.put, List.setIfInBounds_toArray, List.set_cons_zero, List.set_cons_succ])
        have hb7v := hb75.ext hyv; obtain ⟨q0, q1, q2, q3, q4, q5⟩ := hb7v.six; have f0 := hb7v.free 0; have f1 := hb7v.free 1; have f2 := hb7v.free 2; have f3 := hb7v.free 3; have f4 := hb7v.free 4; have f5 := hb7v.free 5; have hl7v := hb7v.lt
        (apply ord_last rfl rfl rfl (by kernel_rfl); intro K hK; go_simp; refine hK _ _ ?_; clear hK K; (try simp only [Act.put, List.setIfInBounds_toArray, List.set_cons_zero, List.set_cons_succ]))
        refine ord_end ?_
        go_wp2_with fail
        go_roundw
        case rel =>
          have hkk : Keeps (fun b => b ≠ w.heap.size + 1 ∧ b ≠ w1.heap.size ∧ b ≠ w2.heap.size) wv (sto wv w2.heap.size gv) := keeps_sto wv (fun h => h.2.2 rfl) gv
          have hsv := hyv.sz
          exact ⟨ext_sto6 (ext_trans hx5 hyv) (by omega) _ _ _ _ _ _, Nat.le_trans (Nat.le_trans (by omega) hsv) (grown_sto6 wv w2.heap.size (.int .i64 gv.k) (.string gv.x) (.float .f64 gv.d) (.bool gv.y) (.slice gv.ka gv.n gv.kc) (.slice gv.ca gv.m gv.cc)).size, (hbR5.ext hyv).sto6' (by omega) _ _ _ _ _ _, (hbX5.ext hyv).sto6' (by omega) _ _ _ _ _ _, (hbn5.ext hyv).sto6' (by omega) _ _ _ _ _ _, TreeAt.keep (fun _ h _ => h) hkk _ (hTX5.out.ext hyv), j + 1, gv, by omega, by go_num, hb7v.sto gv, by rw [readBx_step HNM.out, HST.out]; exact TreeAt.keep (fun _ h _ => h) hkk _ hTv.out⟩
        case measure => simp [intOf]; omega
    case neg =>
      have hj4 : j = 4 := by omega
      have hfull : cornerN.take j = cornerN := by rw [hj4]; rfl
      rw [hfull] at HTB hlj
      obtain ⟨y0, y1, y2, y3, y4, y5⟩ := hbX.six
      have hmq := mapT_len qs
      have hWt := Lib.hid (with_any gx (mapT qs) f gb (mapT (readBx cornerN bx)) wr HTX.out HTB.out (by omega) (by omega) (by omega))
      have hlX := hbX.lt
      clear hj4
      go_wp2_with (first
        | (go_at_call 46; refine hWt.out.mono ?_; rintro r wv ⟨gv, rfl, hTv, hxv⟩; simp only [El.val]
           rw [← mapT_plusR] at hTv
           have hTv := hTv.to (S' := (fun b => b ≠ w.heap.size + 1 ∧ b ≠ w1.heap.size ∧ b ≠ w2.heap.size)) (fun q hq _ => by
             rcases hq with hq | hq
             · exact hq
             · refine ⟨?_, ?_, ?_⟩ <;> omega)
           have hsv := hxv.sz
           have hM := Lib.hid (map_any (S := (fun b => b ≠ w.heap.size + 1 ∧ b ≠ w1.heap.size ∧ b ≠ w2.heap.size)) (some ⟨wv.heap.size, 0, none⟩) 1 1 [(s_geo_bounding_box, mapT (qs ++ [(f, mapT (readBx cornerN bx))]))] (wv.alloc (.cells #[.string s_geo_bounding_box, .int .i64 gv.k, .string gv.x, .float .f64 gv.d, .bool gv.y, .slice gv.ka gv.n gv.kc, .slice gv.ca gv.m gv.cc] 69)) (pairs_one (Box.at rfl _ _) (by refine ⟨?_, ?_, ?_⟩ <;> omega) (hTv.ext (ext_alloc (ext_refl wv) _))) (by decide)))
        | (go_at_call 48; refine hM.out.mono ?_; rintro r w9 ⟨g2, rfl, hT9, hx9⟩; simp only [El.val]
           have hyv : Ext wr (wv.alloc (.cells #[.string s_geo_bounding_box, .int .i64 gv.k, .string gv.x, .float .f64 gv.d, .bool gv.y, .slice gv.ka gv.n gv.kc, .slice gv.ca gv.m gv.cc] 69)) := ext_alloc hxv _
           have hb9 := (hbR.ext hyv).ext hx9; obtain ⟨o0, o1, o2, o3, o4, o5⟩ := hb9.six; have f0 := hb9.free 0; have f1 := hb9.free 1; have f2 := hb9.free 2; have f3 := hb9.free 3; have f4 := hb9.free 4; have f5 := hb9.free 5; have hl9 := hb9.lt)
        | fail)
      have hx9w : Ext w w9 := ext_trans (ext_trans hx hyv) hx9
      refine post_tree rfl rfl (hb9.sto g2) rfl ⟨g2, rfl, ?_, ext_sto6 hx9w (by omega) _ _ _ _ _ _⟩
      refine TreeAt.keep (S := fun b => b ≠ w.heap.size + 1) (fun _ _ _ => trivial) (keeps_sto w9 (fun h => h rfl) g2) _ ?_
      exact hT9.to (fun q hq _ => by
        rcases hq with hq | hq
        · exact hq.1.1
        · simp at hq
          omega)
end Go.Proofs.Ytfngaoicoecncaa

namespace Go.Proofs.Ytfngaoicoecncaa
open Go.RowKit

abbrev ptP (p : ByteArray × T) : T := pointT (kidT p.2 0, kidT p.2 1)
/-- What a setting adds to the box as it is told. -/
def entG (p : ByteArray × T) : List (ByteArray × T) := if seq p.1 s_top_left then [(s_top_left, ptP p)] else if seq p.1 s_top_right then [(s_top_right, ptP p)] else if seq p.1 s_bottom_right then [(s_bottom_right, ptP p)] else if seq p.1 s_top_left_hash then [(s_top_left, p.2)] else if seq p.1 s_top_right_hash then [(s_top_right, p.2)] else if seq p.1 s_bottom_right_hash then [(s_bottom_right, p.2)] else if seq p.1 s_bottom_left_hash then [(s_bottom_left, p.2)] else if seq p.1 s_wkt then [(s_wkt, p.2)] else []
def boxL (ps : List (ByteArray × T)) : List (ByteArray × T) := ps.flatMap entG
theorem boxL_snoc (l : List (ByteArray × T)) (p : ByteArray × T) : boxL (l ++ [p]) = boxL l ++ entG p := by
  unfold boxL
  rw [List.flatMap_append]
  simp
theorem pair_same {t : T} (h : PairP t) : sameT (readR (treeJ (.nums [(kidT t 1).num, (kidT t 0).num]))) (pointT (kidT t 0, kidT t 1)) = true := by
  obtain ⟨-, -, p, q, hk, k1, k2, k3, k4⟩ := h
  have ha : kidT t 0 = p := by unfold kidT; rw [hk]; rfl
  have hb : kidT t 1 = q := by unfold kidT; rw [hk]; rfl
  rw [ha, hb]
  have e : readR (treeJ (.nums [q.num, p.num])) = pointT (numT p.num, numT q.num) := by
    simp [treeJ, readR, listT, T.kind, kidT, T.kids]
  rw [e]
  unfold pointT
  refine sameT_map (show SameL _ _ from ?_)
  exact SameL.append (SameL.one s_lat (same_num k1 k3)) (SameL.one s_lon (same_num k2 k4))
theorem text_readR (s : ByteArray) : readR (treeJ (.str s)) = textT s := by
  simp [treeJ, readR, textT, T.kind]
theorem corn_fold (K KH : ByteArray) (sw : Bool) (hne : seq KH K = false)
    (hent : ∀ p : ByteArray × T, (sw = true → seq p.1 K = false) → lastOf (entG p) K = if seq p.1 K then some (ptP p) else if seq p.1 KH then some p.2 else none) : ∀ (l : List (ByteArray × T)) (o : Option J) (b : List (ByteArray × T)), (∀ p ∈ l, sw = true → seq p.1 K = false) → (∀ p ∈ l, seq p.1 K = true → PairP p.2) → (∀ p ∈ l, seq p.1 KH = true → p.2.kind = 1 ∧ scalarT p.2 = true) →
    OptSame (o.map fun j => readR (treeJ j)) (lastOf b K) → OptSame ((l.foldl (stepC K KH sw) o).map fun j => readR (treeJ j)) (lastOf (b ++ boxL l) K) := by
  intro l
  induction l with
  | nil => intro o b _ _ _ h; simpa [boxL] using h
  | cons p r ih =>
    intro o b hsw hp ht h
    rw [List.foldl_cons, show boxL (p :: r) = entG p ++ boxL r from rfl, ← List.append_assoc]
    refine ih _ _ (fun q hq => hsw q (by simp [hq])) (fun q hq => hp q (by simp [hq])) (fun q hq => ht q (by simp [hq])) ?_
    rw [lastOf_append, hent p (hsw p (by simp))]
    cases e1 : seq p.1 K with
    | true =>
      have hsf : sw = false := by
        cases sw with
        | false => rfl
        | true => exact absurd (hsw p (by simp) rfl) (by rw [e1]; decide)
      subst hsf
      rw [stepC_pair e1]
      have h9 := pair_same (hp p (by simp) e1)
      exact h9
    | false =>
      cases e2 : seq p.1 KH with
      | true =>
        rw [stepC_text e2 hne]
        obtain ⟨h1, h2⟩ := ht p (by simp) e2
        have h9 := (same_text h1 h2).1
        rw [← text_readR] at h9
        exact h9
      | false =>
        rw [stepC_skip e1 e2]
        simpa using h
theorem corn_same (K KH : ByteArray) (sw : Bool) (hne : seq KH K = false)
    (hent : ∀ p : ByteArray × T, (sw = true → seq p.1 K = false) → lastOf (entG p) K = if seq p.1 K then some (ptP p) else if seq p.1 KH then some p.2 else none) (l : List (ByteArray × T)) (hsw : ∀ p ∈ l, sw = true → seq p.1 K = false) (hp : ∀ p ∈ l, seq p.1 K = true → PairP p.2) (ht : ∀ p ∈ l, seq p.1 KH = true → p.2.kind = 1 ∧ scalarT p.2 = true) :
    OptSame ((foldC K KH sw l).map fun j => readR (treeJ j)) (lastOf (boxL l) K) := by
  have h := corn_fold K KH sw hne hent l none [] hsw hp ht trivial
  simpa [foldC] using h
theorem ent_top_left (p : ByteArray × T) (h : (false : Bool) = true → seq p.1 s_top_left = false) : lastOf (entG p) s_top_left = if seq p.1 s_top_left then some (ptP p) else if seq p.1 s_top_left_hash then some p.2 else none := by
  unfold entG
  cases e_top_left : seq p.1 s_top_left with
  | true =>
    have e := seq_iff.1 e_top_left
    have z_top_left_hash : seq p.1 s_top_left_hash = false := by rw [e]; exact seq_false.2 (by decide)
    have z_top_right : seq p.1 s_top_right = false := by rw [e]; exact seq_false.2 (by decide)
    have z_bottom_right : seq p.1 s_bottom_right = false := by rw [e]; exact seq_false.2 (by decide)
    have z_top_right_hash : seq p.1 s_top_right_hash = false := by rw [e]; exact seq_false.2 (by decide)
    have z_bottom_right_hash : seq p.1 s_bottom_right_hash = false := by rw [e]; exact seq_false.2 (by decide)
    have z_bottom_left_hash : seq p.1 s_bottom_left_hash = false := by rw [e]; exact seq_false.2 (by decide)
    have z_wkt : seq p.1 s_wkt = false := by rw [e]; exact seq_false.2 (by decide)
    clear e
    simp [lastOf_cons, lastOf_nil, seq_self, *]
  | false =>
    cases e_top_right : seq p.1 s_top_right with
    | true =>
      have e := seq_iff.1 e_top_right
      have z_top_left : seq p.1 s_top_left = false := by rw [e]; exact seq_false.2 (by decide)
      have z_top_left_hash : seq p.1 s_top_left_hash = false := by rw [e]; exact seq_false.2 (by decide)
      have z_bottom_right : seq p.1 s_bottom_right = false := by rw [e]; exact seq_false.2 (by decide)
      have z_top_right_hash : seq p.1 s_top_right_hash = false := by rw [e]; exact seq_false.2 (by decide)
      have z_bottom_right_hash : seq p.1 s_bottom_right_hash = false := by rw [e]; exact seq_false.2 (by decide)
      have z_bottom_left_hash : seq p.1 s_bottom_left_hash = false := by rw [e]; exact seq_false.2 (by decide)
      have z_wkt : seq p.1 s_wkt = false := by rw [e]; exact seq_false.2 (by decide)
      have hk : seq s_top_right s_top_left = false := seq_false.2 (by decide)
      clear e
      simp [lastOf_cons, lastOf_nil, seq_self, *]
    | false =>
      cases e_bottom_right : seq p.1 s_bottom_right with
      | true =>
        have e := seq_iff.1 e_bottom_right
        have z_top_left : seq p.1 s_top_left = false := by rw [e]; exact seq_false.2 (by decide)
        have z_top_left_hash : seq p.1 s_top_left_hash = false := by rw [e]; exact seq_false.2 (by decide)
        have z_top_right : seq p.1 s_top_right = false := by rw [e]; exact seq_false.2 (by decide)
        have z_top_right_hash : seq p.1 s_top_right_hash = false := by rw [e]; exact seq_false.2 (by decide)
        have z_bottom_right_hash : seq p.1 s_bottom_right_hash = false := by rw [e]; exact seq_false.2 (by decide)
        have z_bottom_left_hash : seq p.1 s_bottom_left_hash = false := by rw [e]; exact seq_false.2 (by decide)
        have z_wkt : seq p.1 s_wkt = false := by rw [e]; exact seq_false.2 (by decide)
        have hk : seq s_bottom_right s_top_left = false := seq_false.2 (by decide)
        clear e
        simp [lastOf_cons, lastOf_nil, seq_self, *]
      | false =>
        cases e_top_left_hash : seq p.1 s_top_left_hash with
        | true =>
          have e := seq_iff.1 e_top_left_hash
          have z_top_left : seq p.1 s_top_left = false := by rw [e]; exact seq_false.2 (by decide)
          have z_top_right : seq p.1 s_top_right = false := by rw [e]; exact seq_false.2 (by decide)
          have z_bottom_right : seq p.1 s_bottom_right = false := by rw [e]; exact seq_false.2 (by decide)
          have z_top_right_hash : seq p.1 s_top_right_hash = false := by rw [e]; exact seq_false.2 (by decide)
          have z_bottom_right_hash : seq p.1 s_bottom_right_hash = false := by rw [e]; exact seq_false.2 (by decide)
          have z_bottom_left_hash : seq p.1 s_bottom_left_hash = false := by rw [e]; exact seq_false.2 (by decide)
          have z_wkt : seq p.1 s_wkt = false := by rw [e]; exact seq_false.2 (by decide)
          clear e
          simp [lastOf_cons, lastOf_nil, seq_self, *]
        | false =>
          cases e_top_right_hash : seq p.1 s_top_right_hash with
          | true =>
            have e := seq_iff.1 e_top_right_hash
            have z_top_left : seq p.1 s_top_left = false := by rw [e]; exact seq_false.2 (by decide)
            have z_top_left_hash : seq p.1 s_top_left_hash = false := by rw [e]; exact seq_false.2 (by decide)
            have z_top_right : seq p.1 s_top_right = false := by rw [e]; exact seq_false.2 (by decide)
            have z_bottom_right : seq p.1 s_bottom_right = false := by rw [e]; exact seq_false.2 (by decide)
            have z_bottom_right_hash : seq p.1 s_bottom_right_hash = false := by rw [e]; exact seq_false.2 (by decide)
            have z_bottom_left_hash : seq p.1 s_bottom_left_hash = false := by rw [e]; exact seq_false.2 (by decide)
            have z_wkt : seq p.1 s_wkt = false := by rw [e]; exact seq_false.2 (by decide)
            have hk : seq s_top_right s_top_left = false := seq_false.2 (by decide)
            clear e
            simp [lastOf_cons, lastOf_nil, seq_self, *]
          | false =>
            cases e_bottom_right_hash : seq p.1 s_bottom_right_hash with
            | true =>
              have e := seq_iff.1 e_bottom_right_hash
              have z_top_left : seq p.1 s_top_left = false := by rw [e]; exact seq_false.2 (by decide)
              have z_top_left_hash : seq p.1 s_top_left_hash = false := by rw [e]; exact seq_false.2 (by decide)
              have z_top_right : seq p.1 s_top_right = false := by rw [e]; exact seq_false.2 (by decide)
              have z_bottom_right : seq p.1 s_bottom_right = false := by rw [e]; exact seq_false.2 (by decide)
              have z_top_right_hash : seq p.1 s_top_right_hash = false := by rw [e]; exact seq_false.2 (by decide)
              have z_bottom_left_hash : seq p.1 s_bottom_left_hash = false := by rw [e]; exact seq_false.2 (by decide)
              have z_wkt : seq p.1 s_wkt = false := by rw [e]; exact seq_false.2 (by decide)
              have hk : seq s_bottom_right s_top_left = false := seq_false.2 (by decide)
              clear e
              simp [lastOf_cons, lastOf_nil, seq_self, *]
            | false =>
              cases e_bottom_left_hash : seq p.1 s_bottom_left_hash with
              | true =>
                have e := seq_iff.1 e_bottom_left_hash
                have z_top_left : seq p.1 s_top_left = false := by rw [e]; exact seq_false.2 (by decide)
                have z_top_left_hash : seq p.1 s_top_left_hash = false := by rw [e]; exact seq_false.2 (by decide)
                have z_top_right : seq p.1 s_top_right = false := by rw [e]; exact seq_false.2 (by decide)
                have z_bottom_right : seq p.1 s_bottom_right = false := by rw [e]; exact seq_false.2 (by decide)
                have z_top_right_hash : seq p.1 s_top_right_hash = false := by rw [e]; exact seq_false.2 (by decide)
                have z_bottom_right_hash : seq p.1 s_bottom_right_hash = false := by rw [e]; exact seq_false.2 (by decide)
                have z_wkt : seq p.1 s_wkt = false := by rw [e]; exact seq_false.2 (by decide)
                have hk : seq s_bottom_left s_top_left = false := seq_false.2 (by decide)
                clear e
                simp [lastOf_cons, lastOf_nil, seq_self, *]
              | false =>
                cases e_wkt : seq p.1 s_wkt with
                | true =>
                  have e := seq_iff.1 e_wkt
                  have z_top_left : seq p.1 s_top_left = false := by rw [e]; exact seq_false.2 (by decide)
                  have z_top_left_hash : seq p.1 s_top_left_hash = false := by rw [e]; exact seq_false.2 (by decide)
                  have z_top_right : seq p.1 s_top_right = false := by rw [e]; exact seq_false.2 (by decide)
                  have z_bottom_right : seq p.1 s_bottom_right = false := by rw [e]; exact seq_false.2 (by decide)
                  have z_top_right_hash : seq p.1 s_top_right_hash = false := by rw [e]; exact seq_false.2 (by decide)
                  have z_bottom_right_hash : seq p.1 s_bottom_right_hash = false := by rw [e]; exact seq_false.2 (by decide)
                  have z_bottom_left_hash : seq p.1 s_bottom_left_hash = false := by rw [e]; exact seq_false.2 (by decide)
                  have hk : seq s_wkt s_top_left = false := seq_false.2 (by decide)
                  clear e
                  simp [lastOf_cons, lastOf_nil, seq_self, *]
                | false =>
                  simp [lastOf_nil, *]
theorem ent_top_right (p : ByteArray × T) (h : (false : Bool) = true → seq p.1 s_top_right = false) : lastOf (entG p) s_top_right = if seq p.1 s_top_right then some (ptP p) else if seq p.1 s_top_right_hash then some p.2 else none := by
  unfold entG
  cases e_top_left : seq p.1 s_top_left with
  | true =>
    have e := seq_iff.1 e_top_left
    have z_top_right : seq p.1 s_top_right = false := by rw [e]; exact seq_false.2 (by decide)
    have z_top_right_hash : seq p.1 s_top_right_hash = false := by rw [e]; exact seq_false.2 (by decide)
    have z_bottom_right : seq p.1 s_bottom_right = false := by rw [e]; exact seq_false.2 (by decide)
    have z_top_left_hash : seq p.1 s_top_left_hash = false := by rw [e]; exact seq_false.2 (by decide)
    have z_bottom_right_hash : seq p.1 s_bottom_right_hash = false := by rw [e]; exact seq_false.2 (by decide)
    have z_bottom_left_hash : seq p.1 s_bottom_left_hash = false := by rw [e]; exact seq_false.2 (by decide)
    have z_wkt : seq p.1 s_wkt = false := by rw [e]; exact seq_false.2 (by decide)
    have hk : seq s_top_left s_top_right = false := seq_false.2 (by decide)
    clear e
    simp [lastOf_cons, lastOf_nil, seq_self, *]
  | false =>
    cases e_top_right : seq p.1 s_top_right with
    | true =>
      have e := seq_iff.1 e_top_right
      have z_top_right_hash : seq p.1 s_top_right_hash = false := by rw [e]; exact seq_false.2 (by decide)
      have z_top_left : seq p.1 s_top_left = false := by rw [e]; exact seq_false.2 (by decide)
      have z_bottom_right : seq p.1 s_bottom_right = false := by rw [e]; exact seq_false.2 (by decide)
      have z_top_left_hash : seq p.1 s_top_left_hash = false := by rw [e]; exact seq_false.2 (by decide)
      have z_bottom_right_hash : seq p.1 s_bottom_right_hash = false := by rw [e]; exact seq_false.2 (by decide)
      have z_bottom_left_hash : seq p.1 s_bottom_left_hash = false := by rw [e]; exact seq_false.2 (by decide)
      have z_wkt : seq p.1 s_wkt = false := by rw [e]; exact seq_false.2 (by decide)
      clear e
      simp [lastOf_cons, lastOf_nil, seq_self, *]
    | false =>
      cases e_bottom_right : seq p.1 s_bottom_right with
      | true =>
        have e := seq_iff.1 e_bottom_right
        have z_top_right : seq p.1 s_top_right = false := by rw [e]; exact seq_false.2 (by decide)
        have z_top_right_hash : seq p.1 s_top_right_hash = false := by rw [e]; exact seq_false.2 (by decide)
        have z_top_left : seq p.1 s_top_left = false := by rw [e]; exact seq_false.2 (by decide)
        have z_top_left_hash : seq p.1 s_top_left_hash = false := by rw [e]; exact seq_false.2 (by decide)
        have z_bottom_right_hash : seq p.1 s_bottom_right_hash = false := by rw [e]; exact seq_false.2 (by decide)
        have z_bottom_left_hash : seq p.1 s_bottom_left_hash = false := by rw [e]; exact seq_false.2 (by decide)
        have z_wkt : seq p.1 s_wkt = false := by rw [e]; exact seq_false.2 (by decide)
        have hk : seq s_bottom_right s_top_right = false := seq_false.2 (by decide)
        clear e
        simp [lastOf_cons, lastOf_nil, seq_self, *]
      | false =>
        cases e_top_left_hash : seq p.1 s_top_left_hash with
        | true =>
          have e := seq_iff.1 e_top_left_hash
          have z_top_right : seq p.1 s_top_right = false := by rw [e]; exact seq_false.2 (by decide)
          have z_top_right_hash : seq p.1 s_top_right_hash = false := by rw [e]; exact seq_false.2 (by decide)
          have z_top_left : seq p.1 s_top_left = false := by rw [e]; exact seq_false.2 (by decide)
          have z_bottom_right : seq p.1 s_bottom_right = false := by rw [e]; exact seq_false.2 (by decide)
          have z_bottom_right_hash : seq p.1 s_bottom_right_hash = false := by rw [e]; exact seq_false.2 (by decide)
          have z_bottom_left_hash : seq p.1 s_bottom_left_hash = false := by rw [e]; exact seq_false.2 (by decide)
          have z_wkt : seq p.1 s_wkt = false := by rw [e]; exact seq_false.2 (by decide)
          have hk : seq s_top_left s_top_right = false := seq_false.2 (by decide)
          clear e
          simp [lastOf_cons, lastOf_nil, seq_self, *]
        | false =>
          cases e_top_right_hash : seq p.1 s_top_right_hash with
          | true =>
            have e := seq_iff.1 e_top_right_hash
            have z_top_right : seq p.1 s_top_right = false := by rw [e]; exact seq_false.2 (by decide)
            have z_top_left : seq p.1 s_top_left = false := by rw [e]; exact seq_false.2 (by decide)
            have z_bottom_right : seq p.1 s_bottom_right = false := by rw [e]; exact seq_false.2 (by decide)
            have z_top_left_hash : seq p.1 s_top_left_hash = false := by rw [e]; exact seq_false.2 (by decide)
            have z_bottom_right_hash : seq p.1 s_bottom_right_hash = false := by rw [e]; exact seq_false.2 (by decide)
            have z_bottom_left_hash : seq p.1 s_bottom_left_hash = false := by rw [e]; exact seq_false.2 (by decide)
            have z_wkt : seq p.1 s_wkt = false := by rw [e]; exact seq_false.2 (by decide)
            clear e
            simp [lastOf_cons, lastOf_nil, seq_self, *]
          | false =>
            cases e_bottom_right_hash : seq p.1 s_bottom_right_hash with
            | true =>
              have e := seq_iff.1 e_bottom_right_hash
              have z_top_right : seq p.1 s_top_right = false := by rw [e]; exact seq_false.2 (by decide)
              have z_top_right_hash : seq p.1 s_top_right_hash = false := by rw [e]; exact seq_false.2 (by decide)
              have z_top_left : seq p.1 s_top_left = false := by rw [e]; exact seq_false.2 (by decide)
              have z_bottom_right : seq p.1 s_bottom_right = false := by rw [e]; exact seq_false.2 (by decide)
              have z_top_left_hash : seq p.1 s_top_left_hash = false := by rw [e]; exact seq_false.2 (by decide)
              have z_bottom_left_hash : seq p.1 s_bottom_left_hash = false := by rw [e]; exact seq_false.2 (by decide)
              have z_wkt : seq p.1 s_wkt = false := by rw [e]; exact seq_false.2 (by decide)
              have hk : seq s_bottom_right s_top_right = false := seq_false.2 (by decide)
              clear e
              simp [lastOf_cons, lastOf_nil, seq_self, *]
            | false =>
              cases e_bottom_left_hash : seq p.1 s_bottom_left_hash with
              | true =>
                have e := seq_iff.1 e_bottom_left_hash
                have z_top_right : seq p.1 s_top_right = false := by rw [e]; exact seq_false.2 (by decide)
                have z_top_right_hash : seq p.1 s_top_right_hash = false := by rw [e]; exact seq_false.2 (by decide)
                have z_top_left : seq p.1 s_top_left = false := by rw [e]; exact seq_false.2 (by decide)
                have z_bottom_right : seq p.1 s_bottom_right = false := by rw [e]; exact seq_false.2 (by decide)
                have z_top_left_hash : seq p.1 s_top_left_hash = false := by rw [e]; exact seq_false.2 (by decide)
                have z_bottom_right_hash : seq p.1 s_bottom_right_hash = false := by rw [e]; exact seq_false.2 (by decide)
                have z_wkt : seq p.1 s_wkt = false := by rw [e]; exact seq_false.2 (by decide)
                have hk : seq s_bottom_left s_top_right = false := seq_false.2 (by decide)
                clear e
                simp [lastOf_cons, lastOf_nil, seq_self, *]
              | false =>
                cases e_wkt : seq p.1 s_wkt with
                | true =>
                  have e := seq_iff.1 e_wkt
                  have z_top_right : seq p.1 s_top_right = false := by rw [e]; exact seq_false.2 (by decide)
                  have z_top_right_hash : seq p.1 s_top_right_hash = false := by rw [e]; exact seq_false.2 (by decide)
                  have z_top_left : seq p.1 s_top_left = false := by rw [e]; exact seq_false.2 (by decide)
                  have z_bottom_right : seq p.1 s_bottom_right = false := by rw [e]; exact seq_false.2 (by decide)
                  have z_top_left_hash : seq p.1 s_top_left_hash = false := by rw [e]; exact seq_false.2 (by decide)
                  have z_bottom_right_hash : seq p.1 s_bottom_right_hash = false := by rw [e]; exact seq_false.2 (by decide)
                  have z_bottom_left_hash : seq p.1 s_bottom_left_hash = false := by rw [e]; exact seq_false.2 (by decide)
                  have hk : seq s_wkt s_top_right = false := seq_false.2 (by decide)
                  clear e
                  simp [lastOf_cons, lastOf_nil, seq_self, *]
                | false =>
                  simp [lastOf_nil, *]
theorem ent_bottom_right (p : ByteArray × T) (h : (false : Bool) = true → seq p.1 s_bottom_right = false) : lastOf (entG p) s_bottom_right = if seq p.1 s_bottom_right then some (ptP p) else if seq p.1 s_bottom_right_hash then some p.2 else none := by
  unfold entG
  cases e_top_left : seq p.1 s_top_left with
  | true =>
    have e := seq_iff.1 e_top_left
    have z_bottom_right : seq p.1 s_bottom_right = false := by rw [e]; exact seq_false.2 (by decide)
    have z_bottom_right_hash : seq p.1 s_bottom_right_hash = false := by rw [e]; exact seq_false.2 (by decide)
    have z_top_right : seq p.1 s_top_right = false := by rw [e]; exact seq_false.2 (by decide)
    have z_top_left_hash : seq p.1 s_top_left_hash = false := by rw [e]; exact seq_false.2 (by decide)
    have z_top_right_hash : seq p.1 s_top_right_hash = false := by rw [e]; exact seq_false.2 (by decide)
    have z_bottom_left_hash : seq p.1 s_bottom_left_hash = false := by rw [e]; exact seq_false.2 (by decide)
    have z_wkt : seq p.1 s_wkt = false := by rw [e]; exact seq_false.2 (by decide)
    have hk : seq s_top_left s_bottom_right = false := seq_false.2 (by decide)
    clear e
    simp [lastOf_cons, lastOf_nil, seq_self, *]
  | false =>
    cases e_top_right : seq p.1 s_top_right with
    | true =>
      have e := seq_iff.1 e_top_right
      have z_bottom_right : seq p.1 s_bottom_right = false := by rw [e]; exact seq_false.2 (by decide)
      have z_bottom_right_hash : seq p.1 s_bottom_right_hash = false := by rw [e]; exact seq_false.2 (by decide)
      have z_top_left : seq p.1 s_top_left = false := by rw [e]; exact seq_false.2 (by decide)
      have z_top_left_hash : seq p.1 s_top_left_hash = false := by rw [e]; exact seq_false.2 (by decide)
      have z_top_right_hash : seq p.1 s_top_right_hash = false := by rw [e]; exact seq_false.2 (by decide)
      have z_bottom_left_hash : seq p.1 s_bottom_left_hash = false := by rw [e]; exact seq_false.2 (by decide)
      have z_wkt : seq p.1 s_wkt = false := by rw [e]; exact seq_false.2 (by decide)
      have hk : seq s_top_right s_bottom_right = false := seq_false.2 (by decide)
      clear e
      simp [lastOf_cons, lastOf_nil, seq_self, *]
    | false =>
      cases e_bottom_right : seq p.1 s_bottom_right with
      | true =>
        have e := seq_iff.1 e_bottom_right
        have z_bottom_right_hash : seq p.1 s_bottom_right_hash = false := by rw [e]; exact seq_false.2 (by decide)
        have z_top_left : seq p.1 s_top_left = false := by rw [e]; exact seq_false.2 (by decide)
        have z_top_right : seq p.1 s_top_right = false := by rw [e]; exact seq_false.2 (by decide)
        have z_top_left_hash : seq p.1 s_top_left_hash = false := by rw [e]; exact seq_false.2 (by decide)
        have z_top_right_hash : seq p.1 s_top_right_hash = false := by rw [e]; exact seq_false.2 (by decide)
        have z_bottom_left_hash : seq p.1 s_bottom_left_hash = false := by rw [e]; exact seq_false.2 (by decide)
        have z_wkt : seq p.1 s_wkt = false := by rw [e]; exact seq_false.2 (by decide)
        clear e
        simp [lastOf_cons, lastOf_nil, seq_self, *]
      | false =>
        cases e_top_left_hash : seq p.1 s_top_left_hash with
        | true =>
          have e := seq_iff.1 e_top_left_hash
          have z_bottom_right : seq p.1 s_bottom_right = false := by rw [e]; exact seq_false.2 (by decide)
          have z_bottom_right_hash : seq p.1 s_bottom_right_hash = false := by rw [e]; exact seq_false.2 (by decide)
          have z_top_left : seq p.1 s_top_left = false := by rw [e]; exact seq_false.2 (by decide)
          have z_top_right : seq p.1 s_top_right = false := by rw [e]; exact seq_false.2 (by decide)
          have z_top_right_hash : seq p.1 s_top_right_hash = false := by rw [e]; exact seq_false.2 (by decide)
          have z_bottom_left_hash : seq p.1 s_bottom_left_hash = false := by rw [e]; exact seq_false.2 (by decide)
          have z_wkt : seq p.1 s_wkt = false := by rw [e]; exact seq_false.2 (by decide)
          have hk : seq s_top_left s_bottom_right = false := seq_false.2 (by decide)
          clear e
          simp [lastOf_cons, lastOf_nil, seq_self, *]
        | false =>
          cases e_top_right_hash : seq p.1 s_top_right_hash with
          | true =>
            have e := seq_iff.1 e_top_right_hash
            have z_bottom_right : seq p.1 s_bottom_right = false := by rw [e]; exact seq_false.2 (by decide)
            have z_bottom_right_hash : seq p.1 s_bottom_right_hash = false := by rw [e]; exact seq_false.2 (by decide)
            have z_top_left : seq p.1 s_top_left = false := by rw [e]; exact seq_false.2 (by decide)
            have z_top_right : seq p.1 s_top_right = false := by rw [e]; exact seq_false.2 (by decide)
            have z_top_left_hash : seq p.1 s_top_left_hash = false := by rw [e]; exact seq_false.2 (by decide)
            have z_bottom_left_hash : seq p.1 s_bottom_left_hash = false := by rw [e]; exact seq_false.2 (by decide)
            have z_wkt : seq p.1 s_wkt = false := by rw [e]; exact seq_false.2 (by decide)
            have hk : seq s_top_right s_bottom_right = false := seq_false.2 (by decide)
            clear e
            simp [lastOf_cons, lastOf_nil, seq_self, *]
          | false =>
            cases e_bottom_right_hash : seq p.1 s_bottom_right_hash with
            | true =>
              have e := seq_iff.1 e_bottom_right_hash
              have z_bottom_right : seq p.1 s_bottom_right = false := by rw [e]; exact seq_false.2 (by decide)
              have z_top_left : seq p.1 s_top_left = false := by rw [e]; exact seq_false.2 (by decide)
              have z_top_right : seq p.1 s_top_right = false := by rw [e]; exact seq_false.2 (by decide)
              have z_top_left_hash : seq p.1 s_top_left_hash = false := by rw [e]; exact seq_false.2 (by decide)
              have z_top_right_hash : seq p.1 s_top_right_hash = false := by rw [e]; exact seq_false.2 (by decide)
              have z_bottom_left_hash : seq p.1 s_bottom_left_hash = false := by rw [e]; exact seq_false.2 (by decide)
              have z_wkt : seq p.1 s_wkt = false := by rw [e]; exact seq_false.2 (by decide)
              clear e
              simp [lastOf_cons, lastOf_nil, seq_self, *]
            | false =>
              cases e_bottom_left_hash : seq p.1 s_bottom_left_hash with
              | true =>
                have e := seq_iff.1 e_bottom_left_hash
                have z_bottom_right : seq p.1 s_bottom_right = false := by rw [e]; exact seq_false.2 (by decide)
                have z_bottom_right_hash : seq p.1 s_bottom_right_hash = false := by rw [e]; exact seq_false.2 (by decide)
                have z_top_left : seq p.1 s_top_left = false := by rw [e]; exact seq_false.2 (by decide)
                have z_top_right : seq p.1 s_top_right = false := by rw [e]; exact seq_false.2 (by decide)
                have z_top_left_hash : seq p.1 s_top_left_hash = false := by rw [e]; exact seq_false.2 (by decide)
                have z_top_right_hash : seq p.1 s_top_right_hash = false := by rw [e]; exact seq_false.2 (by decide)
                have z_wkt : seq p.1 s_wkt = false := by rw [e]; exact seq_false.2 (by decide)
                have hk : seq s_bottom_left s_bottom_right = false := seq_false.2 (by decide)
                clear e
                simp [lastOf_cons, lastOf_nil, seq_self, *]
              | false =>
                cases e_wkt : seq p.1 s_wkt with
                | true =>
                  have e := seq_iff.1 e_wkt
                  have z_bottom_right : seq p.1 s_bottom_right = false := by rw [e]; exact seq_false.2 (by decide)
                  have z_bottom_right_hash : seq p.1 s_bottom_right_hash = false := by rw [e]; exact seq_false.2 (by decide)
                  have z_top_left : seq p.1 s_top_left = false := by rw [e]; exact seq_false.2 (by decide)
                  have z_top_right : seq p.1 s_top_right = false := by rw [e]; exact seq_false.2 (by decide)
                  have z_top_left_hash : seq p.1 s_top_left_hash = false := by rw [e]; exact seq_false.2 (by decide)
                  have z_top_right_hash : seq p.1 s_top_right_hash = false := by rw [e]; exact seq_false.2 (by decide)
                  have z_bottom_left_hash : seq p.1 s_bottom_left_hash = false := by rw [e]; exact seq_false.2 (by decide)
                  have hk : seq s_wkt s_bottom_right = false := seq_false.2 (by decide)
                  clear e
                  simp [lastOf_cons, lastOf_nil, seq_self, *]
                | false =>
                  simp [lastOf_nil, *]
theorem ent_bottom_left (p : ByteArray × T) (h : (true : Bool) = true → seq p.1 s_bottom_left = false) : lastOf (entG p) s_bottom_left = if seq p.1 s_bottom_left then some (ptP p) else if seq p.1 s_bottom_left_hash then some p.2 else none := by
  have h := h rfl
  unfold entG
  cases e_top_left : seq p.1 s_top_left with
  | true =>
    have e := seq_iff.1 e_top_left
    have z_bottom_left : seq p.1 s_bottom_left = false := by rw [e]; exact seq_false.2 (by decide)
    have z_bottom_left_hash : seq p.1 s_bottom_left_hash = false := by rw [e]; exact seq_false.2 (by decide)
    have z_top_right : seq p.1 s_top_right = false := by rw [e]; exact seq_false.2 (by decide)
    have z_bottom_right : seq p.1 s_bottom_right = false := by rw [e]; exact seq_false.2 (by decide)
    have z_top_left_hash : seq p.1 s_top_left_hash = false := by rw [e]; exact seq_false.2 (by decide)
    have z_top_right_hash : seq p.1 s_top_right_hash = false := by rw [e]; exact seq_false.2 (by decide)
    have z_bottom_right_hash : seq p.1 s_bottom_right_hash = false := by rw [e]; exact seq_false.2 (by decide)
    have z_wkt : seq p.1 s_wkt = false := by rw [e]; exact seq_false.2 (by decide)
    have hk : seq s_top_left s_bottom_left = false := seq_false.2 (by decide)
    clear e
    simp [lastOf_cons, lastOf_nil, seq_self, *]
  | false =>
    cases e_top_right : seq p.1 s_top_right with
    | true =>
      have e := seq_iff.1 e_top_right
      have z_bottom_left : seq p.1 s_bottom_left = false := by rw [e]; exact seq_false.2 (by decide)
      have z_bottom_left_hash : seq p.1 s_bottom_left_hash = false := by rw [e]; exact seq_false.2 (by decide)
      have z_top_left : seq p.1 s_top_left = false := by rw [e]; exact seq_false.2 (by decide)
      have z_bottom_right : seq p.1 s_bottom_right = false := by rw [e]; exact seq_false.2 (by decide)
      have z_top_left_hash : seq p.1 s_top_left_hash = false := by rw [e]; exact seq_false.2 (by decide)
      have z_top_right_hash : seq p.1 s_top_right_hash = false := by rw [e]; exact seq_false.2 (by decide)
      have z_bottom_right_hash : seq p.1 s_bottom_right_hash = false := by rw [e]; exact seq_false.2 (by decide)
      have z_wkt : seq p.1 s_wkt = false := by rw [e]; exact seq_false.2 (by decide)
      have hk : seq s_top_right s_bottom_left = false := seq_false.2 (by decide)
      clear e
      simp [lastOf_cons, lastOf_nil, seq_self, *]
    | false =>
      cases e_bottom_right : seq p.1 s_bottom_right with
      | true =>
        have e := seq_iff.1 e_bottom_right
        have z_bottom_left : seq p.1 s_bottom_left = false := by rw [e]; exact seq_false.2 (by decide)
        have z_bottom_left_hash : seq p.1 s_bottom_left_hash = false := by rw [e]; exact seq_false.2 (by decide)
        have z_top_left : seq p.1 s_top_left = false := by rw [e]; exact seq_false.2 (by decide)
        have z_top_right : seq p.1 s_top_right = false := by rw [e]; exact seq_false.2 (by decide)
        have z_top_left_hash : seq p.1 s_top_left_hash = false := by rw [e]; exact seq_false.2 (by decide)
        have z_top_right_hash : seq p.1 s_top_right_hash = false := by rw [e]; exact seq_false.2 (by decide)
        have z_bottom_right_hash : seq p.1 s_bottom_right_hash = false := by rw [e]; exact seq_false.2 (by decide)
        have z_wkt : seq p.1 s_wkt = false := by rw [e]; exact seq_false.2 (by decide)
        have hk : seq s_bottom_right s_bottom_left = false := seq_false.2 (by decide)
        clear e
        simp [lastOf_cons, lastOf_nil, seq_self, *]
      | false =>
        cases e_top_left_hash : seq p.1 s_top_left_hash with
        | true =>
          have e := seq_iff.1 e_top_left_hash
          have z_bottom_left : seq p.1 s_bottom_left = false := by rw [e]; exact seq_false.2 (by decide)
          have z_bottom_left_hash : seq p.1 s_bottom_left_hash = false := by rw [e]; exact seq_false.2 (by decide)
          have z_top_left : seq p.1 s_top_left = false := by rw [e]; exact seq_false.2 (by decide)
          have z_top_right : seq p.1 s_top_right = false := by rw [e]; exact seq_false.2 (by decide)
          have z_bottom_right : seq p.1 s_bottom_right = false := by rw [e]; exact seq_false.2 (by decide)
          have z_top_right_hash : seq p.1 s_top_right_hash = false := by rw [e]; exact seq_false.2 (by decide)
          have z_bottom_right_hash : seq p.1 s_bottom_right_hash = false := by rw [e]; exact seq_false.2 (by decide)
          have z_wkt : seq p.1 s_wkt = false := by rw [e]; exact seq_false.2 (by decide)
          have hk : seq s_top_left s_bottom_left = false := seq_false.2 (by decide)
          clear e
          simp [lastOf_cons, lastOf_nil, seq_self, *]
        | false =>
          cases e_top_right_hash : seq p.1 s_top_right_hash with
          | true =>
            have e := seq_iff.1 e_top_right_hash
            have z_bottom_left : seq p.1 s_bottom_left = false := by rw [e]; exact seq_false.2 (by decide)
            have z_bottom_left_hash : seq p.1 s_bottom_left_hash = false := by rw [e]; exact seq_false.2 (by decide)
            have z_top_left : seq p.1 s_top_left = false := by rw [e]; exact seq_false.2 (by decide)
            have z_top_right : seq p.1 s_top_right = false := by rw [e]; exact seq_false.2 (by decide)
            have z_bottom_right : seq p.1 s_bottom_right = false := by rw [e]; exact seq_false.2 (by decide)
            have z_top_left_hash : seq p.1 s_top_left_hash = false := by rw [e]; exact seq_false.2 (by decide)
            have z_bottom_right_hash : seq p.1 s_bottom_right_hash = false := by rw [e]; exact seq_false.2 (by decide)
            have z_wkt : seq p.1 s_wkt = false := by rw [e]; exact seq_false.2 (by decide)
            have hk : seq s_top_right s_bottom_left = false := seq_false.2 (by decide)
            clear e
            simp [lastOf_cons, lastOf_nil, seq_self, *]
          | false =>
            cases e_bottom_right_hash : seq p.1 s_bottom_right_hash with
            | true =>
              have e := seq_iff.1 e_bottom_right_hash
              have z_bottom_left : seq p.1 s_bottom_left = false := by rw [e]; exact seq_false.2 (by decide)
              have z_bottom_left_hash : seq p.1 s_bottom_left_hash = false := by rw [e]; exact seq_false.2 (by decide)
              have z_top_left : seq p.1 s_top_left = false := by rw [e]; exact seq_false.2 (by decide)
              have z_top_right : seq p.1 s_top_right = false := by rw [e]; exact seq_false.2 (by decide)
              have z_bottom_right : seq p.1 s_bottom_right = false := by rw [e]; exact seq_false.2 (by decide)
              have z_top_left_hash : seq p.1 s_top_left_hash = false := by rw [e]; exact seq_false.2 (by decide)
              have z_top_right_hash : seq p.1 s_top_right_hash = false := by rw [e]; exact seq_false.2 (by decide)
              have z_wkt : seq p.1 s_wkt = false := by rw [e]; exact seq_false.2 (by decide)
              have hk : seq s_bottom_right s_bottom_left = false := seq_false.2 (by decide)
              clear e
              simp [lastOf_cons, lastOf_nil, seq_self, *]
            | false =>
              cases e_bottom_left_hash : seq p.1 s_bottom_left_hash with
              | true =>
                have e := seq_iff.1 e_bottom_left_hash
                have z_bottom_left : seq p.1 s_bottom_left = false := by rw [e]; exact seq_false.2 (by decide)
                have z_top_left : seq p.1 s_top_left = false := by rw [e]; exact seq_false.2 (by decide)
                have z_top_right : seq p.1 s_top_right = false := by rw [e]; exact seq_false.2 (by decide)
                have z_bottom_right : seq p.1 s_bottom_right = false := by rw [e]; exact seq_false.2 (by decide)
                have z_top_left_hash : seq p.1 s_top_left_hash = false := by rw [e]; exact seq_false.2 (by decide)
                have z_top_right_hash : seq p.1 s_top_right_hash = false := by rw [e]; exact seq_false.2 (by decide)
                have z_bottom_right_hash : seq p.1 s_bottom_right_hash = false := by rw [e]; exact seq_false.2 (by decide)
                have z_wkt : seq p.1 s_wkt = false := by rw [e]; exact seq_false.2 (by decide)
                clear e
                simp [lastOf_cons, lastOf_nil, seq_self, *]
              | false =>
                cases e_wkt : seq p.1 s_wkt with
                | true =>
                  have e := seq_iff.1 e_wkt
                  have z_bottom_left : seq p.1 s_bottom_left = false := by rw [e]; exact seq_false.2 (by decide)
                  have z_bottom_left_hash : seq p.1 s_bottom_left_hash = false := by rw [e]; exact seq_false.2 (by decide)
                  have z_top_left : seq p.1 s_top_left = false := by rw [e]; exact seq_false.2 (by decide)
                  have z_top_right : seq p.1 s_top_right = false := by rw [e]; exact seq_false.2 (by decide)
                  have z_bottom_right : seq p.1 s_bottom_right = false := by rw [e]; exact seq_false.2 (by decide)
                  have z_top_left_hash : seq p.1 s_top_left_hash = false := by rw [e]; exact seq_false.2 (by decide)
                  have z_top_right_hash : seq p.1 s_top_right_hash = false := by rw [e]; exact seq_false.2 (by decide)
                  have z_bottom_right_hash : seq p.1 s_bottom_right_hash = false := by rw [e]; exact seq_false.2 (by decide)
                  have hk : seq s_wkt s_bottom_left = false := seq_false.2 (by decide)
                  clear e
                  simp [lastOf_cons, lastOf_nil, seq_self, *]
                | false =>
                  simp [lastOf_nil, *]
end Go.Proofs.Ytfngaoicoecncaa

namespace Go.Proofs.Ytfngaoicoecncaa
open Go.RowKit

def boxJ (o : Option T) (tl tr bl br : Option J) : List (ByteArray × J) := match o with
  | some t => [(s_wkt, jOf t)]
  | none => jC s_top_left tl ++ jC s_top_right tr ++ jC s_bottom_left bl ++ jC s_bottom_right br
theorem jBox_eq (o : Option T) (tl tr bl br : Option J) : jBox o tl tr bl br = jMap (boxJ o tl tr bl br) := by cases o <;> rfl
theorem stepR_last (b : List (ByteArray × T)) (a k : ByteArray) : lastOf (stepR b a) k = if seq a k then (lastOf b k).map readR else lastOf b k := by
  unfold stepR
  cases h : lastOf b a with
  | none =>
    cases e : seq a k with
    | true =>
      rw [← seq_iff.1 e, h]
      rfl
    | false => simp
  | some t =>
    dsimp only
    rw [lastOf_snoc]
    cases e : seq a k with
    | true =>
      rw [← seq_iff.1 e, h]
      simp
    | false => simp
theorem readC_last (b : List (ByteArray × T)) (k : ByteArray) : lastOf (readBx cornerN b) k = if seq s_bottom_right k then (if seq s_bottom_left k then (if seq s_top_right k then (if seq s_top_left k then (lastOf b k).map readR else lastOf b k).map readR else if seq s_top_left k then (lastOf b k).map readR else lastOf b k).map readR else if seq s_top_right k then (if seq s_top_left k then (lastOf b k).map readR else lastOf b k).map readR else if seq s_top_left k then (lastOf b k).map readR else lastOf b k).map readR else if seq s_bottom_left k then (if seq s_top_right k then (if seq s_top_left k then (lastOf b k).map readR else lastOf b k).map readR else if seq s_top_left k then (lastOf b k).map readR else lastOf b k).map readR else if seq s_top_right k then (if seq s_top_left k then (lastOf b k).map readR else lastOf b k).map readR else if seq s_top_left k then (lastOf b k).map readR else lastOf b k := by
  rw [show readBx cornerN b = stepR (stepR (stepR (stepR b s_top_left) s_top_right) s_bottom_left) s_bottom_right from rfl, stepR_last, stepR_last, stepR_last, stepR_last]
theorem last_jC (K : ByteArray) (o : Option J) (k : ByteArray) : lastOf (jTree (jC K o)) k = if seq K k then o.map treeJ else none := by
  cases o with
  | none =>
    show lastOf ([] : List (ByteArray × T)) k = _
    simp [lastOf_nil]
  | some j =>
    show lastOf [(K, treeJ j)] k = _
    rw [lastOf_cons, lastOf_nil]
    simp
theorem wkt_last : ∀ l : List (ByteArray × T), lastOf (boxL l) s_wkt = lastOf l s_wkt := by
  intro l
  induction l with
  | nil => rfl
  | cons p r ih =>
    rw [show boxL (p :: r) = entG p ++ boxL r from rfl, lastOf_append, lastOf_cons, ih]
    congr 1
    unfold entG
    cases e : seq p.1 s_wkt with
    | true =>
      have h := seq_iff.1 e
      have z : ∀ k : ByteArray, s_wkt ≠ k → seq p.1 k = false := fun k hk => by rw [h]; exact seq_false.2 hk
      rw [z s_top_left (by decide), z s_top_right (by decide), z s_bottom_right (by decide), z s_top_left_hash (by decide), z s_top_right_hash (by decide), z s_bottom_right_hash (by decide), z s_bottom_left_hash (by decide)]
      simp [lastOf_cons, lastOf_nil, seq_self]
    | false =>
      have n : ∀ (k : ByteArray) (t : T), k ≠ s_wkt → lastOf [(k, t)] s_wkt = none := fun k t hk => by
        rw [lastOf_cons, lastOf_nil, seq_false.2 hk]
        rfl
      split
      · exact n _ _ (by decide)
      split
      · exact n _ _ (by decide)
      split
      · exact n _ _ (by decide)
      split
      · exact n _ _ (by decide)
      split
      · exact n _ _ (by decide)
      split
      · exact n _ _ (by decide)
      split
      · exact n _ _ (by decide)
      · simp [lastOf_nil]
theorem box_keys (l : List (ByteArray × T)) : KeysIn (boxL l) (s_wkt :: cornerN) := fun p hp => by
  unfold boxL at hp
  obtain ⟨q, -, hq⟩ := List.mem_flatMap.1 hp
  unfold entG at hq
  repeat' split at hq
  all_goals (simp only [List.mem_singleton, List.not_mem_nil] at hq)
  all_goals (subst hq; simp [cornerN])
theorem foldC_none {K KH : ByteArray} {sw : Bool} : ∀ (l : List (ByteArray × T)) (o : Option J), lastOf l K = none → lastOf l KH = none → l.foldl (stepC K KH sw) o = o := by
  intro l
  induction l with
  | nil => intro o _ _; rfl
  | cons p r ih =>
    intro o h1 h2
    rw [lastOf_cons] at h1 h2
    have a1 : lastOf r K = none ∧ seq p.1 K = false := by
      cases h : lastOf r K <;> cases e : seq p.1 K <;> rw [h, e] at h1 <;> simp at h1 <;> exact ⟨rfl, rfl⟩
    have a2 : lastOf r KH = none ∧ seq p.1 KH = false := by
      cases h : lastOf r KH <;> cases e : seq p.1 KH <;> rw [h, e] at h2 <;> simp at h2 <;> exact ⟨rfl, rfl⟩
    rw [List.foldl_cons, stepC_skip a1.2 a2.2]
    exact ih o a1.1 a2.1
theorem hasC_none {K KH : ByteArray} {sw : Bool} {l : List (ByteArray × T)} (h : hasC K KH l = false) : foldC K KH sw l = none := by
  unfold hasC at h
  rw [Bool.or_eq_false_iff] at h
  exact foldC_none l none (by cases h1 : lastOf l K <;> rw [h1] at h <;> simp at h ⊢) (by cases h1 : lastOf l KH <;> rw [h1] at h <;> simp at h ⊢)
theorem lastB_none (tl tr bl br : Option J) (k : ByteArray) : lastOf (jTree (boxJ none tl tr bl br)) k = (if seq s_bottom_right k then br.map treeJ else none).or ((if seq s_bottom_left k then bl.map treeJ else none).or ((if seq s_top_right k then tr.map treeJ else none).or (if seq s_top_left k then tl.map treeJ else none))) := by
  have e : jTree (boxJ none tl tr bl br) = jTree (jC s_top_left tl) ++ jTree (jC s_top_right tr) ++ jTree (jC s_bottom_left bl) ++ jTree (jC s_bottom_right br) := by
    unfold boxJ jTree
    simp only [List.map_append]
  rw [e, lastOf_append, lastOf_append, lastOf_append, last_jC, last_jC, last_jC, last_jC]
theorem lastB_some (t : T) (tl tr bl br : Option J) (k : ByteArray) : lastOf (jTree (boxJ (some t) tl tr bl br)) k = if seq s_wkt k then some (treeJ (jOf t)) else none := by
  show lastOf [(s_wkt, treeJ (jOf t))] k = _
  rw [lastOf_cons, lastOf_nil]
  simp
/-- What is needed of settings that fit. -/
structure BoxOk (ps : List (ByteArray × T)) : Prop where
  box : BoxP ps
  nobl : ∀ p ∈ ps, seq p.1 s_bottom_left = false
  p_top_left : ∀ p ∈ ps, seq p.1 s_top_left = true → PairP p.2
  t_top_left : ∀ p ∈ ps, seq p.1 s_top_left_hash = true → p.2.kind = 1 ∧ scalarT p.2 = true
  p_top_right : ∀ p ∈ ps, seq p.1 s_top_right = true → PairP p.2
  t_top_right : ∀ p ∈ ps, seq p.1 s_top_right_hash = true → p.2.kind = 1 ∧ scalarT p.2 = true
  t_bottom_left : ∀ p ∈ ps, seq p.1 s_bottom_left_hash = true → p.2.kind = 1 ∧ scalarT p.2 = true
  p_bottom_right : ∀ p ∈ ps, seq p.1 s_bottom_right = true → PairP p.2
  t_bottom_right : ∀ p ∈ ps, seq p.1 s_bottom_right_hash = true → p.2.kind = 1 ∧ scalarT p.2 = true
  wkt : ∀ t, lastOf ps s_wkt = some t → scalarT t = true
theorem box_top_left {ps : List (ByteArray × T)} (h : BoxOk ps) : OptSame ((lastOf (jTree (boxJ (lastOf ps s_wkt) (foldC s_top_left s_top_left_hash false ps) (foldC s_top_right s_top_right_hash false ps) (foldC s_bottom_left s_bottom_left_hash true ps) (foldC s_bottom_right s_bottom_right_hash false ps))) s_top_left).map readR) (lastOf (boxL ps) s_top_left) := by
  have hc := corn_same s_top_left s_top_left_hash false (seq_false.2 (by decide)) (fun p hh => ent_top_left p hh) ps (fun _ _ e => by cases e) h.p_top_left h.t_top_left
  cases hw : lastOf ps s_wkt with
  | none =>
    rw [lastB_none]
    rw [show seq s_top_right s_top_left = false from seq_false.2 (by decide)]
    rw [show seq s_bottom_left s_top_left = false from seq_false.2 (by decide)]
    rw [show seq s_bottom_right s_top_left = false from seq_false.2 (by decide)]
    rw [seq_self]
    simpa [Option.map_map, Function.comp_def] using hc
  | some t =>
    rw [lastB_some, show seq s_wkt s_top_left = false from seq_false.2 (by decide)]
    have hn := h.box (by rw [hw]; rfl)
    have h9 : foldC s_top_left s_top_left_hash false ps = none := hasC_none hn.1
    rw [h9] at hc
    simpa using hc
theorem box_top_right {ps : List (ByteArray × T)} (h : BoxOk ps) : OptSame ((lastOf (jTree (boxJ (lastOf ps s_wkt) (foldC s_top_left s_top_left_hash false ps) (foldC s_top_right s_top_right_hash false ps) (foldC s_bottom_left s_bottom_left_hash true ps) (foldC s_bottom_right s_bottom_right_hash false ps))) s_top_right).map readR) (lastOf (boxL ps) s_top_right) := by
  have hc := corn_same s_top_right s_top_right_hash false (seq_false.2 (by decide)) (fun p hh => ent_top_right p hh) ps (fun _ _ e => by cases e) h.p_top_right h.t_top_right
  cases hw : lastOf ps s_wkt with
  | none =>
    rw [lastB_none]
    rw [show seq s_top_left s_top_right = false from seq_false.2 (by decide)]
    rw [show seq s_bottom_left s_top_right = false from seq_false.2 (by decide)]
    rw [show seq s_bottom_right s_top_right = false from seq_false.2 (by decide)]
    rw [seq_self]
    simpa [Option.map_map, Function.comp_def] using hc
  | some t =>
    rw [lastB_some, show seq s_wkt s_top_right = false from seq_false.2 (by decide)]
    have hn := h.box (by rw [hw]; rfl)
    have h9 : foldC s_top_right s_top_right_hash false ps = none := hasC_none hn.2.2.1
    rw [h9] at hc
    simpa using hc
theorem box_bottom_left {ps : List (ByteArray × T)} (h : BoxOk ps) : OptSame ((lastOf (jTree (boxJ (lastOf ps s_wkt) (foldC s_top_left s_top_left_hash false ps) (foldC s_top_right s_top_right_hash false ps) (foldC s_bottom_left s_bottom_left_hash true ps) (foldC s_bottom_right s_bottom_right_hash false ps))) s_bottom_left).map readR) (lastOf (boxL ps) s_bottom_left) := by
  have hc := corn_same s_bottom_left s_bottom_left_hash true (seq_false.2 (by decide)) (fun p hh => ent_bottom_left p hh) ps (fun p hp _ => h.nobl p hp) (fun p hp e => absurd e (by rw [h.nobl p hp]; decide)) h.t_bottom_left
  cases hw : lastOf ps s_wkt with
  | none =>
    rw [lastB_none]
    rw [show seq s_top_left s_bottom_left = false from seq_false.2 (by decide)]
    rw [show seq s_top_right s_bottom_left = false from seq_false.2 (by decide)]
    rw [show seq s_bottom_right s_bottom_left = false from seq_false.2 (by decide)]
    rw [seq_self]
    simpa [Option.map_map, Function.comp_def] using hc
  | some t =>
    rw [lastB_some, show seq s_wkt s_bottom_left = false from seq_false.2 (by decide)]
    have hn := h.box (by rw [hw]; rfl)
    have h9 : foldC s_bottom_left s_bottom_left_hash true ps = none := hasC_none hn.2.2.2
    rw [h9] at hc
    simpa using hc
theorem box_bottom_right {ps : List (ByteArray × T)} (h : BoxOk ps) : OptSame ((lastOf (jTree (boxJ (lastOf ps s_wkt) (foldC s_top_left s_top_left_hash false ps) (foldC s_top_right s_top_right_hash false ps) (foldC s_bottom_left s_bottom_left_hash true ps) (foldC s_bottom_right s_bottom_right_hash false ps))) s_bottom_right).map readR) (lastOf (boxL ps) s_bottom_right) := by
  have hc := corn_same s_bottom_right s_bottom_right_hash false (seq_false.2 (by decide)) (fun p hh => ent_bottom_right p hh) ps (fun _ _ e => by cases e) h.p_bottom_right h.t_bottom_right
  cases hw : lastOf ps s_wkt with
  | none =>
    rw [lastB_none]
    rw [show seq s_top_left s_bottom_right = false from seq_false.2 (by decide)]
    rw [show seq s_top_right s_bottom_right = false from seq_false.2 (by decide)]
    rw [show seq s_bottom_left s_bottom_right = false from seq_false.2 (by decide)]
    rw [seq_self]
    simpa [Option.map_map, Function.comp_def] using hc
  | some t =>
    rw [lastB_some, show seq s_wkt s_bottom_right = false from seq_false.2 (by decide)]
    have hn := h.box (by rw [hw]; rfl)
    have h9 : foldC s_bottom_right s_bottom_right_hash false ps = none := hasC_none hn.2.1
    rw [h9] at hc
    simpa using hc
theorem box_same {ps : List (ByteArray × T)} (h : BoxOk ps) : SameL (readBx cornerN (jTree (boxJ (lastOf ps s_wkt) (foldC s_top_left s_top_left_hash false ps) (foldC s_top_right s_top_right_hash false ps) (foldC s_bottom_left s_bottom_left_hash true ps) (foldC s_bottom_right s_bottom_right_hash false ps)))) (boxL ps) := by
  intro k
  rw [readC_last]
  by_cases e_top_left : s_top_left = k
  · subst e_top_left
    rw [seq_self, show seq s_top_right s_top_left = false from seq_false.2 (by decide), show seq s_bottom_left s_top_left = false from seq_false.2 (by decide), show seq s_bottom_right s_top_left = false from seq_false.2 (by decide)]
    exact box_top_left h
  by_cases e_top_right : s_top_right = k
  · subst e_top_right
    rw [seq_self, show seq s_top_left s_top_right = false from seq_false.2 (by decide), show seq s_bottom_left s_top_right = false from seq_false.2 (by decide), show seq s_bottom_right s_top_right = false from seq_false.2 (by decide)]
    exact box_top_right h
  by_cases e_bottom_left : s_bottom_left = k
  · subst e_bottom_left
    rw [seq_self, show seq s_top_left s_bottom_left = false from seq_false.2 (by decide), show seq s_top_right s_bottom_left = false from seq_false.2 (by decide), show seq s_bottom_right s_bottom_left = false from seq_false.2 (by decide)]
    exact box_bottom_left h
  by_cases e_bottom_right : s_bottom_right = k
  · subst e_bottom_right
    rw [seq_self, show seq s_top_left s_bottom_right = false from seq_false.2 (by decide), show seq s_top_right s_bottom_right = false from seq_false.2 (by decide), show seq s_bottom_left s_bottom_right = false from seq_false.2 (by decide)]
    exact box_bottom_right h
  rw [seq_false.2 e_top_left, seq_false.2 e_top_right, seq_false.2 e_bottom_left, seq_false.2 e_bottom_right]
  simp only [Bool.false_eq_true, if_false]
  by_cases ew : s_wkt = k
  · subst ew
    rw [wkt_last]
    cases hw : lastOf ps s_wkt with
    | none =>
      rw [lastB_none]
      simp [seq_false.2 e_top_left, seq_false.2 e_top_right, seq_false.2 e_bottom_left, seq_false.2 e_bottom_right, OptSame]
    | some t =>
      rw [lastB_some, seq_self]
      exact jOf_same (h.wkt t hw)
  · have h1 : lastOf (boxL ps) k = none := (box_keys ps).none (by
      simp only [cornerN, List.mem_cons, List.not_mem_nil, or_false, not_or]
      exact ⟨fun e => ew e.symm, fun e => e_top_left e.symm, fun e => e_top_right e.symm, fun e => e_bottom_left e.symm, fun e => e_bottom_right e.symm⟩)
    rw [h1]
    cases hw : lastOf ps s_wkt with
    | none =>
      rw [lastB_none]
      simp [seq_false.2 e_top_left, seq_false.2 e_top_right, seq_false.2 e_bottom_left, seq_false.2 e_bottom_right, OptSame]
    | some t =>
      rw [lastB_some, seq_false.2 ew]
      exact trivial
end Go.Proofs.Ytfngaoicoecncaa

namespace Go.Proofs.Ytfngaoicoecncaa
open Go.RowKit

abbrev boxN : List ByteArray := [s_top_left, s_bottom_right, s_top_right, s_top_left_hash, s_bottom_right_hash, s_bottom_left_hash, s_top_right_hash, s_wkt, s_type, s_ignore_unmapped, s_validation_method]
theorem boxL_take {ps : List (ByteArray × T)} {j : Nat} {p : ByteArray × T} (h : ps[j]? = some p) : boxL (ps.take (j + 1)) = boxL (ps.take j) ++ entG p := by
  rw [take_snoc h, boxL_snoc]
theorem hasS_decB (l : List ByteArray) (k : ByteArray) : hasS l k = l.any fun a => decide (a = k) := by
  unfold hasS
  simp only [seq_dec]
theorem ent_corner {p : ByteArray × T} (h : hasS cornerN p.1 = true) (hn : p.1 ∈ boxN) : entG p = [(p.1, ptP p)] := by
  obtain ⟨k, t⟩ := p
  simp only [List.mem_cons, List.not_mem_nil, or_false] at hn
  dsimp only at h ⊢
  unfold entG
  rcases hn with rfl | rfl | rfl | rfl | rfl | rfl | rfl | rfl | rfl | rfl | rfl <;> first
    | (rw [hasS_decB] at h; exact absurd h (by decide))
    | simp [seq_self, seq_dec]
theorem corners_at {w : World} {b : Nat} (h : Box w b #[.string s_top_left, .string s_top_right, .string s_bottom_left, .string s_bottom_right] 9) : StrsAt (fun _ => True) w (some ⟨b, 0, none⟩) 4 4 cornerN := ⟨rfl, by omega, by decide, fun i s hs => by
  match i, hs with
  | 0, hs => simp [cornerN] at hs; subst hs; exact ⟨_, 0, rfl, trivial, h.cell 0 _ rfl⟩
  | 1, hs => simp [cornerN] at hs; subst hs; exact ⟨_, 0, rfl, trivial, h.cell 1 _ rfl⟩
  | 2, hs => simp [cornerN] at hs; subst hs; exact ⟨_, 0, rfl, trivial, h.cell 2 _ rfl⟩
  | 3, hs => simp [cornerN] at hs; subst hs; exact ⟨_, 0, rfl, trivial, h.cell 3 _ rfl⟩⟩
def lastL (ps : List (ByteArray × T)) (k : ByteArray) : List (ByteArray × T) := (lastOf ps k).toList.map fun t => (k, t)
abbrev tellN : List ByteArray := [s_type, s_ignore_unmapped, s_validation_method]
def tellL (ps : List (ByteArray × T)) : List (ByteArray × T) := tellN.flatMap (lastL ps)
set_option maxRecDepth 20000 in
set_option maxHeartbeats 8000000 in
theorem geoB_any {S : Nat → Prop} (f : ByteArray) (a : Option Addr) (n c : Nat) (ps : List (ByteArray × T)) (w : World) (h : PairsAt S w a n c ps) (hb : n ≤ 2147483647) (hN : ∀ p ∈ ps, p.1 ∈ boxN) (hPP : ∀ p ∈ ps, hasS cornerN p.1 = true → PairP p.2) (hSc : ∀ p ∈ ps, hasS cornerN p.1 = false → scalarT p.2 = true) :
    Calls Try.prog 11 #[.string f, .slice a n c] w fun r w' => ∃ g : El, r = .returned g.val ∧ TreeAt (fun _ => True) w' g (mapT [(s_geo_bounding_box, mapT ((f, mapT (boxL ps)) :: tellL ps))]) ∧ Ext w w' := by
  have HPP := Lib.hid hPP
  have HN := Lib.hid hN
  have HSC := Lib.hid hSc
  have hI := h.keep (S' := fun b => b < w.heap.size) (fun _ _ hl => hl) (fun _ _ _ => rfl)
  have HLa := Lib.hid (fun (s : ByteArray) (w' : World) (x : Ext w w') => last_any a n c ps s w' (hI.ext x))
  obtain ⟨hl, hn, hm, hc⟩ := hI
  unfold maxLen at hm
  have HL := Lib.hid hl
  have HC := Lib.hid hc
  clear h hl hc hSc hPP hN
  have hb0 : Box (w.alloc (.cells (El.arr El0) 30)) w.heap.size (El.arr El0) 30 := Box.at rfl _ _
  have hx0 : Ext w (w.alloc (.cells (El.arr El0) 30)) := ext_alloc (ext_refl _) _
  have hs0 : (w.alloc (.cells (El.arr El0) 30)).heap.size = w.heap.size + 1 := by simp
  go_enter Try.func11, Try.ntmps11
  go_wp2_with fail
  go_loopw [5, 6] (fun v i wr => Ext w wr ∧ w.heap.size + 2 ≤ wr.heap.size ∧ Box wr w.heap.size (El.arr El0) 30 ∧ ∃ (j : Nat) (es : List (ByteArray × El)) (vv : Value), vv = v ∧ j ≤ n ∧ i = .int .i64 j ∧ OwnPairs wr (w.heap.size + 1) vv es ∧ es.length ≤ j ∧ Pk (fun b => b ≠ w.heap.size ∧ vv.ownBlock ≠ some b) wr es (boxL (ps.take j))) (fun _ i _ => n - (intOf i).toNat)
  case atStart =>
    exact ⟨by (repeat (first | exact ext_refl _ | assumption | refine ext_alloc ?_ _ | refine ext_drew ?_ | refine ext_set ?_ (by simp) _ | refine ext_trans ?_ (by assumption))), by simp, hb0.alloc _, 0, [], _, rfl, Nat.zero_le _, rfl, ⟨rfl, .inr ⟨w.heap.size + 1, 0, #[], rfl, Nat.le_refl _, Box.at (by simp) _ _, Nat.le_refl _, by simp [maxLen], rfl, rfl⟩⟩, Nat.le_refl _, ⟨rfl, fun _ _ _ h => by simp at h⟩⟩
  case round =>
    obtain ⟨hx, hwr, hbR, j, es, vv, hvv, hj, rfl, hO, hel, hP⟩ := hrel
    subst hvv
    have HO := Lib.hid hO
    have HPk := Lib.hid hP
    have hbk : ∀ q, vv.ownBlock = some q → w.heap.size + 1 ≤ q ∧ q < wr.heap.size := fun q hq => World.ownsRow.lt hO q hq
    clear hO hP
    by_cases hlt : j < n
    case pos =>
      obtain ⟨p, hp⟩ := some_of_lt HL.out hlt
      obtain ⟨b, off, ⟨k, x, d, y, ka, kn, kc, ca, m, cc⟩, rfl, hSb, hc7, hT⟩ := HC.out j p hp
      have hc7 := Cells7.ext hx hc7
      have hTx := Lib.hid (hT.ext hx)
      have hbw : b < w.heap.size := hSb
      have HP0 := Lib.hid hp
      have hpm := List.mem_of_getElem? hp
      have hPr := Lib.hid (HPP.out p hpm)
      have hSr := Lib.hid (HSC.out p hpm)
      have hNr := Lib.hid (HN.out p hpm)
      clear hp hT hpm
      go_upto_region 5 with fail
      refine wp_region_order (fun (w' : World) => Cells7 w' b (off + j * 7) p.1 (⟨k, x, d, y, ka, kn, kc, ca, m, cc⟩ : El)) [0, 1, 2, 3, 4, 5, 6, 7, 8, 9, 11] [0, 1, 2, 3, 4, 5, 6, 7, 8, 9, 10, 11, 12] (by kernel_rfl) (by kernel_rfl) (fun d _ _ _ _ h => by cases d <;> exact h) (by kernel_rfl) ?_
      have hS : (fun (w' : World) => Cells7 w' b (off + j * 7) p.1 (⟨k, x, d, y, ka, kn, kc, ca, m, cc⟩ : El)) wr.drew := hc7
      (apply ord_held rfl rfl (by assumption) rfl; (focus ((intro w' hS'); go_simp; (try with_reducible rfl))); (try simp only [Act.put, List.setIfInBounds_toArray, List.set_cons_zero, List.set_cons_succ]))
      (apply ord_held rfl rfl (by assumption) rfl; (focus ((intro w' hS'); go_simp; (try with_reducible rfl))); (try simp only [Act.put, List.setIfInBounds_toArray, List.set_cons_zero, List.set_cons_succ]))
      (apply ord_held rfl rfl (by assumption) rfl; (focus ((intro w' hS'); go_simp; (try with_reducible rfl))); (try simp only [Act.put, List.setIfInBounds_toArray, List.set_cons_zero, List.set_cons_succ]))
      (apply ord_held rfl rfl (by assumption) rfl; (focus ((intro w' hS'); go_simp; (try with_reducible rfl))); (try simp only [Act.put, List.setIfInBounds_toArray, List.set_cons_zero, List.set_cons_succ]))
      (apply ord_held rfl rfl (by assumption) rfl; (focus ((intro w' hS'); go_simp; (try with_reducible rfl))); (try simp only [Act.put, List.setIfInBounds_toArray, List.set_cons_zero, List.set_cons_succ]))
      (apply ord_held rfl rfl (by assumption) rfl; (focus ((intro w' hS'); go_simp; (try with_reducible rfl))); (try simp only [Act.put, List.setIfInBounds_toArray, List.set_cons_zero, List.set_cons_succ]))
      (apply ord_held rfl rfl (by assumption) rfl; (focus ((intro w' hS'); go_simp; (try with_reducible rfl))); (try simp only [Act.put, List.setIfInBounds_toArray, List.set_cons_zero, List.set_cons_succ]))
      (apply ord_held rfl rfl (by assumption) rfl; (focus ((intro w' hS'); go_simp; (try with_reducible rfl))); (try simp only [Act.put, List.setIfInBounds_toArray, List.set_cons_zero, List.set_cons_succ]))
      (apply ord_held rfl rfl (by assumption) rfl; (focus ((intro w' hS'); go_simp; (try with_reducible rfl))); (try simp only [Act.put, List.setIfInBounds_toArray, List.set_cons_zero, List.set_cons_succ]))
      (apply ord_held rfl rfl (by assumption) rfl; (focus ((intro w' hS'); go_simp; (try with_reducible rfl))); (try simp only [Act.put, List.setIfInBounds_toArray, List.set_cons_zero, List.set_cons_succ]))
      (apply ord_loud rfl rfl rfl; intro K hK; go_simp)
      refine hK _ _ (fun _ => Cells7.ext (ext_drew (ext_alloc (ext_refl wr) _)) hc7) ?_
      clear hK K
      (try simp only [Act.put, List.setIfInBounds_toArray, List.set_cons_zero, List.set_cons_succ])
      have hS : (fun (w' : World) => Cells7 w' b (off + j * 7) p.1 (⟨k, x, d, y, ka, kn, kc, ca, m, cc⟩ : El)) _ := Cells7.ext (ext_drew (ext_alloc (ext_refl wr) (.cells (El.arr El0) 30))) hc7
      (apply ord_held rfl rfl (by assumption) rfl; (focus ((intro w' hS'); go_simp; (try with_reducible rfl))); (try simp only [Act.put, List.setIfInBounds_toArray, List.set_cons_zero, List.set_cons_succ]))
      (apply ord_last rfl rfl rfl (by kernel_rfl); intro K hK; go_simp; refine hK _ _ ?_; clear hK K; (try simp only [Act.put, List.setIfInBounds_toArray, List.set_cons_zero, List.set_cons_succ]))
      refine ord_end ?_
      have hx5 : Ext wr (wr.alloc (.cells (El.arr (⟨k, x, d, y, ka, kn, kc, ca, m, cc⟩ : El)) 30)).drew := ext_drew (ext_alloc (ext_refl wr) _)
      have hb5 : Box (wr.alloc (.cells (El.arr (⟨k, x, d, y, ka, kn, kc, ca, m, cc⟩ : El)) 30)).drew wr.heap.size (El.arr (⟨k, x, d, y, ka, kn, kc, ca, m, cc⟩ : El)) 30 := (Box.at rfl _ _).drew
      have hs5 : wr.heap.size + 1 ≤ (wr.alloc (.cells (El.arr (⟨k, x, d, y, ka, kn, kc, ca, m, cc⟩ : El)) 30)).drew.heap.size := hb5.lt
      clear hS
      generalize (wr.alloc (.cells (El.arr (⟨k, x, d, y, ka, kn, kc, ca, m, cc⟩ : El)) 30)).drew = w5 at hx5 hb5 hs5 ⊢
      cases hk : hasS cornerN p.1 with
      | true =>
        obtain ⟨-, -, pa, pb, hkids, -⟩ := hPr.out hk
        obtain ⟨-, -, -, -, -, hK⟩ := hTx.out.parts
        simp only at hK
        have hm2 : m = 2 := by rw [← hK.1, hkids]; rfl
        obtain ⟨kb, ko, ea, hca, hSk, c0, hTa⟩ := hK.get (show p.2.kids[0]? = some pa by rw [hkids]; rfl)
        obtain ⟨kb', ko', eb, hcb, -, c1, hTb⟩ := hK.get (show p.2.kids[1]? = some pb by rw [hkids]; rfl)
        subst hca
        cases hcb
        rw [Nat.zero_mul, Nat.add_zero] at c0
        rw [Nat.one_mul] at c1
        have hkbw : kb < w.heap.size := hSk
        subst hm2
        clear hK
        have hka : kidT p.2 0 = pa := by unfold kidT; rw [hkids]; rfl
        have hkb : kidT p.2 1 = pb := by unfold kidT; rw [hkids]; rfl
        obtain ⟨e0, e1, e2, e3, e4, e5⟩ := hb5.six
        go_upto_region 7 with (first
          | (go_at_call 45; refine (corners_any _).mono ?_; rintro r wc ⟨rfl, hbc, hxc⟩
             have HH := Lib.hid (has_any (S := fun _ => True) (some ⟨w5.heap.size, 0, none⟩) 4 4 cornerN p.1 wc ⟨rfl, by omega, by decide, fun i s hs => by
               match i, hs with
               | 0, hs => simp [cornerN] at hs; subst hs; exact ⟨_, 0, rfl, trivial, hbc.cell 0 _ rfl⟩
               | 1, hs => simp [cornerN] at hs; subst hs; exact ⟨_, 0, rfl, trivial, hbc.cell 1 _ rfl⟩
               | 2, hs => simp [cornerN] at hs; subst hs; exact ⟨_, 0, rfl, trivial, hbc.cell 2 _ rfl⟩
               | 3, hs => simp [cornerN] at hs; subst hs; exact ⟨_, 0, rfl, trivial, hbc.cell 3 _ rfl⟩⟩))
          | (go_at_call 14; refine HH.out.mono ?_; rintro r wd ⟨rfl, rfl⟩; rw [hk])
          | fail)
        have hx5c : Ext wr wc := ext_trans hx5 hxc
        have hb5c := hb5.ext hxc
        have c0 := CellsAt.ext hx5c c0
        have c1 := CellsAt.ext hx5c c1
        have hs5c := Nat.le_trans hs5 hxc.sz
        have HTa := Lib.hid ((TreeAt.ext hx5c hTa).to (S' := (fun b => b ≠ w.heap.size ∧ vv.ownBlock ≠ some b)) (fun q hq _ => ⟨by have : q < w.heap.size := hq; omega, fun e => by have : q < w.heap.size := hq; have := hbk q e; omega⟩))
        have HTb := Lib.hid ((TreeAt.ext hx5c hTb).to (S' := (fun b => b ≠ w.heap.size ∧ vv.ownBlock ≠ some b)) (fun q hq _ => ⟨by have : q < w.heap.size := hq; omega, fun e => by have : q < w.heap.size := hq; have := hbk q e; omega⟩))
        clear hTa hTb e0 e1 e2 e3 e4 e5 HH hbc
        refine wp_region_order (fun (w' : World) => Six w' wr.heap.size (⟨k, x, d, y, ka, kn, kc, some ⟨kb, ko, none⟩, 2, cc⟩ : El) ∧ CellsAt w' kb ko ea ∧ CellsAt w' kb (ko + 6) eb) [0, 1, 2, 3, 4, 5, 6, 7, 8, 9, 11] [0, 1, 2, 3, 4, 5, 6, 7, 8, 9, 10, 11, 12, 13, 14] (by kernel_rfl) (by kernel_rfl) (fun d _ _ _ _ h => by cases d <;> exact h) (by kernel_rfl) ?_
        have hS : (fun (w' : World) => Six w' wr.heap.size (⟨k, x, d, y, ka, kn, kc, some ⟨kb, ko, none⟩, 2, cc⟩ : El) ∧ CellsAt w' kb ko ea ∧ CellsAt w' kb (ko + 6) eb) wc.drew := ⟨Six.ext (ext_drew (ext_refl wc)) hb5c.Six, CellsAt.ext (ext_drew (ext_refl wc)) c0, CellsAt.ext (ext_drew (ext_refl wc)) c1⟩
        (apply ord_held rfl rfl (by assumption) rfl; (focus ((intro w' hS'); go_simp; (try with_reducible rfl))); (try simp only [Act.put, List.setIfInBounds_toArray, List.set_cons_zero, List.set_cons_succ]))
        (apply ord_held rfl rfl (by assumption) rfl; (focus ((intro w' hS'); go_simp; (try with_reducible rfl))); (try simp only [Act.put, List.setIfInBounds_toArray, List.set_cons_zero, List.set_cons_succ]))
        (apply ord_held rfl rfl (by assumption) rfl; (focus ((intro w' hS'); go_simp; (try with_reducible rfl))); (try simp only [Act.put, List.setIfInBounds_toArray, List.set_cons_zero, List.set_cons_succ]))
        (apply ord_held rfl rfl (by assumption) rfl; (focus ((intro w' hS'); go_simp; (try with_reducible rfl))); (try simp only [Act.put, List.setIfInBounds_toArray, List.set_cons_zero, List.set_cons_succ]))
        (apply ord_held rfl rfl (by assumption) rfl; (focus ((intro w' hS'); go_simp; (try with_reducible rfl))); (try simp only [Act.put, List.setIfInBounds_toArray, List.set_cons_zero, List.set_cons_succ]))
        (apply ord_held rfl rfl (by assumption) rfl; (focus ((intro w' hS'); go_simp; (try with_reducible rfl))); (try simp only [Act.put, List.setIfInBounds_toArray, List.set_cons_zero, List.set_cons_succ]))
        (apply ord_held rfl rfl (by assumption) rfl; (focus ((intro w' hS'); go_simp; (try with_reducible rfl))); (try simp only [Act.put, List.setIfInBounds_toArray, List.set_cons_zero, List.set_cons_succ]))
        (apply ord_held rfl rfl (by assumption) rfl; (focus ((intro w' hS'); go_simp; (try with_reducible rfl))); (try simp only [Act.put, List.setIfInBounds_toArray, List.set_cons_zero, List.set_cons_succ]))
        (apply ord_held rfl rfl (by assumption) rfl; (focus ((intro w' hS'); go_simp; (try with_reducible rfl))); (try simp only [Act.put, List.setIfInBounds_toArray, List.set_cons_zero, List.set_cons_succ]))
        (apply ord_held rfl rfl (by assumption) rfl; (focus ((intro w' hS'); go_simp; (try with_reducible rfl))); (try simp only [Act.put, List.setIfInBounds_toArray, List.set_cons_zero, List.set_cons_succ]))
        (apply ord_loud rfl rfl rfl; intro K hK; go_simp)
        refine (pointT_any (S := (fun b => b ≠ w.heap.size ∧ vv.ownBlock ≠ some b)) ea eb pa pb _ (HTa.out.ext (ext_drew (ext_refl wc))) (HTb.out.ext (ext_drew (ext_refl wc)))).mono ?_
        rintro r w6 ⟨gp, rfl, hTp, hx6⟩
        have hx56 : Ext wc w6 := ext_trans (ext_drew (ext_refl wc)) hx6
        have hTp := Lib.hid (hTp.to (S' := (fun b => b ≠ w.heap.size ∧ vv.ownBlock ≠ some b)) (fun q hq _ => by
          rcases hq with hq | hq
          · exact hq
          · have h8 : wc.heap.size ≤ q := hq
            exact ⟨by omega, fun e => by have := hbk q e; omega⟩))
        have hS : (fun (w' : World) => Six w' wr.heap.size (⟨k, x, d, y, ka, kn, kc, some ⟨kb, ko, none⟩, 2, cc⟩ : El) ∧ CellsAt w' kb ko ea ∧ CellsAt w' kb (ko + 6) eb) w6 := ⟨Six.ext hx56 hb5c.Six, CellsAt.ext hx56 c0, CellsAt.ext hx56 c1⟩
        refine hK _ _ (fun _ => hS) ?_
        clear hK K
        simp only [El.val]
        (try simp only [Act.put, List.setIfInBounds_toArray, List.set_cons_zero, List.set_cons_succ])
        (apply ord_held rfl rfl (by assumption) rfl; (focus ((intro w' hS'); go_simp; (try with_reducible rfl))); (try simp only [Act.put, List.setIfInBounds_toArray, List.set_cons_zero, List.set_cons_succ]))
        (apply ord_loud rfl rfl rfl; intro K hK; go_simp)
        have x3 : Ext w6 (w6.alloc (.cells #[.string p.1, .int .i64 gp.k, .string gp.x, .float .f64 gp.d, .bool gp.y, .slice gp.ka gp.n gp.kc, .slice gp.ca gp.m gp.cc] 69)) := ext_alloc (ext_refl w6) (.cells #[.string p.1, .int .i64 gp.k, .string gp.x, .float .f64 gp.d, .bool gp.y, .slice gp.ka gp.n gp.kc, .slice gp.ca gp.m gp.cc] 69)
        have hbp : Box (w6.alloc (.cells #[.string p.1, .int .i64 gp.k, .string gp.x, .float .f64 gp.d, .bool gp.y, .slice gp.ka gp.n gp.kc, .slice gp.ca gp.m gp.cc] 69)) w6.heap.size #[.string p.1, .int .i64 gp.k, .string gp.x, .float .f64 gp.d, .bool gp.y, .slice gp.ka gp.n gp.kc, .slice gp.ca gp.m gp.cc] 69 := Box.at rfl _ _
        have hx57 := ext_trans hx56 x3
        have hs57 := hx57.sz
        have hS : (fun (w' : World) => Six w' wr.heap.size (⟨k, x, d, y, ka, kn, kc, some ⟨kb, ko, none⟩, 2, cc⟩ : El) ∧ CellsAt w' kb ko ea ∧ CellsAt w' kb (ko + 6) eb) (w6.alloc (.cells #[.string p.1, .int .i64 gp.k, .string gp.x, .float .f64 gp.d, .bool gp.y, .slice gp.ka gp.n gp.kc, .slice gp.ca gp.m gp.cc] 69)) := ⟨Six.ext hx57 hb5c.Six, CellsAt.ext hx57 c0, CellsAt.ext hx57 c1⟩
        refine hK _ _ (fun _ => hS) ?_
        clear hK K
        (try simp only [Act.put, List.setIfInBounds_toArray, List.set_cons_zero, List.set_cons_succ])
        apply ord_loud rfl rfl rfl
        intro K hK
        refine wp_append_pairs _ _ _ rfl (w.heap.size + 1) vv es rfl (HO.out.ext (ext_trans hx5c hx57)) w6.heap.size 0 1 [(p.1, gp)] (by simp) rfl (fun i q hq => ?_) (by simp; omega) (Nat.le_trans (show w.heap.size + 1 ≤ wc.heap.size by omega) hs57) ?_
        · cases i with
          | zero => simp at hq; subst hq; exact ⟨hbp.cell 0 _ rfl, hbp.cell 1 _ rfl, hbp.cell 2 _ rfl, hbp.cell 3 _ rfl, hbp.cell 4 _ rfl, hbp.cell 5 _ rfl, hbp.cell 6 _ rfl⟩
          | succ i => simp at hq
        intro g1 cap1 w8 hown hgrow hlies hglt
        have hkp : Keeps (fun q => q < w.heap.size ∨ vv.ownBlock ≠ some q) _ w8 := keeps_grown hgrow (fun q hq e => by rcases hq with hq | hq; exact absurd (hbk q e.symm).1 (by omega); exact hq e.symm)
        have hS : (fun (w' : World) => Six w' wr.heap.size (⟨k, x, d, y, ka, kn, kc, some ⟨kb, ko, none⟩, 2, cc⟩ : El) ∧ CellsAt w' kb ko ea ∧ CellsAt w' kb (ko + 6) eb) w8 := ⟨Six.keep hkp (.inr fun e => by have := hbk _ e; omega) (Six.ext hx57 hb5c.Six), CellsAt.keep hkp (.inl hkbw) (CellsAt.ext hx57 c0), CellsAt.keep hkp (.inl hkbw) (CellsAt.ext hx57 c1)⟩
        refine hK _ _ (fun _ => hS) ?_
        clear hK K
        (try simp only [Act.put, List.setIfInBounds_toArray, List.set_cons_zero, List.set_cons_succ])
        (apply ord_last rfl rfl rfl (by kernel_rfl); intro K hK; go_simp; refine hK _ _ ?_; clear hK K; (try simp only [Act.put, List.setIfInBounds_toArray, List.set_cons_zero, List.set_cons_succ]))
        refine ord_end ?_
        have hent : entG p = [(p.1, pointT (pa, pb))] := by
          rw [← hka, ← hkb]
          exact ent_corner hk hNr.out
        have hxw8 : Ext w w8 := ext_grown (ext_trans hx (ext_trans hx5c hx57)) hgrow (fun q hq => by have := hbk q hq; omega)
        have hPk8 := Lib.hid (pk_plusG (P := fun b => b ≠ w.heap.size) (g := g1) (cap := cap1) (n := es.length + 1) (k := p.1) (HPk.out.ext (ext_trans hx5c hx57)) (hTp.out.ext x3) hgrow hlies)
        have hbR8 := Lib.hid ((hbR.ext (ext_trans hx5c hx57)).grown hgrow (fun e => by have := hbk _ e.symm; omega))
        have hsz8 : w.heap.size + 2 ≤ w8.heap.size := Nat.le_trans (Nat.le_trans hwr (ext_trans hx5c hx57).sz) hgrow.size
        have HO8 := Lib.hid hown
        clear hgrow hlies hown hS x3 hbp hx57 hx56 hx6 HTa HTb
        go_wp2_with fail
        go_roundw
        case rel => exact ⟨hxw8, hsz8, hbR8.out, j + 1, es ++ [(p.1, gp)], _, rfl, by omega, by go_num, by simpa using HO8.out, by simp; omega, by rw [boxL_take HP0.out, hent]; exact hPk8.out⟩
        case measure => simp [intOf]; omega
      | false =>
        by_cases e_top_left_hash : p.1 = s_top_left_hash
        · rw [e_top_left_hash]
          have hk2 : hasS cornerN s_top_left_hash = false := by rw [← e_top_left_hash]; exact hk
          obtain ⟨e0, e1, e2, e3, e4, e5⟩ := hb5.six
          go_upto_region 9 with (first
            | (go_at_call 45; refine (corners_any _).mono ?_; rintro r wc ⟨rfl, hbc, hxc⟩
               have HH := Lib.hid (has_any (S := fun _ => True) (some ⟨w5.heap.size, 0, none⟩) 4 4 cornerN s_top_left_hash wc (corners_at hbc)))
            | (go_at_call 14; refine HH.out.mono ?_; rintro r wd ⟨rfl, rfl⟩; rw [hk2])
            | (go_at_call 50; refine (hasSuffix_any s_top_left_hash ⟨#[95, 104, 97, 115, 104]⟩ _ (by decide)).mono ?_; rintro r wc ⟨rfl, rfl⟩; rw [show Lib.hasSuffix (s_top_left_hash).data.toList (⟨#[95, 104, 97, 115, 104]⟩ : ByteArray).data.toList = true by decide])
            | fail)
          have hx5c : Ext wr wc := ext_trans hx5 hxc
          have hb5c := hb5.ext hxc
          have hs5c := Nat.le_trans hs5 hxc.sz
          clear e0 e1 e2 e3 e4 e5 HH hbc
          refine wp_region_order (fun (w' : World) => Six w' wr.heap.size (⟨k, x, d, y, ka, kn, kc, ca, m, cc⟩ : El)) [0, 1, 2, 3, 4, 5, 6, 7] [0, 1, 2, 3, 4, 5, 6, 7, 8, 9, 10] (by kernel_rfl) (by kernel_rfl) (fun d _ _ _ _ h => by cases d <;> exact h) (by kernel_rfl) ?_
          have hS : (fun (w' : World) => Six w' wr.heap.size (⟨k, x, d, y, ka, kn, kc, ca, m, cc⟩ : El)) wc.drew := Six.ext (ext_drew (ext_refl wc)) hb5c.Six
          (apply ord_held rfl rfl (by assumption) rfl; (focus ((intro w' hS'); go_simp; (try with_reducible rfl))); (try simp only [Act.put, List.setIfInBounds_toArray, List.set_cons_zero, List.set_cons_succ]))
          (apply ord_held rfl rfl (by assumption) rfl; (focus ((intro w' hS'); go_simp; (try with_reducible rfl))); (try simp only [Act.put, List.setIfInBounds_toArray, List.set_cons_zero, List.set_cons_succ]))
          (apply ord_held rfl rfl (by assumption) rfl; (focus ((intro w' hS'); go_simp; (try with_reducible rfl))); (try simp only [Act.put, List.setIfInBounds_toArray, List.set_cons_zero, List.set_cons_succ]))
          (apply ord_held rfl rfl (by assumption) rfl; (focus ((intro w' hS'); go_simp; (try with_reducible rfl))); (try simp only [Act.put, List.setIfInBounds_toArray, List.set_cons_zero, List.set_cons_succ]))
          (apply ord_held rfl rfl (by assumption) rfl; (focus ((intro w' hS'); go_simp; (try with_reducible rfl))); (try simp only [Act.put, List.setIfInBounds_toArray, List.set_cons_zero, List.set_cons_succ]))
          refine ord_held (v := Value.string s_top_left) rfl rfl hS rfl ?_ ?_
          · intro w' hS'
            go_simp
            rw [if_pos (by decide)]
            rfl
          (try simp only [Act.put, List.setIfInBounds_toArray, List.set_cons_zero, List.set_cons_succ])
          (apply ord_held rfl rfl (by assumption) rfl; (focus ((intro w' hS'); go_simp; (try with_reducible rfl))); (try simp only [Act.put, List.setIfInBounds_toArray, List.set_cons_zero, List.set_cons_succ]))
          (apply ord_held rfl rfl (by assumption) rfl; (focus ((intro w' hS'); go_simp; (try with_reducible rfl))); (try simp only [Act.put, List.setIfInBounds_toArray, List.set_cons_zero, List.set_cons_succ]))
          (apply ord_loud rfl rfl rfl; intro K hK; go_simp)
          have hx57 : Ext wc (wc.alloc (.cells #[.string s_top_left, .int .i64 (⟨k, x, d, y, ka, kn, kc, ca, m, cc⟩ : El).k, .string (⟨k, x, d, y, ka, kn, kc, ca, m, cc⟩ : El).x, .float .f64 (⟨k, x, d, y, ka, kn, kc, ca, m, cc⟩ : El).d, .bool (⟨k, x, d, y, ka, kn, kc, ca, m, cc⟩ : El).y, .slice (⟨k, x, d, y, ka, kn, kc, ca, m, cc⟩ : El).ka (⟨k, x, d, y, ka, kn, kc, ca, m, cc⟩ : El).n (⟨k, x, d, y, ka, kn, kc, ca, m, cc⟩ : El).kc, .slice (⟨k, x, d, y, ka, kn, kc, ca, m, cc⟩ : El).ca (⟨k, x, d, y, ka, kn, kc, ca, m, cc⟩ : El).m (⟨k, x, d, y, ka, kn, kc, ca, m, cc⟩ : El).cc] 69)).drew := ext_drew (ext_alloc (ext_refl wc) _)
          have hs57 := hx57.sz
          have hbp : Box (wc.alloc (.cells #[.string s_top_left, .int .i64 (⟨k, x, d, y, ka, kn, kc, ca, m, cc⟩ : El).k, .string (⟨k, x, d, y, ka, kn, kc, ca, m, cc⟩ : El).x, .float .f64 (⟨k, x, d, y, ka, kn, kc, ca, m, cc⟩ : El).d, .bool (⟨k, x, d, y, ka, kn, kc, ca, m, cc⟩ : El).y, .slice (⟨k, x, d, y, ka, kn, kc, ca, m, cc⟩ : El).ka (⟨k, x, d, y, ka, kn, kc, ca, m, cc⟩ : El).n (⟨k, x, d, y, ka, kn, kc, ca, m, cc⟩ : El).kc, .slice (⟨k, x, d, y, ka, kn, kc, ca, m, cc⟩ : El).ca (⟨k, x, d, y, ka, kn, kc, ca, m, cc⟩ : El).m (⟨k, x, d, y, ka, kn, kc, ca, m, cc⟩ : El).cc] 69)).drew wc.heap.size #[.string s_top_left, .int .i64 (⟨k, x, d, y, ka, kn, kc, ca, m, cc⟩ : El).k, .string (⟨k, x, d, y, ka, kn, kc, ca, m, cc⟩ : El).x, .float .f64 (⟨k, x, d, y, ka, kn, kc, ca, m, cc⟩ : El).d, .bool (⟨k, x, d, y, ka, kn, kc, ca, m, cc⟩ : El).y, .slice (⟨k, x, d, y, ka, kn, kc, ca, m, cc⟩ : El).ka (⟨k, x, d, y, ka, kn, kc, ca, m, cc⟩ : El).n (⟨k, x, d, y, ka, kn, kc, ca, m, cc⟩ : El).kc, .slice (⟨k, x, d, y, ka, kn, kc, ca, m, cc⟩ : El).ca (⟨k, x, d, y, ka, kn, kc, ca, m, cc⟩ : El).m (⟨k, x, d, y, ka, kn, kc, ca, m, cc⟩ : El).cc] 69 := (Box.at rfl _ _).drew
          have hS : (fun (w' : World) => Six w' wr.heap.size (⟨k, x, d, y, ka, kn, kc, ca, m, cc⟩ : El)) (wc.alloc (.cells #[.string s_top_left, .int .i64 (⟨k, x, d, y, ka, kn, kc, ca, m, cc⟩ : El).k, .string (⟨k, x, d, y, ka, kn, kc, ca, m, cc⟩ : El).x, .float .f64 (⟨k, x, d, y, ka, kn, kc, ca, m, cc⟩ : El).d, .bool (⟨k, x, d, y, ka, kn, kc, ca, m, cc⟩ : El).y, .slice (⟨k, x, d, y, ka, kn, kc, ca, m, cc⟩ : El).ka (⟨k, x, d, y, ka, kn, kc, ca, m, cc⟩ : El).n (⟨k, x, d, y, ka, kn, kc, ca, m, cc⟩ : El).kc, .slice (⟨k, x, d, y, ka, kn, kc, ca, m, cc⟩ : El).ca (⟨k, x, d, y, ka, kn, kc, ca, m, cc⟩ : El).m (⟨k, x, d, y, ka, kn, kc, ca, m, cc⟩ : El).cc] 69)).drew := Six.ext hx57 hb5c.Six
          refine hK _ _ (fun _ => hS) ?_
          clear hK K
          (try simp only [Act.put, List.setIfInBounds_toArray, List.set_cons_zero, List.set_cons_succ])
          apply ord_loud rfl rfl rfl
          intro K hK
          refine wp_append_pairs _ _ _ rfl (w.heap.size + 1) vv es rfl (HO.out.ext (ext_trans hx5c hx57)) wc.heap.size 0 1 [(s_top_left, (⟨k, x, d, y, ka, kn, kc, ca, m, cc⟩ : El))] (by simp) rfl (fun i q hq => ?_) (by simp; omega) (Nat.le_trans (show w.heap.size + 1 ≤ wc.heap.size by omega) hs57) ?_
          · cases i with
            | zero => simp at hq; subst hq; exact ⟨hbp.cell 0 _ rfl, hbp.cell 1 _ rfl, hbp.cell 2 _ rfl, hbp.cell 3 _ rfl, hbp.cell 4 _ rfl, hbp.cell 5 _ rfl, hbp.cell 6 _ rfl⟩
            | succ i => simp at hq
          intro g1 cap1 w8 hown hgrow hlies hglt
          have hkp : Keeps (fun q => q < w.heap.size ∨ vv.ownBlock ≠ some q) _ w8 := keeps_grown hgrow (fun q hq e => by rcases hq with hq | hq; exact absurd (hbk q e.symm).1 (by omega); exact hq e.symm)
          have hS : (fun (w' : World) => Six w' wr.heap.size (⟨k, x, d, y, ka, kn, kc, ca, m, cc⟩ : El)) w8 := Six.keep hkp (.inr fun e => by have := hbk _ e; omega) (Six.ext hx57 hb5c.Six)
          refine hK _ _ (fun _ => hS) ?_
          clear hK K
          (try simp only [Act.put, List.setIfInBounds_toArray, List.set_cons_zero, List.set_cons_succ])
          (apply ord_last rfl rfl rfl (by kernel_rfl); intro K hK; go_simp; refine hK _ _ ?_; clear hK K; (try simp only [Act.put, List.setIfInBounds_toArray, List.set_cons_zero, List.set_cons_succ]))
          refine ord_end ?_
          have hent : entG p = [(s_top_left, p.2)] := by
            obtain ⟨pn, pt⟩ := p
            dsimp only at e_top_left_hash ⊢
            subst e_top_left_hash
            simp [entG, seq_self, seq_dec]
          have hxw8 : Ext w w8 := ext_grown (ext_trans hx (ext_trans hx5c hx57)) hgrow (fun q hq => by have := hbk q hq; omega)
          have hTp := Lib.hid (hTx.out.to (S' := (fun b => b ≠ w.heap.size ∧ vv.ownBlock ≠ some b)) (fun q hq _ => ⟨by have : q < w.heap.size := hq; omega, fun e => by have : q < w.heap.size := hq; have := hbk q e; omega⟩))
          have hPk8 := Lib.hid (pk_plusG (P := fun b => b ≠ w.heap.size) (g := g1) (cap := cap1) (n := es.length + 1) (k := s_top_left) (HPk.out.ext (ext_trans hx5c hx57)) (hTp.out.ext (ext_trans hx5c hx57)) hgrow hlies)
          have hbR8 := Lib.hid ((hbR.ext (ext_trans hx5c hx57)).grown hgrow (fun e => by have := hbk _ e.symm; omega))
          have hsz8 : w.heap.size + 2 ≤ w8.heap.size := Nat.le_trans (Nat.le_trans hwr (ext_trans hx5c hx57).sz) hgrow.size
          have HO8 := Lib.hid hown
          clear hgrow hlies hown hbp hx57 hTp
          go_wp2_with fail
          go_roundw
          case rel => exact ⟨hxw8, hsz8, hbR8.out, j + 1, es ++ [(s_top_left, (⟨k, x, d, y, ka, kn, kc, ca, m, cc⟩ : El))], _, rfl, by omega, by go_num, by simpa using HO8.out, by simp; omega, by rw [boxL_take HP0.out, hent]; exact hPk8.out⟩
          case measure => simp [intOf]; omega
        by_cases e_bottom_right_hash : p.1 = s_bottom_right_hash
        · rw [e_bottom_right_hash]
          have hk2 : hasS cornerN s_bottom_right_hash = false := by rw [← e_bottom_right_hash]; exact hk
          obtain ⟨e0, e1, e2, e3, e4, e5⟩ := hb5.six
          go_upto_region 9 with (first
            | (go_at_call 45; refine (corners_any _).mono ?_; rintro r wc ⟨rfl, hbc, hxc⟩
               have HH := Lib.hid (has_any (S := fun _ => True) (some ⟨w5.heap.size, 0, none⟩) 4 4 cornerN s_bottom_right_hash wc (corners_at hbc)))
            | (go_at_call 14; refine HH.out.mono ?_; rintro r wd ⟨rfl, rfl⟩; rw [hk2])
            | (go_at_call 50; refine (hasSuffix_any s_bottom_right_hash ⟨#[95, 104, 97, 115, 104]⟩ _ (by decide)).mono ?_; rintro r wc ⟨rfl, rfl⟩; rw [show Lib.hasSuffix (s_bottom_right_hash).data.toList (⟨#[95, 104, 97, 115, 104]⟩ : ByteArray).data.toList = true by decide])
            | fail)
          have hx5c : Ext wr wc := ext_trans hx5 hxc
          have hb5c := hb5.ext hxc
          have hs5c := Nat.le_trans hs5 hxc.sz
          clear e0 e1 e2 e3 e4 e5 HH hbc
          refine wp_region_order (fun (w' : World) => Six w' wr.heap.size (⟨k, x, d, y, ka, kn, kc, ca, m, cc⟩ : El)) [0, 1, 2, 3, 4, 5, 6, 7] [0, 1, 2, 3, 4, 5, 6, 7, 8, 9, 10] (by kernel_rfl) (by kernel_rfl) (fun d _ _ _ _ h => by cases d <;> exact h) (by kernel_rfl) ?_
          have hS : (fun (w' : World) => Six w' wr.heap.size (⟨k, x, d, y, ka, kn, kc, ca, m, cc⟩ : El)) wc.drew := Six.ext (ext_drew (ext_refl wc)) hb5c.Six
          (apply ord_held rfl rfl (by assumption) rfl; (focus ((intro w' hS'); go_simp; (try with_reducible rfl))); (try simp only [Act.put, List.setIfInBounds_toArray, List.set_cons_zero, List.set_cons_succ]))
          (apply ord_held rfl rfl (by assumption) rfl; (focus ((intro w' hS'); go_simp; (try with_reducible rfl))); (try simp only [Act.put, List.setIfInBounds_toArray, List.set_cons_zero, List.set_cons_succ]))
          (apply ord_held rfl rfl (by assumption) rfl; (focus ((intro w' hS'); go_simp; (try with_reducible rfl))); (try simp only [Act.put, List.setIfInBounds_toArray, List.set_cons_zero, List.set_cons_succ]))
          (apply ord_held rfl rfl (by assumption) rfl; (focus ((intro w' hS'); go_simp; (try with_reducible rfl))); (try simp only [Act.put, List.setIfInBounds_toArray, List.set_cons_zero, List.set_cons_succ]))
          (apply ord_held rfl rfl (by assumption) rfl; (focus ((intro w' hS'); go_simp; (try with_reducible rfl))); (try simp only [Act.put, List.setIfInBounds_toArray, List.set_cons_zero, List.set_cons_succ]))
          refine ord_held (v := Value.string s_bottom_right) rfl rfl hS rfl ?_ ?_
          · intro w' hS'
            go_simp
            rw [if_pos (by decide)]
            rfl
          (try simp only [Act.put, List.setIfInBounds_toArray, List.set_cons_zero, List.set_cons_succ])
          (apply ord_held rfl rfl (by assumption) rfl; (focus ((intro w' hS'); go_simp; (try with_reducible rfl))); (try simp only [Act.put, List.setIfInBounds_toArray, List.set_cons_zero, List.set_cons_succ]))
          (apply ord_held rfl rfl (by assumption) rfl; (focus ((intro w' hS'); go_simp; (try with_reducible rfl))); (try simp only [Act.put, List.setIfInBounds_toArray, List.set_cons_zero, List.set_cons_succ]))
          (apply ord_loud rfl rfl rfl; intro K hK; go_simp)
          have hx57 : Ext wc (wc.alloc (.cells #[.string s_bottom_right, .int .i64 (⟨k, x, d, y, ka, kn, kc, ca, m, cc⟩ : El).k, .string (⟨k, x, d, y, ka, kn, kc, ca, m, cc⟩ : El).x, .float .f64 (⟨k, x, d, y, ka, kn, kc, ca, m, cc⟩ : El).d, .bool (⟨k, x, d, y, ka, kn, kc, ca, m, cc⟩ : El).y, .slice (⟨k, x, d, y, ka, kn, kc, ca, m, cc⟩ : El).ka (⟨k, x, d, y, ka, kn, kc, ca, m, cc⟩ : El).n (⟨k, x, d, y, ka, kn, kc, ca, m, cc⟩ : El).kc, .slice (⟨k, x, d, y, ka, kn, kc, ca, m, cc⟩ : El).ca (⟨k, x, d, y, ka, kn, kc, ca, m, cc⟩ : El).m (⟨k, x, d, y, ka, kn, kc, ca, m, cc⟩ : El).cc] 69)).drew := ext_drew (ext_alloc (ext_refl wc) _)
          have hs57 := hx57.sz
          have hbp : Box (wc.alloc (.cells #[.string s_bottom_right, .int .i64 (⟨k, x, d, y, ka, kn, kc, ca, m, cc⟩ : El).k, .string (⟨k, x, d, y, ka, kn, kc, ca, m, cc⟩ : El).x, .float .f64 (⟨k, x, d, y, ka, kn, kc, ca, m, cc⟩ : El).d, .bool (⟨k, x, d, y, ka, kn, kc, ca, m, cc⟩ : El).y, .slice (⟨k, x, d, y, ka, kn, kc, ca, m, cc⟩ : El).ka (⟨k, x, d, y, ka, kn, kc, ca, m, cc⟩ : El).n (⟨k, x, d, y, ka, kn, kc, ca, m, cc⟩ : El).kc, .slice (⟨k, x, d, y, ka, kn, kc, ca, m, cc⟩ : El).ca (⟨k, x, d, y, ka, kn, kc, ca, m, cc⟩ : El).m (⟨k, x, d, y, ka, kn, kc, ca, m, cc⟩ : El).cc] 69)).drew wc.heap.size #[.string s_bottom_right, .int .i64 (⟨k, x, d, y, ka, kn, kc, ca, m, cc⟩ : El).k, .string (⟨k, x, d, y, ka, kn, kc, ca, m, cc⟩ : El).x, .float .f64 (⟨k, x, d, y, ka, kn, kc, ca, m, cc⟩ : El).d, .bool (⟨k, x, d, y, ka, kn, kc, ca, m, cc⟩ : El).y, .slice (⟨k, x, d, y, ka, kn, kc, ca, m, cc⟩ : El).ka (⟨k, x, d, y, ka, kn, kc, ca, m, cc⟩ : El).n (⟨k, x, d, y, ka, kn, kc, ca, m, cc⟩ : El).kc, .slice (⟨k, x, d, y, ka, kn, kc, ca, m, cc⟩ : El).ca (⟨k, x, d, y, ka, kn, kc, ca, m, cc⟩ : El).m (⟨k, x, d, y, ka, kn, kc, ca, m, cc⟩ : El).cc] 69 := (Box.at rfl _ _).drew
          have hS : (fun (w' : World) => Six w' wr.heap.size (⟨k, x, d, y, ka, kn, kc, ca, m, cc⟩ : El)) (wc.alloc (.cells #[.string s_bottom_right, .int .i64 (⟨k, x, d, y, ka, kn, kc, ca, m, cc⟩ : El).k, .string (⟨k, x, d, y, ka, kn, kc, ca, m, cc⟩ : El).x, .float .f64 (⟨k, x, d, y, ka, kn, kc, ca, m, cc⟩ : El).d, .bool (⟨k, x, d, y, ka, kn, kc, ca, m, cc⟩ : El).y, .slice (⟨k, x, d, y, ka, kn, kc, ca, m, cc⟩ : El).ka (⟨k, x, d, y, ka, kn, kc, ca, m, cc⟩ : El).n (⟨k, x, d, y, ka, kn, kc, ca, m, cc⟩ : El).kc, .slice (⟨k, x, d, y, ka, kn, kc, ca, m, cc⟩ : El).ca (⟨k, x, d, y, ka, kn, kc, ca, m, cc⟩ : El).m (⟨k, x, d, y, ka, kn, kc, ca, m, cc⟩ : El).cc] 69)).drew := Six.ext hx57 hb5c.Six
          refine hK _ _ (fun _ => hS) ?_
          clear hK K
          (try simp only [Act.put, List.setIfInBounds_toArray, List.set_cons_zero, List.set_cons_succ])
          apply ord_loud rfl rfl rfl
          intro K hK
          refine wp_append_pairs _ _ _ rfl (w.heap.size + 1) vv es rfl (HO.out.ext (ext_trans hx5c hx57)) wc.heap.size 0 1 [(s_bottom_right, (⟨k, x, d, y, ka, kn, kc, ca, m, cc⟩ : El))] (by simp) rfl (fun i q hq => ?_) (by simp; omega) (Nat.le_trans (show w.heap.size + 1 ≤ wc.heap.size by omega) hs57) ?_
          · cases i with
            | zero => simp at hq; subst hq; exact ⟨hbp.cell 0 _ rfl, hbp.cell 1 _ rfl, hbp.cell 2 _ rfl, hbp.cell 3 _ rfl, hbp.cell 4 _ rfl, hbp.cell 5 _ rfl, hbp.cell 6 _ rfl⟩
            | succ i => simp at hq
          intro g1 cap1 w8 hown hgrow hlies hglt
          have hkp : Keeps (fun q => q < w.heap.size ∨ vv.ownBlock ≠ some q) _ w8 := keeps_grown hgrow (fun q hq e => by rcases hq with hq | hq; exact absurd (hbk q e.symm).1 (by omega); exact hq e.symm)
          have hS : (fun (w' : World) => Six w' wr.heap.size (⟨k, x, d, y, ka, kn, kc, ca, m, cc⟩ : El)) w8 := Six.keep hkp (.inr fun e => by have := hbk _ e; omega) (Six.ext hx57 hb5c.Six)
          refine hK _ _ (fun _ => hS) ?_
          clear hK K
          (try simp only [Act.put, List.setIfInBounds_toArray, List.set_cons_zero, List.set_cons_succ])
          (apply ord_last rfl rfl rfl (by kernel_rfl); intro K hK; go_simp; refine hK _ _ ?_; clear hK K; (try simp only [Act.put, List.setIfInBounds_toArray, List.set_cons_zero, List.set_cons_succ]))
          refine ord_end ?_
          have hent : entG p = [(s_bottom_right, p.2)] := by
            obtain ⟨pn, pt⟩ := p
            dsimp only at e_bottom_right_hash ⊢
            subst e_bottom_right_hash
            simp [entG, seq_self, seq_dec]
          have hxw8 : Ext w w8 := ext_grown (ext_trans hx (ext_trans hx5c hx57)) hgrow (fun q hq => by have := hbk q hq; omega)
          have hTp := Lib.hid (hTx.out.to (S' := (fun b => b ≠ w.heap.size ∧ vv.ownBlock ≠ some b)) (fun q hq _ => ⟨by have : q < w.heap.size := hq; omega, fun e => by have : q < w.heap.size := hq; have := hbk q e; omega⟩))
          have hPk8 := Lib.hid (pk_plusG (P := fun b => b ≠ w.heap.size) (g := g1) (cap := cap1) (n := es.length + 1) (k := s_bottom_right) (HPk.out.ext (ext_trans hx5c hx57)) (hTp.out.ext (ext_trans hx5c hx57)) hgrow hlies)
          have hbR8 := Lib.hid ((hbR.ext (ext_trans hx5c hx57)).grown hgrow (fun e => by have := hbk _ e.symm; omega))
          have hsz8 : w.heap.size + 2 ≤ w8.heap.size := Nat.le_trans (Nat.le_trans hwr (ext_trans hx5c hx57).sz) hgrow.size
          have HO8 := Lib.hid hown
          clear hgrow hlies hown hbp hx57 hTp
          go_wp2_with fail
          go_roundw
          case rel => exact ⟨hxw8, hsz8, hbR8.out, j + 1, es ++ [(s_bottom_right, (⟨k, x, d, y, ka, kn, kc, ca, m, cc⟩ : El))], _, rfl, by omega, by go_num, by simpa using HO8.out, by simp; omega, by rw [boxL_take HP0.out, hent]; exact hPk8.out⟩
          case measure => simp [intOf]; omega
        by_cases e_bottom_left_hash : p.1 = s_bottom_left_hash
        · rw [e_bottom_left_hash]
          have hk2 : hasS cornerN s_bottom_left_hash = false := by rw [← e_bottom_left_hash]; exact hk
          obtain ⟨e0, e1, e2, e3, e4, e5⟩ := hb5.six
          go_upto_region 9 with (first
            | (go_at_call 45; refine (corners_any _).mono ?_; rintro r wc ⟨rfl, hbc, hxc⟩
               have HH := Lib.hid (has_any (S := fun _ => True) (some ⟨w5.heap.size, 0, none⟩) 4 4 cornerN s_bottom_left_hash wc (corners_at hbc)))
            | (go_at_call 14; refine HH.out.mono ?_; rintro r wd ⟨rfl, rfl⟩; rw [hk2])
            | (go_at_call 50; refine (hasSuffix_any s_bottom_left_hash ⟨#[95, 104, 97, 115, 104]⟩ _ (by decide)).mono ?_; rintro r wc ⟨rfl, rfl⟩; rw [show Lib.hasSuffix (s_bottom_left_hash).data.toList (⟨#[95, 104, 97, 115, 104]⟩ : ByteArray).data.toList = true by decide])
            | fail)
          have hx5c : Ext wr wc := ext_trans hx5 hxc
          have hb5c := hb5.ext hxc
          have hs5c := Nat.le_trans hs5 hxc.sz
          clear e0 e1 e2 e3 e4 e5 HH hbc
          refine wp_region_order (fun (w' : World) => Six w' wr.heap.size (⟨k, x, d, y, ka, kn, kc, ca, m, cc⟩ : El)) [0, 1, 2, 3, 4, 5, 6, 7] [0, 1, 2, 3, 4, 5, 6, 7, 8, 9, 10] (by kernel_rfl) (by kernel_rfl) (fun d _ _ _ _ h => by cases d <;> exact h) (by kernel_rfl) ?_
          have hS : (fun (w' : World) => Six w' wr.heap.size (⟨k, x, d, y, ka, kn, kc, ca, m, cc⟩ : El)) wc.drew := Six.ext (ext_drew (ext_refl wc)) hb5c.Six
          (apply ord_held rfl rfl (by assumption) rfl; (focus ((intro w' hS'); go_simp; (try with_reducible rfl))); (try simp only [Act.put, List.setIfInBounds_toArray, List.set_cons_zero, List.set_cons_succ]))
          (apply ord_held rfl rfl (by assumption) rfl; (focus ((intro w' hS'); go_simp; (try with_reducible rfl))); (try simp only [Act.put, List.setIfInBounds_toArray, List.set_cons_zero, List.set_cons_succ]))
          (apply ord_held rfl rfl (by assumption) rfl; (focus ((intro w' hS'); go_simp; (try with_reducible rfl))); (try simp only [Act.put, List.setIfInBounds_toArray, List.set_cons_zero, List.set_cons_succ]))
          (apply ord_held rfl rfl (by assumption) rfl; (focus ((intro w' hS'); go_simp; (try with_reducible rfl))); (try simp only [Act.put, List.setIfInBounds_toArray, List.set_cons_zero, List.set_cons_succ]))
          (apply ord_held rfl rfl (by assumption) rfl; (focus ((intro w' hS'); go_simp; (try with_reducible rfl))); (try simp only [Act.put, List.setIfInBounds_toArray, List.set_cons_zero, List.set_cons_succ]))
          refine ord_held (v := Value.string s_bottom_left) rfl rfl hS rfl ?_ ?_
          · intro w' hS'
            go_simp
            rw [if_pos (by decide)]
            rfl
          (try simp only [Act.put, List.setIfInBounds_toArray, List.set_cons_zero, List.set_cons_succ])
          (apply ord_held rfl rfl (by assumption) rfl; (focus ((intro w' hS'); go_simp; (try with_reducible rfl))); (try simp only [Act.put, List.setIfInBounds_toArray, List.set_cons_zero, List.set_cons_succ]))
          (apply ord_held rfl rfl (by assumption) rfl; (focus ((intro w' hS'); go_simp; (try with_reducible rfl))); (try simp only [Act.put, List.setIfInBounds_toArray, List.set_cons_zero, List.set_cons_succ]))
          (apply ord_loud rfl rfl rfl; intro K hK; go_simp)
          have hx57 : Ext wc (wc.alloc (.cells #[.string s_bottom_left, .int .i64 (⟨k, x, d, y, ka, kn, kc, ca, m, cc⟩ : El).k, .string (⟨k, x, d, y, ka, kn, kc, ca, m, cc⟩ : El).x, .float .f64 (⟨k, x, d, y, ka, kn, kc, ca, m, cc⟩ : El).d, .bool (⟨k, x, d, y, ka, kn, kc, ca, m, cc⟩ : El).y, .slice (⟨k, x, d, y, ka, kn, kc, ca, m, cc⟩ : El).ka (⟨k, x, d, y, ka, kn, kc, ca, m, cc⟩ : El).n (⟨k, x, d, y, ka, kn, kc, ca, m, cc⟩ : El).kc, .slice (⟨k, x, d, y, ka, kn, kc, ca, m, cc⟩ : El).ca (⟨k, x, d, y, ka, kn, kc, ca, m, cc⟩ : El).m (⟨k, x, d, y, ka, kn, kc, ca, m, cc⟩ : El).cc] 69)).drew := ext_drew (ext_alloc (ext_refl wc) _)
          have hs57 := hx57.sz
          have hbp : Box (wc.alloc (.cells #[.string s_bottom_left, .int .i64 (⟨k, x, d, y, ka, kn, kc, ca, m, cc⟩ : El).k, .string (⟨k, x, d, y, ka, kn, kc, ca, m, cc⟩ : El).x, .float .f64 (⟨k, x, d, y, ka, kn, kc, ca, m, cc⟩ : El).d, .bool (⟨k, x, d, y, ka, kn, kc, ca, m, cc⟩ : El).y, .slice (⟨k, x, d, y, ka, kn, kc, ca, m, cc⟩ : El).ka (⟨k, x, d, y, ka, kn, kc, ca, m, cc⟩ : El).n (⟨k, x, d, y, ka, kn, kc, ca, m, cc⟩ : El).kc, .slice (⟨k, x, d, y, ka, kn, kc, ca, m, cc⟩ : El).ca (⟨k, x, d, y, ka, kn, kc, ca, m, cc⟩ : El).m (⟨k, x, d, y, ka, kn, kc, ca, m, cc⟩ : El).cc] 69)).drew wc.heap.size #[.string s_bottom_left, .int .i64 (⟨k, x, d, y, ka, kn, kc, ca, m, cc⟩ : El).k, .string (⟨k, x, d, y, ka, kn, kc, ca, m, cc⟩ : El).x, .float .f64 (⟨k, x, d, y, ka, kn, kc, ca, m, cc⟩ : El).d, .bool (⟨k, x, d, y, ka, kn, kc, ca, m, cc⟩ : El).y, .slice (⟨k, x, d, y, ka, kn, kc, ca, m, cc⟩ : El).ka (⟨k, x, d, y, ka, kn, kc, ca, m, cc⟩ : El).n (⟨k, x, d, y, ka, kn, kc, ca, m, cc⟩ : El).kc, .slice (⟨k, x, d, y, ka, kn, kc, ca, m, cc⟩ : El).ca (⟨k, x, d, y, ka, kn, kc, ca, m, cc⟩ : El).m (⟨k, x, d, y, ka, kn, kc, ca, m, cc⟩ : El).cc] 69 := (Box.at rfl _ _).drew
          have hS : (fun (w' : World) => Six w' wr.heap.size (⟨k, x, d, y, ka, kn, kc, ca, m, cc⟩ : El)) (wc.alloc (.cells #[.string s_bottom_left, .int .i64 (⟨k, x, d, y, ka, kn, kc, ca, m, cc⟩ : El).k, .string (⟨k, x, d, y, ka, kn, kc, ca, m, cc⟩ : El).x, .float .f64 (⟨k, x, d, y, ka, kn, kc, ca, m, cc⟩ : El).d, .bool (⟨k, x, d, y, ka, kn, kc, ca, m, cc⟩ : El).y, .slice (⟨k, x, d, y, ka, kn, kc, ca, m, cc⟩ : El).ka (⟨k, x, d, y, ka, kn, kc, ca, m, cc⟩ : El).n (⟨k, x, d, y, ka, kn, kc, ca, m, cc⟩ : El).kc, .slice (⟨k, x, d, y, ka, kn, kc, ca, m, cc⟩ : El).ca (⟨k, x, d, y, ka, kn, kc, ca, m, cc⟩ : El).m (⟨k, x, d, y, ka, kn, kc, ca, m, cc⟩ : El).cc] 69)).drew := Six.ext hx57 hb5c.Six
          refine hK _ _ (fun _ => hS) ?_
          clear hK K
          (try simp only [Act.put, List.setIfInBounds_toArray, List.set_cons_zero, List.set_cons_succ])
          apply ord_loud rfl rfl rfl
          intro K hK
          refine wp_append_pairs _ _ _ rfl (w.heap.size + 1) vv es rfl (HO.out.ext (ext_trans hx5c hx57)) wc.heap.size 0 1 [(s_bottom_left, (⟨k, x, d, y, ka, kn, kc, ca, m, cc⟩ : El))] (by simp) rfl (fun i q hq => ?_) (by simp; omega) (Nat.le_trans (show w.heap.size + 1 ≤ wc.heap.size by omega) hs57) ?_
          · cases i with
            | zero => simp at hq; subst hq; exact ⟨hbp.cell 0 _ rfl, hbp.cell 1 _ rfl, hbp.cell 2 _ rfl, hbp.cell 3 _ rfl, hbp.cell 4 _ rfl, hbp.cell 5 _ rfl, hbp.cell 6 _ rfl⟩
            | succ i => simp at hq
          intro g1 cap1 w8 hown hgrow hlies hglt
          have hkp : Keeps (fun q => q < w.heap.size ∨ vv.ownBlock ≠ some q) _ w8 := keeps_grown hgrow (fun q hq e => by rcases hq with hq | hq; exact absurd (hbk q e.symm).1 (by omega); exact hq e.symm)
          have hS : (fun (w' : World) => Six w' wr.heap.size (⟨k, x, d, y, ka, kn, kc, ca, m, cc⟩ : El)) w8 := Six.keep hkp (.inr fun e => by have := hbk _ e; omega) (Six.ext hx57 hb5c.Six)
          refine hK _ _ (fun _ => hS) ?_
          clear hK K
          (try simp only [Act.put, List.setIfInBounds_toArray, List.set_cons_zero, List.set_cons_succ])
          (apply ord_last rfl rfl rfl (by kernel_rfl); intro K hK; go_simp; refine hK _ _ ?_; clear hK K; (try simp only [Act.put, List.setIfInBounds_toArray, List.set_cons_zero, List.set_cons_succ]))
          refine ord_end ?_
          have hent : entG p = [(s_bottom_left, p.2)] := by
            obtain ⟨pn, pt⟩ := p
            dsimp only at e_bottom_left_hash ⊢
            subst e_bottom_left_hash
            simp [entG, seq_self, seq_dec]
          have hxw8 : Ext w w8 := ext_grown (ext_trans hx (ext_trans hx5c hx57)) hgrow (fun q hq => by have := hbk q hq; omega)
          have hTp := Lib.hid (hTx.out.to (S' := (fun b => b ≠ w.heap.size ∧ vv.ownBlock ≠ some b)) (fun q hq _ => ⟨by have : q < w.heap.size := hq; omega, fun e => by have : q < w.heap.size := hq; have := hbk q e; omega⟩))
          have hPk8 := Lib.hid (pk_plusG (P := fun b => b ≠ w.heap.size) (g := g1) (cap := cap1) (n := es.length + 1) (k := s_bottom_left) (HPk.out.ext (ext_trans hx5c hx57)) (hTp.out.ext (ext_trans hx5c hx57)) hgrow hlies)
          have hbR8 := Lib.hid ((hbR.ext (ext_trans hx5c hx57)).grown hgrow (fun e => by have := hbk _ e.symm; omega))
          have hsz8 : w.heap.size + 2 ≤ w8.heap.size := Nat.le_trans (Nat.le_trans hwr (ext_trans hx5c hx57).sz) hgrow.size
          have HO8 := Lib.hid hown
          clear hgrow hlies hown hbp hx57 hTp
          go_wp2_with fail
          go_roundw
          case rel => exact ⟨hxw8, hsz8, hbR8.out, j + 1, es ++ [(s_bottom_left, (⟨k, x, d, y, ka, kn, kc, ca, m, cc⟩ : El))], _, rfl, by omega, by go_num, by simpa using HO8.out, by simp; omega, by rw [boxL_take HP0.out, hent]; exact hPk8.out⟩
          case measure => simp [intOf]; omega
        by_cases e_top_right_hash : p.1 = s_top_right_hash
        · rw [e_top_right_hash]
          have hk2 : hasS cornerN s_top_right_hash = false := by rw [← e_top_right_hash]; exact hk
          obtain ⟨e0, e1, e2, e3, e4, e5⟩ := hb5.six
          go_upto_region 9 with (first
            | (go_at_call 45; refine (corners_any _).mono ?_; rintro r wc ⟨rfl, hbc, hxc⟩
               have HH := Lib.hid (has_any (S := fun _ => True) (some ⟨w5.heap.size, 0, none⟩) 4 4 cornerN s_top_right_hash wc (corners_at hbc)))
            | (go_at_call 14; refine HH.out.mono ?_; rintro r wd ⟨rfl, rfl⟩; rw [hk2])
            | (go_at_call 50; refine (hasSuffix_any s_top_right_hash ⟨#[95, 104, 97, 115, 104]⟩ _ (by decide)).mono ?_; rintro r wc ⟨rfl, rfl⟩; rw [show Lib.hasSuffix (s_top_right_hash).data.toList (⟨#[95, 104, 97, 115, 104]⟩ : ByteArray).data.toList = true by decide])
            | fail)
          have hx5c : Ext wr wc := ext_trans hx5 hxc
          have hb5c := hb5.ext hxc
          have hs5c := Nat.le_trans hs5 hxc.sz
          clear e0 e1 e2 e3 e4 e5 HH hbc
          refine wp_region_order (fun (w' : World) => Six w' wr.heap.size (⟨k, x, d, y, ka, kn, kc, ca, m, cc⟩ : El)) [0, 1, 2, 3, 4, 5, 6, 7] [0, 1, 2, 3, 4, 5, 6, 7, 8, 9, 10] (by kernel_rfl) (by kernel_rfl) (fun d _ _ _ _ h => by cases d <;> exact h) (by kernel_rfl) ?_
          have hS : (fun (w' : World) => Six w' wr.heap.size (⟨k, x, d, y, ka, kn, kc, ca, m, cc⟩ : El)) wc.drew := Six.ext (ext_drew (ext_refl wc)) hb5c.Six
          (apply ord_held rfl rfl (by assumption) rfl; (focus ((intro w' hS'); go_simp; (try with_reducible rfl))); (try simp only [Act.put, List.setIfInBounds_toArray, List.set_cons_zero, List.set_cons_succ]))
          (apply ord_held rfl rfl (by assumption) rfl; (focus ((intro w' hS'); go_simp; (try with_reducible rfl))); (try simp only [Act.put, List.setIfInBounds_toArray, List.set_cons_zero, List.set_cons_succ]))
          (apply ord_held rfl rfl (by assumption) rfl; (focus ((intro w' hS'); go_simp; (try with_reducible rfl))); (try simp only [Act.put, List.setIfInBounds_toArray, List.set_cons_zero, List.set_cons_succ]))
          (apply ord_held rfl rfl (by assumption) rfl; (focus ((intro w' hS'); go_simp; (try with_reducible rfl))); (try simp only [Act.put, List.setIfInBounds_toArray, List.set_cons_zero, List.set_cons_succ]))
          (apply ord_held rfl rfl (by assumption) rfl; (focus ((intro w' hS'); go_simp; (try with_reducible rfl))); (try simp only [Act.put, List.setIfInBounds_toArray, List.set_cons_zero, List.set_cons_succ]))
          refine ord_held (v := Value.string s_top_right) rfl rfl hS rfl ?_ ?_
          · intro w' hS'
            go_simp
            rw [if_pos (by decide)]
            rfl
          (try simp only [Act.put, List.setIfInBounds_toArray, List.set_cons_zero, List.set_cons_succ])
          (apply ord_held rfl rfl (by assumption) rfl; (focus ((intro w' hS'); go_simp; (try with_reducible rfl))); (try simp only [Act.put, List.setIfInBounds_toArray, List.set_cons_zero, List.set_cons_succ]))
          (apply ord_held rfl rfl (by assumption) rfl; (focus ((intro w' hS'); go_simp; (try with_reducible rfl))); (try simp only [Act.put, List.setIfInBounds_toArray, List.set_cons_zero, List.set_cons_succ]))
          (apply ord_loud rfl rfl rfl; intro K hK; go_simp)
          have hx57 : Ext wc (wc.alloc (.cells #[.string s_top_right, .int .i64 (⟨k, x, d, y, ka, kn, kc, ca, m, cc⟩ : El).k, .string (⟨k, x, d, y, ka, kn, kc, ca, m, cc⟩ : El).x, .float .f64 (⟨k, x, d, y, ka, kn, kc, ca, m, cc⟩ : El).d, .bool (⟨k, x, d, y, ka, kn, kc, ca, m, cc⟩ : El).y, .slice (⟨k, x, d, y, ka, kn, kc, ca, m, cc⟩ : El).ka (⟨k, x, d, y, ka, kn, kc, ca, m, cc⟩ : El).n (⟨k, x, d, y, ka, kn, kc, ca, m, cc⟩ : El).kc, .slice (⟨k, x, d, y, ka, kn, kc, ca, m, cc⟩ : El).ca (⟨k, x, d, y, ka, kn, kc, ca, m, cc⟩ : El).m (⟨k, x, d, y, ka, kn, kc, ca, m, cc⟩ : El).cc] 69)).drew := ext_drew (ext_alloc (ext_refl wc) _)
          have hs57 := hx57.sz
          have hbp : Box (wc.alloc (.cells #[.string s_top_right, .int .i64 (⟨k, x, d, y, ka, kn, kc, ca, m, cc⟩ : El).k, .string (⟨k, x, d, y, ka, kn, kc, ca, m, cc⟩ : El).x, .float .f64 (⟨k, x, d, y, ka, kn, kc, ca, m, cc⟩ : El).d, .bool (⟨k, x, d, y, ka, kn, kc, ca, m, cc⟩ : El).y, .slice (⟨k, x, d, y, ka, kn, kc, ca, m, cc⟩ : El).ka (⟨k, x, d, y, ka, kn, kc, ca, m, cc⟩ : El).n (⟨k, x, d, y, ka, kn, kc, ca, m, cc⟩ : El).kc, .slice (⟨k, x, d, y, ka, kn, kc, ca, m, cc⟩ : El).ca (⟨k, x, d, y, ka, kn, kc, ca, m, cc⟩ : El).m (⟨k, x, d, y, ka, kn, kc, ca, m, cc⟩ : El).cc] 69)).drew wc.heap.size #[.string s_top_right, .int .i64 (⟨k, x, d, y, ka, kn, kc, ca, m, cc⟩ : El).k, .string (⟨k, x, d, y, ka, kn, kc, ca, m, cc⟩ : El).x, .float .f64 (⟨k, x, d, y, ka, kn, kc, ca, m, cc⟩ : El).d, .bool (⟨k, x, d, y, ka, kn, kc, ca, m, cc⟩ : El).y, .slice (⟨k, x, d, y, ka, kn, kc, ca, m, cc⟩ : El).ka (⟨k, x, d, y, ka, kn, kc, ca, m, cc⟩ : El).n (⟨k, x, d, y, ka, kn, kc, ca, m, cc⟩ : El).kc, .slice (⟨k, x, d, y, ka, kn, kc, ca, m, cc⟩ : El).ca (⟨k, x, d, y, ka, kn, kc, ca, m, cc⟩ : El).m (⟨k, x, d, y, ka, kn, kc, ca, m, cc⟩ : El).cc] 69 := (Box.at rfl _ _).drew
          have hS : (fun (w' : World) => Six w' wr.heap.size (⟨k, x, d, y, ka, kn, kc, ca, m, cc⟩ : El)) (wc.alloc (.cells #[.string s_top_right, .int .i64 (⟨k, x, d, y, ka, kn, kc, ca, m, cc⟩ : El).k, .string (⟨k, x, d, y, ka, kn, kc, ca, m, cc⟩ : El).x, .float .f64 (⟨k, x, d, y, ka, kn, kc, ca, m, cc⟩ : El).d, .bool (⟨k, x, d, y, ka, kn, kc, ca, m, cc⟩ : El).y, .slice (⟨k, x, d, y, ka, kn, kc, ca, m, cc⟩ : El).ka (⟨k, x, d, y, ka, kn, kc, ca, m, cc⟩ : El).n (⟨k, x, d, y, ka, kn, kc, ca, m, cc⟩ : El).kc, .slice (⟨k, x, d, y, ka, kn, kc, ca, m, cc⟩ : El).ca (⟨k, x, d, y, ka, kn, kc, ca, m, cc⟩ : El).m (⟨k, x, d, y, ka, kn, kc, ca, m, cc⟩ : El).cc] 69)).drew := Six.ext hx57 hb5c.Six
          refine hK _ _ (fun _ => hS) ?_
          clear hK K
          (try simp only [Act.put, List.setIfInBounds_toArray, List.set_cons_zero, List.set_cons_succ])
          apply ord_loud rfl rfl rfl
          intro K hK
          refine wp_append_pairs _ _ _ rfl (w.heap.size + 1) vv es rfl (HO.out.ext (ext_trans hx5c hx57)) wc.heap.size 0 1 [(s_top_right, (⟨k, x, d, y, ka, kn, kc, ca, m, cc⟩ : El))] (by simp) rfl (fun i q hq => ?_) (by simp; omega) (Nat.le_trans (show w.heap.size + 1 ≤ wc.heap.size by omega) hs57) ?_
          · cases i with
            | zero => simp at hq; subst hq; exact ⟨hbp.cell 0 _ rfl, hbp.cell 1 _ rfl, hbp.cell 2 _ rfl, hbp.cell 3 _ rfl, hbp.cell 4 _ rfl, hbp.cell 5 _ rfl, hbp.cell 6 _ rfl⟩
            | succ i => simp at hq
          intro g1 cap1 w8 hown hgrow hlies hglt
          have hkp : Keeps (fun q => q < w.heap.size ∨ vv.ownBlock ≠ some q) _ w8 := keeps_grown hgrow (fun q hq e => by rcases hq with hq | hq; exact absurd (hbk q e.symm).1 (by omega); exact hq e.symm)
          have hS : (fun (w' : World) => Six w' wr.heap.size (⟨k, x, d, y, ka, kn, kc, ca, m, cc⟩ : El)) w8 := Six.keep hkp (.inr fun e => by have := hbk _ e; omega) (Six.ext hx57 hb5c.Six)
          refine hK _ _ (fun _ => hS) ?_
          clear hK K
          (try simp only [Act.put, List.setIfInBounds_toArray, List.set_cons_zero, List.set_cons_succ])
          (apply ord_last rfl rfl rfl (by kernel_rfl); intro K hK; go_simp; refine hK _ _ ?_; clear hK K; (try simp only [Act.put, List.setIfInBounds_toArray, List.set_cons_zero, List.set_cons_succ]))
          refine ord_end ?_
          have hent : entG p = [(s_top_right, p.2)] := by
            obtain ⟨pn, pt⟩ := p
            dsimp only at e_top_right_hash ⊢
            subst e_top_right_hash
            simp [entG, seq_self, seq_dec]
          have hxw8 : Ext w w8 := ext_grown (ext_trans hx (ext_trans hx5c hx57)) hgrow (fun q hq => by have := hbk q hq; omega)
          have hTp := Lib.hid (hTx.out.to (S' := (fun b => b ≠ w.heap.size ∧ vv.ownBlock ≠ some b)) (fun q hq _ => ⟨by have : q < w.heap.size := hq; omega, fun e => by have : q < w.heap.size := hq; have := hbk q e; omega⟩))
          have hPk8 := Lib.hid (pk_plusG (P := fun b => b ≠ w.heap.size) (g := g1) (cap := cap1) (n := es.length + 1) (k := s_top_right) (HPk.out.ext (ext_trans hx5c hx57)) (hTp.out.ext (ext_trans hx5c hx57)) hgrow hlies)
          have hbR8 := Lib.hid ((hbR.ext (ext_trans hx5c hx57)).grown hgrow (fun e => by have := hbk _ e.symm; omega))
          have hsz8 : w.heap.size + 2 ≤ w8.heap.size := Nat.le_trans (Nat.le_trans hwr (ext_trans hx5c hx57).sz) hgrow.size
          have HO8 := Lib.hid hown
          clear hgrow hlies hown hbp hx57 hTp
          go_wp2_with fail
          go_roundw
          case rel => exact ⟨hxw8, hsz8, hbR8.out, j + 1, es ++ [(s_top_right, (⟨k, x, d, y, ka, kn, kc, ca, m, cc⟩ : El))], _, rfl, by omega, by go_num, by simpa using HO8.out, by simp; omega, by rw [boxL_take HP0.out, hent]; exact hPk8.out⟩
          case measure => simp [intOf]; omega
        by_cases e_wkt : p.1 = s_wkt
        · rw [e_wkt]
          have hk2 : hasS cornerN s_wkt = false := by rw [← e_wkt]; exact hk
          obtain ⟨e0, e1, e2, e3, e4, e5⟩ := hb5.six
          go_upto_region 11 with (first
            | (go_at_call 45; refine (corners_any _).mono ?_; rintro r wc ⟨rfl, hbc, hxc⟩
               have HH := Lib.hid (has_any (S := fun _ => True) (some ⟨w5.heap.size, 0, none⟩) 4 4 cornerN s_wkt wc (corners_at hbc)))
            | (go_at_call 14; refine HH.out.mono ?_; rintro r wd ⟨rfl, rfl⟩; rw [hk2])
            | (go_at_call 50; refine (hasSuffix_any s_wkt ⟨#[95, 104, 97, 115, 104]⟩ _ (by decide)).mono ?_; rintro r wc ⟨rfl, rfl⟩; rw [show Lib.hasSuffix (s_wkt).data.toList (⟨#[95, 104, 97, 115, 104]⟩ : ByteArray).data.toList = false by decide])
            | fail)
          have hx5c : Ext wr wc := ext_trans hx5 hxc
          have hb5c := hb5.ext hxc
          have hs5c := Nat.le_trans hs5 hxc.sz
          clear e0 e1 e2 e3 e4 e5 HH hbc
          obtain ⟨e0, e1, e2, e3, e4, e5⟩ := hb5c.six
          have hx57 : Ext wc (wc.alloc (.cells #[.string s_wkt, .int .i64 (⟨k, x, d, y, ka, kn, kc, ca, m, cc⟩ : El).k, .string (⟨k, x, d, y, ka, kn, kc, ca, m, cc⟩ : El).x, .float .f64 (⟨k, x, d, y, ka, kn, kc, ca, m, cc⟩ : El).d, .bool (⟨k, x, d, y, ka, kn, kc, ca, m, cc⟩ : El).y, .slice (⟨k, x, d, y, ka, kn, kc, ca, m, cc⟩ : El).ka (⟨k, x, d, y, ka, kn, kc, ca, m, cc⟩ : El).n (⟨k, x, d, y, ka, kn, kc, ca, m, cc⟩ : El).kc, .slice (⟨k, x, d, y, ka, kn, kc, ca, m, cc⟩ : El).ca (⟨k, x, d, y, ka, kn, kc, ca, m, cc⟩ : El).m (⟨k, x, d, y, ka, kn, kc, ca, m, cc⟩ : El).cc] 69)) := ext_alloc (ext_refl wc) _
          have hs57 := hx57.sz
          have hbp : Box (wc.alloc (.cells #[.string s_wkt, .int .i64 (⟨k, x, d, y, ka, kn, kc, ca, m, cc⟩ : El).k, .string (⟨k, x, d, y, ka, kn, kc, ca, m, cc⟩ : El).x, .float .f64 (⟨k, x, d, y, ka, kn, kc, ca, m, cc⟩ : El).d, .bool (⟨k, x, d, y, ka, kn, kc, ca, m, cc⟩ : El).y, .slice (⟨k, x, d, y, ka, kn, kc, ca, m, cc⟩ : El).ka (⟨k, x, d, y, ka, kn, kc, ca, m, cc⟩ : El).n (⟨k, x, d, y, ka, kn, kc, ca, m, cc⟩ : El).kc, .slice (⟨k, x, d, y, ka, kn, kc, ca, m, cc⟩ : El).ca (⟨k, x, d, y, ka, kn, kc, ca, m, cc⟩ : El).m (⟨k, x, d, y, ka, kn, kc, ca, m, cc⟩ : El).cc] 69)) wc.heap.size #[.string s_wkt, .int .i64 (⟨k, x, d, y, ka, kn, kc, ca, m, cc⟩ : El).k, .string (⟨k, x, d, y, ka, kn, kc, ca, m, cc⟩ : El).x, .float .f64 (⟨k, x, d, y, ka, kn, kc, ca, m, cc⟩ : El).d, .bool (⟨k, x, d, y, ka, kn, kc, ca, m, cc⟩ : El).y, .slice (⟨k, x, d, y, ka, kn, kc, ca, m, cc⟩ : El).ka (⟨k, x, d, y, ka, kn, kc, ca, m, cc⟩ : El).n (⟨k, x, d, y, ka, kn, kc, ca, m, cc⟩ : El).kc, .slice (⟨k, x, d, y, ka, kn, kc, ca, m, cc⟩ : El).ca (⟨k, x, d, y, ka, kn, kc, ca, m, cc⟩ : El).m (⟨k, x, d, y, ka, kn, kc, ca, m, cc⟩ : El).cc] 69 := Box.at rfl _ _
          go_wp2_with (first
            | (at_builtin; refine list_append_pairs _ rfl _ _ rfl (w.heap.size + 1) vv es rfl (HO.out.ext (ext_trans hx5c hx57)) wc.heap.size 0 1 [(s_wkt, (⟨k, x, d, y, ka, kn, kc, ca, m, cc⟩ : El))] (by simp) rfl (fun i q hq => by
                 cases i with
                 | zero => simp at hq; subst hq; exact ⟨hbp.cell 0 _ rfl, hbp.cell 1 _ rfl, hbp.cell 2 _ rfl, hbp.cell 3 _ rfl, hbp.cell 4 _ rfl, hbp.cell 5 _ rfl, hbp.cell 6 _ rfl⟩
                 | succ i => simp at hq) (by simp; omega) (Nat.le_trans (show w.heap.size + 1 ≤ wc.heap.size by omega) hs57) ?_; intro g1 cap1 w8 hown hgrow hlies hglt
               have hent : entG p = [(s_wkt, p.2)] := by
                 obtain ⟨pn, pt⟩ := p
                 dsimp only at e_wkt ⊢
                 subst e_wkt
                 simp [entG, seq_self, seq_dec]
               have hxw8 : Ext w w8 := ext_grown (ext_trans hx (ext_trans hx5c hx57)) hgrow (fun q hq => by have := hbk q hq; omega)
               have hTp := Lib.hid (hTx.out.to (S' := (fun b => b ≠ w.heap.size ∧ vv.ownBlock ≠ some b)) (fun q hq _ => ⟨by have : q < w.heap.size := hq; omega, fun e => by have : q < w.heap.size := hq; have := hbk q e; omega⟩))
               have hPk8 := Lib.hid (pk_plusG (P := fun b => b ≠ w.heap.size) (g := g1) (cap := cap1) (n := es.length + 1) (k := s_wkt) (HPk.out.ext (ext_trans hx5c hx57)) (hTp.out.ext (ext_trans hx5c hx57)) hgrow hlies)
               have hbR8 := Lib.hid ((hbR.ext (ext_trans hx5c hx57)).grown hgrow (fun e => by have := hbk _ e.symm; omega))
               have hsz8 : w.heap.size + 2 ≤ w8.heap.size := Nat.le_trans (Nat.le_trans hwr (ext_trans hx5c hx57).sz) hgrow.size
               have HO8 := Lib.hid hown
               clear hgrow hlies hown hbp hx57 hTp)
            | fail)
          go_roundw
          case rel => exact ⟨hxw8, hsz8, hbR8.out, j + 1, es ++ [(s_wkt, (⟨k, x, d, y, ka, kn, kc, ca, m, cc⟩ : El))], _, rfl, by omega, by go_num, by simpa using HO8.out, by simp; omega, by rw [boxL_take HP0.out, hent]; exact hPk8.out⟩
          case measure => simp [intOf]; omega
        by_cases e_type : p.1 = s_type
        · rw [e_type]
          have hk2 : hasS cornerN s_type = false := by rw [← e_type]; exact hk
          obtain ⟨e0, e1, e2, e3, e4, e5⟩ := hb5.six
          go_wp2_with (first
            | (go_at_call 45; refine (corners_any _).mono ?_; rintro r wc ⟨rfl, hbc, hxc⟩
               have HH := Lib.hid (has_any (S := fun _ => True) (some ⟨w5.heap.size, 0, none⟩) 4 4 cornerN s_type wc (corners_at hbc)))
            | (go_at_call 14; refine HH.out.mono ?_; rintro r wd ⟨rfl, rfl⟩; rw [hk2])
            | (go_at_call 50; refine (hasSuffix_any s_type ⟨#[95, 104, 97, 115, 104]⟩ _ (by decide)).mono ?_; rintro r wc ⟨rfl, rfl⟩; rw [show Lib.hasSuffix (s_type).data.toList (⟨#[95, 104, 97, 115, 104]⟩ : ByteArray).data.toList = false by decide])
            | fail)
          have hx5c : Ext wr wc := ext_trans hx5 hxc
          have hb5c := hb5.ext hxc
          have hs5c := Nat.le_trans hs5 hxc.sz
          clear e0 e1 e2 e3 e4 e5 HH hbc
          have hent : entG p = [] := by
            obtain ⟨pn, pt⟩ := p
            dsimp only at e_type ⊢
            subst e_type
            simp [entG, seq_dec]
          have hPk8 := Lib.hid (HPk.out.ext hx5c)
          go_roundw
          case rel => exact ⟨ext_trans hx hx5c, Nat.le_trans hwr hx5c.sz, hbR.ext hx5c, j + 1, es, _, rfl, by omega, by go_num, HO.out.ext hx5c, by omega, by rw [boxL_take HP0.out, hent, List.append_nil]; exact hPk8.out⟩
          case measure => simp [intOf]; omega
        by_cases e_ignore_unmapped : p.1 = s_ignore_unmapped
        · rw [e_ignore_unmapped]
          have hk2 : hasS cornerN s_ignore_unmapped = false := by rw [← e_ignore_unmapped]; exact hk
          obtain ⟨e0, e1, e2, e3, e4, e5⟩ := hb5.six
          go_wp2_with (first
            | (go_at_call 45; refine (corners_any _).mono ?_; rintro r wc ⟨rfl, hbc, hxc⟩
               have HH := Lib.hid (has_any (S := fun _ => True) (some ⟨w5.heap.size, 0, none⟩) 4 4 cornerN s_ignore_unmapped wc (corners_at hbc)))
            | (go_at_call 14; refine HH.out.mono ?_; rintro r wd ⟨rfl, rfl⟩; rw [hk2])
            | (go_at_call 50; refine (hasSuffix_any s_ignore_unmapped ⟨#[95, 104, 97, 115, 104]⟩ _ (by decide)).mono ?_; rintro r wc ⟨rfl, rfl⟩; rw [show Lib.hasSuffix (s_ignore_unmapped).data.toList (⟨#[95, 104, 97, 115, 104]⟩ : ByteArray).data.toList = false by decide])
            | fail)
          have hx5c : Ext wr wc := ext_trans hx5 hxc
          have hb5c := hb5.ext hxc
          have hs5c := Nat.le_trans hs5 hxc.sz
          clear e0 e1 e2 e3 e4 e5 HH hbc
          have hent : entG p = [] := by
            obtain ⟨pn, pt⟩ := p
            dsimp only at e_ignore_unmapped ⊢
            subst e_ignore_unmapped
            simp [entG, seq_dec]
          have hPk8 := Lib.hid (HPk.out.ext hx5c)
          go_roundw
          case rel => exact ⟨ext_trans hx hx5c, Nat.le_trans hwr hx5c.sz, hbR.ext hx5c, j + 1, es, _, rfl, by omega, by go_num, HO.out.ext hx5c, by omega, by rw [boxL_take HP0.out, hent, List.append_nil]; exact hPk8.out⟩
          case measure => simp [intOf]; omega
        by_cases e_validation_method : p.1 = s_validation_method
        · rw [e_validation_method]
          have hk2 : hasS cornerN s_validation_method = false := by rw [← e_validation_method]; exact hk
          obtain ⟨e0, e1, e2, e3, e4, e5⟩ := hb5.six
          go_wp2_with (first
            | (go_at_call 45; refine (corners_any _).mono ?_; rintro r wc ⟨rfl, hbc, hxc⟩
               have HH := Lib.hid (has_any (S := fun _ => True) (some ⟨w5.heap.size, 0, none⟩) 4 4 cornerN s_validation_method wc (corners_at hbc)))
            | (go_at_call 14; refine HH.out.mono ?_; rintro r wd ⟨rfl, rfl⟩; rw [hk2])
            | (go_at_call 50; refine (hasSuffix_any s_validation_method ⟨#[95, 104, 97, 115, 104]⟩ _ (by decide)).mono ?_; rintro r wc ⟨rfl, rfl⟩; rw [show Lib.hasSuffix (s_validation_method).data.toList (⟨#[95, 104, 97, 115, 104]⟩ : ByteArray).data.toList = false by decide])
            | fail)
          have hx5c : Ext wr wc := ext_trans hx5 hxc
          have hb5c := hb5.ext hxc
          have hs5c := Nat.le_trans hs5 hxc.sz
          clear e0 e1 e2 e3 e4 e5 HH hbc
          have hent : entG p = [] := by
            obtain ⟨pn, pt⟩ := p
            dsimp only at e_validation_method ⊢
            subst e_validation_method
            simp [entG, seq_dec]
          have hPk8 := Lib.hid (HPk.out.ext hx5c)
          go_roundw
          case rel => exact ⟨ext_trans hx hx5c, Nat.le_trans hwr hx5c.sz, hbR.ext hx5c, j + 1, es, _, rfl, by omega, by go_num, HO.out.ext hx5c, by omega, by rw [boxL_take HP0.out, hent, List.append_nil]; exact hPk8.out⟩
          case measure => simp [intOf]; omega
        exfalso
        have h8 := hNr.out
        simp only [List.mem_cons, List.not_mem_nil, or_false] at h8
        rcases h8 with h8 | h8 | h8 | h8 | h8 | h8 | h8 | h8 | h8 | h8 | h8 <;> first
          | contradiction
          | (rw [h8, hasS_decB] at hk; exact absurd hk (by decide))
    case neg =>
      have hjn : j = n := by omega
      have hfull : ps.take j = ps := List.take_of_length_le (by have := HL.out; omega)
      have hP := HPk.out
      rw [hfull] at hP
      obtain ⟨pa, pc, hpe, hPA⟩ := HO.out.pairs (S := fun b => b ≠ w.heap.size) hP.1 (fun q hq => by have := (hbk q hq).1; omega) (fun i e p he hp => ⟨(hP.2 i e p he hp).1, (hP.2 i e p he hp).2.to (fun b hb _ => hb.1)⟩)
      have hpl : (boxL ps).length = es.length := hP.1
      rw [hpl] at hpe hPA
      have hM := Lib.hid (map_any pa es.length pc (boxL ps) wr hPA (by omega))
      clear hjn hP HPk HO hPA
      subst hpe
      go_upto_region 13 with (first
        | (go_at_call 48; refine hM.out.mono ?_; rintro r wm ⟨gm, rfl, hTm, hxm⟩; simp only [El.val])
        | fail)
      have hsm := hxm.sz
      have hTm := hTm.to (S' := fun b => b ≠ w.heap.size ∧ b ≠ wm.heap.size) (fun q hq hl => by
        refine ⟨?_, by omega⟩
        rcases hq with hq | hq
        · exact hq.1
        · omega)
      have hx6 : Ext w wm := ext_trans hx hxm
      have hbR6 := hbR.ext hxm
      have hTm2 := Lib.hid (hTm.ext (ext_alloc (ext_alloc (ext_refl wm) (.cells #[.string f, .int .i64 gm.k, .string gm.x, .float .f64 gm.d, .bool gm.y, .slice gm.ka gm.n gm.kc, .slice gm.ca gm.m gm.cc] 69)) (.cells #[.string s_type, .string s_ignore_unmapped, .string s_validation_method] 9)))
      have hwm : w.heap.size + 2 ≤ wm.heap.size := by omega
      clear hM hTm hbk
      go_wp2_with fail
      go_loopw [9, 78] (fun v i wq => Ext w wq ∧ wm.heap.size + 2 ≤ wq.heap.size ∧ Box wq w.heap.size (El.arr El0) 30 ∧ Box wq (wm.heap.size + 1) #[.string s_type, .string s_ignore_unmapped, .string s_validation_method] 9 ∧ ∃ (j : Nat) (es : List (ByteArray × El)) (vv : Value), vv = v ∧ j ≤ 3 ∧ i = .int .i64 j ∧ OwnPairs wq wm.heap.size vv es ∧ vv.ownBlock ≠ some (wm.heap.size + 1) ∧ es.length ≤ j + 1 ∧ Pk (fun b => b ≠ w.heap.size ∧ vv.ownBlock ≠ some b) wq es ((f, mapT (boxL ps)) :: (tellN.take j).flatMap (lastL ps))) (fun _ i _ => 3 - (intOf i).toNat)
      case atStart =>
        refine ⟨ext_alloc (ext_alloc hx6 _) _, by simp, (hbR6.alloc _).alloc _, Box.at (by simp) _ _, 0, [(f, gm)], _, rfl, by omega, rfl, ⟨rfl, .inr ⟨wm.heap.size, 1, _, rfl, Nat.le_refl _, (Box.at rfl _ _).alloc _, Nat.le_refl _, by simp [maxLen], rfl, rfl⟩⟩, by simp [Value.ownBlock], by simp, ?_⟩
        exact Pk.one (hTm2.out.to (fun q hq _ => ⟨hq.1, by simp only [Value.ownBlock, ne_eq, Option.some.injEq]; exact fun e => hq.2 e.symm⟩))
      case round =>
        clear hbR6 hTm2 hxm hx6
        obtain ⟨hxq, hwr, hbRq, hbN, j, es, vv, hvv, hj, rfl, hO, hnn, hel, hP⟩ := hrel
        subst hvv
        have HO := Lib.hid hO
        have HPk := Lib.hid hP
        have hbk : ∀ q, vv.ownBlock = some q → wm.heap.size ≤ q ∧ q < wr.heap.size := fun q hq => World.ownsRow.lt hO q hq
        clear hO hP
        by_cases hlt : j < 3
        case pos =>
          obtain ⟨nm, hnm⟩ : ∃ nm, tellN[j]? = some nm := some_of_lt (l := tellN) rfl hlt
          have hcell : wr.cell? ⟨wm.heap.size + 1, j, none⟩ = some (.string nm) := by
            match j, hlt, hnm with
            | 0, _, hnm => simp [tellN] at hnm; subst hnm; exact hbN.cell 0 _ rfl
            | 1, _, hnm => simp [tellN] at hnm; subst hnm; exact hbN.cell 1 _ rfl
            | 2, _, hnm => simp [tellN] at hnm; subst hnm; exact hbN.cell 2 _ rfl
          have htk : (tellN.take (j + 1)).flatMap (lastL ps) = (tellN.take j).flatMap (lastL ps) ++ lastL ps nm := by
            rw [take_snoc hnm, List.flatMap_append]
            simp
          have HTK := Lib.hid htk
          clear hnm htk
          cases hlo : lastOf ps nm with
          | none =>
            have h0 : lastL ps nm = [] := by unfold lastL; rw [hlo]; rfl
            have H0 := Lib.hid h0
            clear h0
            go_wp2_with (first
              | (go_at_call 51; refine (HLa.out _ _ hxq).mono ?_; rintro r wl ⟨gh, rfl, hTh, hxl⟩; rw [hlo] at hTh ⊢; simp only [El.val, Option.isSome, Option.getD] at hTh ⊢
                 clear hTh)
              | fail)
            have hxla : Ext wr (wl.alloc (.cells gh.arr 30)) := ext_alloc hxl _
            go_roundw
            case rel => exact ⟨ext_trans hxq hxla, Nat.le_trans hwr hxla.sz, hbRq.ext hxla, hbN.ext hxla, j + 1, es, _, rfl, by omega, by go_num, HO.out.ext hxla, hnn, by omega, by rw [HTK.out, H0.out, List.append_nil]; exact HPk.out.ext hxla⟩
            case measure => simp [intOf]; omega
          | some th =>
            have h0 : lastL ps nm = [(nm, th)] := by unfold lastL; rw [hlo]; rfl
            have H0 := Lib.hid h0
            clear h0
            go_wp2_with (first
              | (go_at_call 51; refine (HLa.out _ _ hxq).mono ?_; rintro r wl ⟨gh, rfl, hTh, hxl⟩; rw [hlo] at hTh ⊢; simp only [El.val, Option.isSome, Option.getD] at hTh ⊢
                 have hbh : Box (wl.alloc (.cells gh.arr 30)) wl.heap.size gh.arr 30 := Box.at rfl _ _
                 obtain ⟨t0, t1, t2, t3, t4, t5⟩ := hbh.six
                 have hszl := hxl.sz
                 have hxla : Ext wr (wl.alloc (.cells gh.arr 30)) := ext_alloc hxl _
                 have x3 : Ext wr ((wl.alloc (.cells gh.arr 30)).alloc (.cells #[.string nm, .int .i64 gh.k, .string gh.x, .float .f64 gh.d, .bool gh.y, .slice gh.ka gh.n gh.kc, .slice gh.ca gh.m gh.cc] 69)) := ext_alloc hxla _
                 have hs3 : wm.heap.size ≤ ((wl.alloc (.cells gh.arr 30)).alloc (.cells #[.string nm, .int .i64 gh.k, .string gh.x, .float .f64 gh.d, .bool gh.y, .slice gh.ka gh.n gh.kc, .slice gh.ca gh.m gh.cc] 69)).heap.size := Nat.le_trans (by omega) x3.sz
                 have hbp : Box ((wl.alloc (.cells gh.arr 30)).alloc (.cells #[.string nm, .int .i64 gh.k, .string gh.x, .float .f64 gh.d, .bool gh.y, .slice gh.ka gh.n gh.kc, .slice gh.ca gh.m gh.cc] 69)) (wl.heap.size + 1) #[.string nm, .int .i64 gh.k, .string gh.x, .float .f64 gh.d, .bool gh.y, .slice gh.ka gh.n gh.kc, .slice gh.ca gh.m gh.cc] 69 := Box.at (by simp) _ _
                 have HTp := Lib.hid ((hTh.to (S' := fun b => b ≠ w.heap.size ∧ vv.ownBlock ≠ some b) (fun q hq _ => ⟨by have : q < w.heap.size := hq; omega, fun e => by have : q < w.heap.size := hq; have := hbk q e; omega⟩)).ext (ext_alloc (ext_alloc (ext_refl wl) (.cells gh.arr 30)) (.cells #[.string nm, .int .i64 gh.k, .string gh.x, .float .f64 gh.d, .bool gh.y, .slice gh.ka gh.n gh.kc, .slice gh.ca gh.m gh.cc] 69)))
                 clear hTh)
              | (at_builtin; refine list_append_pairs _ rfl _ _ rfl wm.heap.size vv es rfl (HO.out.ext x3) (wl.heap.size + 1) 0 1 [(nm, gh)] (by simp) rfl (fun i q hq => by
                   cases i with
                   | zero => simp at hq; subst hq; exact ⟨hbp.cell 0 _ rfl, hbp.cell 1 _ rfl, hbp.cell 2 _ rfl, hbp.cell 3 _ rfl, hbp.cell 4 _ rfl, hbp.cell 5 _ rfl, hbp.cell 6 _ rfl⟩
                   | succ i => simp at hq) (by simp; omega) hs3 ?_; intro g1 cap1 w8 hown hgrow hlies hglt
                 have HGR := Lib.hid hgrow
                 have HLI := Lib.hid hlies
                 have HO8 := Lib.hid hown
                 clear hgrow hlies hown hbp t0 t1 t2 t3 t4 t5 hbh)
              | fail)
            have hgrow := HGR.out
            have hlies := HLI.out
            have hxw8 : Ext w w8 := ext_grown (ext_trans hxq x3) hgrow (fun q hq => by have := hbk q hq; omega)
            have hPk8 := Lib.hid (pk_plusG (P := fun b => b ≠ w.heap.size) (g := g1) (cap := cap1) (n := es.length + 1) (k := nm) (HPk.out.ext x3) HTp.out hgrow hlies)
            have hbR8 := Lib.hid ((hbRq.ext x3).grown hgrow (fun e => by have := hbk _ e.symm; omega))
            have hbN8 := Lib.hid ((hbN.ext x3).grown hgrow (fun e => hnn e.symm))
            have hsz8 : wm.heap.size + 2 ≤ w8.heap.size := Nat.le_trans (Nat.le_trans hwr x3.sz) hgrow.size
            have hg1 : g1 ≠ wm.heap.size + 1 := by
              rcases hlies with h | h
              · intro e
                subst e
                exact hnn h
              · have h9 : wr.heap.size ≤ g1 := Nat.le_trans x3.sz (Nat.le_of_eq h.symm)
                omega
            go_roundw
            case rel => exact ⟨hxw8, hsz8, hbR8.out, hbN8.out, j + 1, es ++ [(nm, gh)], _, rfl, by omega, by go_num, by simpa using HO8.out, by simp only [Value.ownBlock, ne_eq, Option.some.injEq]; exact hg1, by simp; omega, by rw [HTK.out, H0.out]; exact hPk8.out⟩
            case measure => simp [intOf]; omega
        case neg =>
          have hj3 : j = 3 := by omega
          subst hj3
          have hP := HPk.out
          rw [show (tellN.take 3).flatMap (lastL ps) = tellL ps from rfl] at hP
          obtain ⟨pa2, pc2, hpe2, hPA2⟩ := HO.out.pairs (S := fun b => b ≠ w.heap.size) hP.1 (fun b hb => by have h7 := hbk b hb; omega) (fun i e p he hp => ⟨(hP.2 i e p he hp).1, (hP.2 i e p he hp).2.to (fun b hb _ => hb.1)⟩)
          have hpl8 : ((f, mapT (boxL ps)) :: tellL ps).length = es.length := hP.1
          rw [hpl8] at hpe2 hPA2
          have hB := Lib.hid (beside_any s_geo_bounding_box _ _ _ _ wr hPA2 (by omega))
          have hl8 := hbRq.lt
          clear hP HPk HO hPA2 hbN hnn hbk
          subst hpe2
          go_wp2_with (first
            | (go_at_call 52; refine hB.out.mono ?_; rintro r w9 ⟨g2, rfl, hT9, hx9⟩; simp only [El.val]
               have hb9 := hbRq.ext hx9; obtain ⟨o0, o1, o2, o3, o4, o5⟩ := hb9.six; have f0 := hb9.free 0; have f1 := hb9.free 1; have f2 := hb9.free 2; have f3 := hb9.free 3; have f4 := hb9.free 4; have f5 := hb9.free 5)
            | fail)
          have hx9w := ext_trans hxq hx9
          refine post_tree rfl rfl (hb9.sto g2) rfl ⟨g2, rfl, ?_, ext_sto6 hx9w (by omega) _ _ _ _ _ _⟩
          refine TreeAt.keep (S := fun b => b ≠ w.heap.size) (fun _ _ _ => trivial) (keeps_sto w9 (fun h => h rfl) g2) _ ?_
          exact hT9.to (S' := fun b => b ≠ w.heap.size) (fun q hq _ => by
            rcases hq with hq | hq
            · first | exact hq.1 | exact hq
            · omega)
end Go.Proofs.Ytfngaoicoecncaa

namespace Go.Proofs.Ytfngaoicoecncaa
open Go.RowKit

abbrev sGeoBoundingBox : ByteArray := ⟨#[71, 101, 111, 66, 111, 117, 110, 100, 105, 110, 103, 66, 111, 120]⟩
abbrev tGeoBoundingBox : ByteArray := ⟨#[116, 111, 112, 95, 108, 101, 102, 116, 32, 112, 44, 98, 111, 116, 116, 111, 109, 95, 114, 105, 103, 104, 116, 32, 112, 44, 116, 111, 112, 95, 114, 105, 103, 104, 116, 32, 112, 44, 116, 111, 112, 95, 108, 101, 102, 116, 95, 104, 97, 115, 104, 32, 116, 44, 98, 111, 116, 116, 111, 109, 95, 114, 105, 103, 104, 116, 95, 104, 97, 115, 104, 32, 116, 44, 98, 111, 116, 116, 111, 109, 95, 108, 101, 102, 116, 95, 104, 97, 115, 104, 32, 116, 44, 116, 111, 112, 95, 114, 105, 103, 104, 116, 95, 104, 97, 115, 104, 32, 116, 44, 119, 107, 116, 32, 116, 44, 116, 121, 112, 101, 32, 116, 44, 105, 103, 110, 111, 114, 101, 95, 117, 110, 109, 97, 112, 112, 101, 100, 32, 98, 44, 118, 97, 108, 105, 100, 97, 116, 105, 111, 110, 95, 109, 101, 116, 104, 111, 100, 32, 116]⟩
abbrev rGeoBoundingBox : List (ByteArray × ByteArray) := [(s_top_left, ⟨#[112]⟩), (s_bottom_right, ⟨#[112]⟩), (s_top_right, ⟨#[112]⟩), (s_top_left_hash, ⟨#[116]⟩), (s_bottom_right_hash, ⟨#[116]⟩), (s_bottom_left_hash, ⟨#[116]⟩), (s_top_right_hash, ⟨#[116]⟩), (s_wkt, ⟨#[116]⟩), (s_type, ⟨#[116]⟩), (s_ignore_unmapped, ⟨#[98]⟩), (s_validation_method, ⟨#[116]⟩)]
set_option maxHeartbeats 2000000 in
theorem table_geoBoundingBox (w : World) : Calls Try.prog 94 #[.string sGeoBoundingBox] w fun r w' => r = .returned (.string tGeoBoundingBox) ∧ w' = w := by
  go_enter Try.func94, Try.ntmps94
  go_wp2
  go_ret
  exact ⟨rfl, rfl⟩
set_option maxRecDepth 20000 in
theorem rows_geoBoundingBox (w : World) : Calls Try.prog 85 #[.string sGeoBoundingBox] w fun r w' => ∃ v, r = .returned v ∧ Own2 w' w.heap.size v rGeoBoundingBox ∧ Ext w w' :=
  rows_any sGeoBoundingBox tGeoBoundingBox w table_geoBoundingBox 13 (by decide) (by decide)
def FitsB (ps : List (ByteArray × T)) : Prop := ∀ (i : Nat) (p : ByteArray × T), ps[i]? = some p → FitX (kindL rGeoBoundingBox p.1) p.2
theorem fitsB_mem {ps : List (ByteArray × T)} (h : FitsB ps) {p : ByteArray × T} (hp : p ∈ ps) : FitX (kindL rGeoBoundingBox p.1) p.2 := by
  obtain ⟨i, hi⟩ := List.getElem?_of_mem hp
  exact h i _ hi
theorem fitB_plain {kind : ByteArray} {t : T} (h : FitX kind t) (h1 : kind ≠ ⟨#[117]⟩) (h2 : kind ≠ ⟨#[112]⟩) : FitP kind t := by
  rcases h with h | h | h
  · exact h
  · exact absurd h.1 h1
  · exact absurd h.1 h2
theorem fitB_none {t : T} (h : FitX emptyS t) : False := by
  obtain ⟨-, h | h | h | h | h⟩ := fitB_plain h (by decide) (by decide)
  · exact absurd h.1 (by decide)
  · exact absurd h.1 (by decide)
  · exact absurd h.1 (by decide)
  · exact absurd h.1 (by decide)
  · exact absurd h (by decide)
/-- What fits has a name of the table. -/
theorem boxN_of {ps : List (ByteArray × T)} (hF : FitsB ps) : ∀ p ∈ ps, p.1 ∈ boxN := fun p hp => by
  by_cases hm : p.1 ∈ boxN
  · exact hm
  · exfalso
    have h := fitsB_mem hF hp
    have hk : kindL rGeoBoundingBox p.1 = emptyS := by
      unfold kindL
      rw [List.find?_eq_none.2 (fun r hr e => hm (by
        rw [← seq_iff.1 e]
        exact List.mem_map_of_mem (f := Prod.fst) hr))]
      rfl
    rw [hk] at h
    exact fitB_none h
theorem pair_b {ps : List (ByteArray × T)} (hF : FitsB ps) {p : ByteArray × T} (hp : p ∈ ps) (hk : kindL rGeoBoundingBox p.1 = ⟨#[112]⟩) : PairP p.2 := by
  have h := fitsB_mem hF hp
  rw [hk] at h
  rcases h with h | h | h
  · obtain ⟨-, h | h | h | h | h⟩ := h
    · exact absurd h.1 (by decide)
    · exact absurd h.1 (by decide)
    · exact absurd h.1 (by decide)
    · exact absurd h.1 (by decide)
    · exact absurd h (by decide)
  · exact absurd h.1 (by decide)
  · exact h.2
theorem text_b {ps : List (ByteArray × T)} (hF : FitsB ps) {p : ByteArray × T} (hp : p ∈ ps) (hk : kindL rGeoBoundingBox p.1 = ⟨#[116]⟩) : p.2.kind = 1 ∧ scalarT p.2 = true := by
  have h := fitsB_mem hF hp
  rw [hk] at h
  obtain ⟨hs, h | h | h | h | h⟩ := fitB_plain h (by decide) (by decide)
  · exact ⟨h.2, hs⟩
  · exact absurd h.1 (by decide)
  · exact absurd h.1 (by decide)
  · exact absurd h.1 (by decide)
  · exact absurd h (by decide)
theorem yes_b {ps : List (ByteArray × T)} (hF : FitsB ps) {p : ByteArray × T} (hp : p ∈ ps) (hk : kindL rGeoBoundingBox p.1 = ⟨#[98]⟩) : p.2.kind = 3 ∧ scalarT p.2 = true := by
  have h := fitsB_mem hF hp
  rw [hk] at h
  obtain ⟨hs, h | h | h | h | h⟩ := fitB_plain h (by decide) (by decide)
  · exact absurd h.1 (by decide)
  · exact absurd h.1 (by decide)
  · exact absurd h.1 (by decide)
  · exact ⟨h.2, hs⟩
  · exact absurd h (by decide)
theorem box_ok {ps : List (ByteArray × T)} (hF : FitsB ps) (hB : BoxP ps) : BoxOk ps where
  box := hB
  nobl := fun p hp => by
    cases e : seq p.1 s_bottom_left with
    | false => rfl
    | true =>
      have h := boxN_of hF p hp
      rw [seq_iff.1 e] at h
      simp only [List.mem_cons, List.not_mem_nil, or_false] at h
      rcases h with h | h | h | h | h | h | h | h | h | h | h <;> exact absurd h (by decide)
  p_top_left := fun p hp e => pair_b hF hp (by rw [seq_iff.1 e, kindL_dec]; decide)
  t_top_left := fun p hp e => text_b hF hp (by rw [seq_iff.1 e, kindL_dec]; decide)
  p_top_right := fun p hp e => pair_b hF hp (by rw [seq_iff.1 e, kindL_dec]; decide)
  t_top_right := fun p hp e => text_b hF hp (by rw [seq_iff.1 e, kindL_dec]; decide)
  t_bottom_left := fun p hp e => text_b hF hp (by rw [seq_iff.1 e, kindL_dec]; decide)
  p_bottom_right := fun p hp e => pair_b hF hp (by rw [seq_iff.1 e, kindL_dec]; decide)
  t_bottom_right := fun p hp e => text_b hF hp (by rw [seq_iff.1 e, kindL_dec]; decide)
  wkt := fun t ht => (text_b hF (lastOf_mem ht) (by show kindL rGeoBoundingBox s_wkt = _; rw [kindL_dec]; decide)).2
theorem boxPP {ps : List (ByteArray × T)} (hF : FitsB ps) : ∀ p ∈ ps, hasS cornerN p.1 = true → PairP p.2 := fun p hp h => by
  have hn := boxN_of hF p hp
  have hk : kindL rGeoBoundingBox p.1 = ⟨#[112]⟩ := by
    rw [kindL_dec]
    rw [hasS_decB] at h
    simp only [List.mem_cons, List.not_mem_nil, or_false] at hn
    rcases hn with hn | hn | hn | hn | hn | hn | hn | hn | hn | hn | hn <;> rw [hn] at h ⊢ <;> first
      | decide
      | exact absurd h (by decide)
  exact pair_b hF hp hk
theorem boxSc {ps : List (ByteArray × T)} (hF : FitsB ps) : ∀ p ∈ ps, hasS cornerN p.1 = false → scalarT p.2 = true := fun p hp h => by
  have hn := boxN_of hF p hp
  have hk : kindL rGeoBoundingBox p.1 = ⟨#[116]⟩ ∨ kindL rGeoBoundingBox p.1 = ⟨#[98]⟩ := by
    rw [kindL_dec]
    rw [hasS_decB] at h
    simp only [List.mem_cons, List.not_mem_nil, or_false] at hn
    rcases hn with hn | hn | hn | hn | hn | hn | hn | hn | hn | hn | hn <;> rw [hn] at h ⊢ <;> first
      | (left; decide)
      | (right; decide)
      | exact absurd h (by decide)
  rcases hk with hk | hk
  · exact (text_b hF hp hk).2
  · exact (yes_b hF hp hk).2
theorem wkt_scalar {ps : List (ByteArray × T)} (hF : FitsB ps) : ScalarAt ps s_wkt := fun p hp e => (text_b hF hp (by rw [seq_iff.1 e, kindL_dec]; decide)).2
theorem name_none {ps : List (ByteArray × T)} (hF : FitsB ps) : lastOf ps s_name = none := by
  cases h : lastOf ps s_name with
  | none => rfl
  | some t =>
    have h2 : s_name ∈ boxN := boxN_of hF _ (lastOf_mem h)
    simp only [List.mem_cons, List.not_mem_nil, or_false] at h2
    rcases h2 with h2 | h2 | h2 | h2 | h2 | h2 | h2 | h2 | h2 | h2 | h2 <;> exact absurd h2 (by decide)
theorem jT_sameB {ps : List (ByteArray × T)} (hF : FitsB ps) {k : ByteArray} (hk : kindL rGeoBoundingBox k = ⟨#[116]⟩) : SameL (jTree (jT k (lastOf ps k))) (lastL ps k) := by
  unfold lastL
  cases ho : lastOf ps k with
  | none => simpa [jT, fT] using SameL.nil
  | some t =>
    have h := text_b hF (lastOf_mem ho) hk
    obtain ⟨hsame, hne⟩ := same_text h.1 h.2
    have h2 : jT k (some t) = [(k, .str t.text)] := by simp [jT, fT, hne]
    rw [h2]
    simpa [treeJ] using SameL.one k hsame
theorem jY_sameB {ps : List (ByteArray × T)} (hF : FitsB ps) {k : ByteArray} (hk : kindL rGeoBoundingBox k = ⟨#[98]⟩) : SameL (jTree (jY k (lastOf ps k))) (lastL ps k) := by
  unfold lastL
  cases ho : lastOf ps k with
  | none => simpa [jY] using SameL.nil
  | some t =>
    have h := yes_b hF (lastOf_mem ho) hk
    simpa [jY, treeJ] using SameL.one k (same_yes h.1 h.2)
theorem keys_lastL (ps : List (ByteArray × T)) (k : ByteArray) : KeysIn (lastL ps k) [k] := fun p hp => by
  unfold lastL at hp
  obtain ⟨t, -, ht⟩ := List.mem_map.1 hp
  subst ht
  simp
theorem treeJ_goodC {K KH : ByteArray} {sw : Bool} : ∀ (l : List (ByteArray × T)) (o : Option J), (∀ j, o = some j → GoodT (treeJ j)) → ∀ j, l.foldl (stepC K KH sw) o = some j → GoodT (treeJ j) := by
  intro l
  induction l with
  | nil => intro o h; exact h
  | cons p r ih =>
    intro o h
    rw [List.foldl_cons]
    refine ih _ fun j hj => ?_
    unfold stepC at hj
    split at hj
    · cases hj
      intro _
      cases sw <;> rfl
    · split at hj
      · cases hj
        intro e
        simp [treeJ, textT, T.kind] at e
      · exact h j hj
theorem foldC_good {K KH : ByteArray} {sw : Bool} {l : List (ByteArray × T)} {j : J} (h : foldC K KH sw l = some j) : GoodT (treeJ j) := treeJ_goodC l none (fun _ h => by cases h) j h
abbrev bxJ (ps : List (ByteArray × T)) : List (ByteArray × J) := boxJ (lastOf ps s_wkt) (foldC s_top_left s_top_left_hash false ps) (foldC s_top_right s_top_right_hash false ps) (foldC s_bottom_left s_bottom_left_hash true ps) (foldC s_bottom_right s_bottom_right_hash false ps)
theorem jC_mem {k : ByteArray} {o : Option J} {p : ByteArray × J} (h : p ∈ jC k o) : o = some p.2 := by
  cases o with
  | none => simp [jC] at h
  | some j => simp [jC] at h; subst h; rfl
theorem jC_len (k : ByteArray) (o : Option J) : (jC k o).length ≤ 1 := by cases o <;> simp [jC]
theorem bx_good (ps : List (ByteArray × T)) : ∀ k t, lastOf (jTree (bxJ ps)) k = some t → GoodT t := fun k t h => by
  have hm := lastOf_mem h
  unfold jTree at hm
  obtain ⟨p, hp, hpe⟩ := List.mem_map.1 hm
  cases hpe
  unfold bxJ boxJ at hp
  split at hp
  · simp only [List.mem_singleton] at hp
    subst hp
    intro e
    exfalso
    unfold jOf at e
    split at e
    · simp [treeJ, textT, T.kind] at e
    · split at e <;> simp [treeJ, numT, yesT, T.kind] at e
  · simp only [List.mem_append] at hp
    rcases hp with ((hp | hp) | hp) | hp <;> exact foldC_good (jC_mem hp)
theorem bx_len (ps : List (ByteArray × T)) : (jTree (bxJ ps)).length ≤ 65536 := by
  have h1 := jC_len s_top_left (foldC s_top_left s_top_left_hash false ps)
  have h2 := jC_len s_top_right (foldC s_top_right s_top_right_hash false ps)
  have h3 := jC_len s_bottom_left (foldC s_bottom_left s_bottom_left_hash true ps)
  have h4 := jC_len s_bottom_right (foldC s_bottom_right s_bottom_right_hash false ps)
  unfold bxJ boxJ jTree
  rw [List.length_map]
  split
  · simp
  · simp only [List.length_append]
    omega
abbrev boxQ (f : ByteArray) (ps : List (ByteArray × T)) : List (ByteArray × J) := [(f, jMap (bxJ ps))] ++ jT s_type (lastOf ps s_type) ++ jT s_validation_method (lastOf ps s_validation_method) ++ jY s_ignore_unmapped (lastOf ps s_ignore_unmapped) ++ jT s_name (lastOf ps s_name)
abbrev boxR (ps : List (ByteArray × T)) : List (ByteArray × T) := jTree (jT s_type (lastOf ps s_type)) ++ jTree (jT s_validation_method (lastOf ps s_validation_method)) ++ jTree (jY s_ignore_unmapped (lastOf ps s_ignore_unmapped))
theorem boxQ_eq {ps : List (ByteArray × T)} (hF : FitsB ps) (f : ByteArray) : jTree (boxQ f ps) = [(f, mapT (jTree (bxJ ps)))] ++ boxR ps := by
  have h : jT s_name none = [] := by simp [jT, fT]
  unfold boxQ boxR
  rw [name_none hF, h, List.append_nil]
  unfold jTree
  simp only [List.map_append, List.map_cons, List.map_nil, treeJ_jMap, List.append_assoc]
theorem boxR_keys (ps : List (ByteArray × T)) : KeysIn (boxR ps) [s_type, s_validation_method, s_ignore_unmapped] := KeysIn.append (KeysIn.append (keys_T _ _) (keys_T _ _)) (keys_Y _ _)
theorem boxF {f : ByteArray} (h : FieldP f) : f ∉ [s_type, s_validation_method, s_ignore_unmapped] := fun e => by
  have h2 := h.2
  simp only [List.mem_cons, List.not_mem_nil, or_false] at e
  rw [hasS_decB] at h2
  rcases e with rfl | rfl | rfl <;> exact absurd h2 (by decide)
theorem boxQ_last {f : ByteArray} (hf : FieldP f) {ps : List (ByteArray × T)} (hF : FitsB ps) : lastOf (jTree (boxQ f ps)) f = some (mapT (jTree (bxJ ps))) := by
  rw [boxQ_eq hF, lastOf_append, (boxR_keys ps).none (boxF hf)]
  simp [lastOf_cons, lastOf_nil, seq_self]
theorem boxQ_len {ps : List (ByteArray × T)} (hF : FitsB ps) (f : ByteArray) : (jTree (boxQ f ps)).length ≤ 65536 := by
  have h1 := jT_len s_type (lastOf ps s_type)
  have h2 := jT_len s_validation_method (lastOf ps s_validation_method)
  have h3 := jY_len s_ignore_unmapped (lastOf ps s_ignore_unmapped)
  rw [boxQ_eq hF]
  simp only [boxR, jTree, List.length_map, List.length_append, List.length_cons, List.length_nil]
  omega
theorem last_moved {f : ByteArray} {x r : T} {l : List (ByteArray × T)} {L : List ByteArray} (hK : KeysIn l L) (hf : f ∉ L) (k : ByteArray) : lastOf (([(f, x)] ++ l) ++ [(f, r)]) k = lastOf ([(f, r)] ++ l) k := by
  rw [lastOf_snoc, lastOf_append, lastOf_append]
  dsimp only
  cases e : seq f k with
  | true =>
    rw [← seq_iff.1 e, hK.none hf]
    simp [lastOf_cons, lastOf_nil, seq_self]
  | false => simp [lastOf_cons, lastOf_nil, e]
theorem boxL_same {f : ByteArray} (hf : FieldP f) {ps : List (ByteArray × T)} (hF : FitsB ps) (hB : BoxP ps) : sameT (mapT [(s_geo_bounding_box, mapT (jTree (boxQ f ps) ++ [(f, mapT (readBx cornerN (jTree (bxJ ps))))]))]) (mapT [(s_geo_bounding_box, mapT ((f, mapT (boxL ps))   :: tellL ps))]) = true := by
  refine same_one _ (sameT_map ?_)
  have hb : sameT (mapT (readBx cornerN (jTree (bxJ ps)))) (mapT (boxL ps)) = true := sameT_map (box_same (box_ok hF hB))
  have h1 : SameL (boxR ps) (lastL ps s_type ++ lastL ps s_validation_method ++ lastL ps s_ignore_unmapped) := SameL.append (SameL.append (jT_sameB hF (by rw [kindL_dec]; decide)) (jT_sameB hF (by rw [kindL_dec]; decide))) (jY_sameB hF (by rw [kindL_dec]; decide))
  have h2 : SameL (boxR ps) (tellL ps) := by
    intro k
    have h9 := h1 k
    have e : lastOf (lastL ps s_type ++ lastL ps s_validation_method ++ lastL ps s_ignore_unmapped) k = lastOf (tellL ps) k := by
      simp only [tellL, tellN, List.flatMap_cons, List.flatMap_nil, List.append_nil, List.append_assoc]
      rw [lastOf_append, lastOf_append (lastL ps s_type)]
      congr 1
      exact lastOf_swap (keys_lastL ps _) (keys_lastL ps _) (by decide) k
    rw [← e]
    exact h9
  rw [boxQ_eq hF]
  intro k
  rw [last_moved (boxR_keys ps) (boxF hf) k]
  exact (SameL.append (SameL.one f hb) h2) k
end Go.Proofs.Ytfngaoicoecncaa

namespace Go.Proofs.Ytfngaoicoecncaa
open Go.RowKit

set_option maxHeartbeats 4000000 in
theorem geoBoundingBox_law {S : Nat → Prop} (f : ByteArray) (a : Option Addr) (n c : Nat) (ps : List (ByteArray × T)) (w : World) (h : PairsAt S w a n c ps) : Calls Try.prog 3 #[.string f, .slice a n c] w fun r w' => r = .returned (.bool true) ∧ Ext w w' := by
  have hPs := Lib.hid fun w' (x : Ext w w') => (h.keep (S' := fun _ => True) (fun _ _ _ => trivial) (fun _ _ _ => rfl)).ext x
  have hF := Lib.hid fun w' (x : Ext w w') => fits_gen FitX sGeoBoundingBox rGeoBoundingBox a n c ps w' rows_geoBoundingBox (fun name e t w h => fit_atX _ e t w (kindL_memX (by simp [plainK]) name) h) (h.ext x)
  have hD := Lib.hid fun w' (x : Ext w w') => boxFits_any a n c ps w' (h.ext x)
  have hQ := Lib.hid fun w' (x : Ext w w') (hf : f.size ≤ maxLen) (hW5 : ScalarAt ps s_wkt) => geoBoundingBox_any a n c ps w' f hf hW5 (h.ext x)
  clear h
  go_enter Try.func3, Try.ntmps3
  by_cases hsz0 : 2147483647 < f.size
  · go_wp2_with fail
    all_goals (go_ret; exact ⟨rfl, by (repeat (first | exact ext_refl _ | assumption | refine ext_alloc ?_ _ | refine ext_drew ?_ | refine ext_set ?_ (by simp) _ | refine ext_trans ?_ (by assumption)))⟩)
  by_cases hsz1 : 2147483647 < n
  · go_wp2_with fail
    all_goals (go_ret; exact ⟨rfl, by (repeat (first | exact ext_refl _ | assumption | refine ext_alloc ?_ _ | refine ext_drew ?_ | refine ext_set ?_ (by simp) _ | refine ext_trans ?_ (by assumption)))⟩)
  go_wp2_with (first
    | (go_at_call 5; refine (hD.out _ (by (repeat (first | exact ext_refl _ | assumption | refine ext_alloc ?_ _ | refine ext_drew ?_ | refine ext_set ?_ (by simp) _ | refine ext_trans ?_ (by assumption))))).mono ?_; rintro r wds ⟨bds, rfl, hds, hxds⟩; have Hds := Lib.hid hds; clear hds; cases bds)
    | (go_at_call 6; refine (field_any f (by omega) _).mono ?_; rintro r wfd ⟨bfd, rfl, hfd, hxfd⟩; have Hfd := Lib.hid hfd; clear hfd; cases bfd)
    | (go_at_call 7; refine (hF.out _ (by (repeat (first | exact ext_refl _ | assumption | refine ext_alloc ?_ _ | refine ext_drew ?_ | refine ext_set ?_ (by simp) _ | refine ext_trans ?_ (by assumption))))).mono ?_; rintro r wff ⟨bff, rfl, hff, hxff⟩; have Hff := Lib.hid hff; clear hff; cases bff)
    | fail)
  all_goals (try (go_ret; exact ⟨rfl, by (repeat (first | exact ext_refl _ | assumption | refine ext_alloc ?_ _ | refine ext_drew ?_ | refine ext_set ?_ (by simp) _ | refine ext_trans ?_ (by assumption)))⟩))
  have hff : FitsB ps := Hff.out (by trivial)
  have hfd := Hfd.out (by trivial)
  have hbp := Hds.out (by trivial)
  have hfit := Lib.hid (boxL_same hfd hff hbp)
  have HN := Lib.hid (boxN_of hff)
  have HPP := Lib.hid (boxPP hff)
  have HSC := Lib.hid (boxSc hff)
  have hx1 : Ext w wff := by (repeat (first | exact ext_refl _ | assumption | refine ext_alloc ?_ _ | refine ext_drew ?_ | refine ext_set ?_ (by simp) _ | refine ext_trans ?_ (by assumption)))
  refine (hQ.out wff hx1 (by unfold maxLen; omega) (wkt_scalar hff)).mono ?_
  rintro r w3 ⟨e, rfl, hT, hx3⟩
  simp only [El.val]
  rw [jBox_eq, jMap_tree] at hT
  have hb3 : Box (w3.alloc (.cells e.arr 30)) w3.heap.size e.arr 30 := Box.at rfl _ _
  obtain ⟨o0, o1, o2, o3, o4, o5⟩ := hb3.six
  have hx4 : Ext w (w3.alloc (.cells e.arr 30)) := ext_alloc (ext_trans hx1 hx3) _
  have hRP := Lib.hid (readBox_any (S := fun _ => True) f (jTree (boxQ f ps)) (jTree (bxJ ps)) e _ ((hT.ext (ext_alloc (ext_refl w3) (.cells e.arr 30))).any) (boxQ_last hfd hff) (bx_good ps) (boxQ_len hff f) (bx_len ps))
  clear hQ hT hF hD hff hfd hbp Hff Hfd Hds
  go_wp2_with (first
    | (go_at_call 10; refine hRP.out.mono ?_; rintro r w4 ⟨g4, rfl, hT4, hx5⟩; simp only [El.val]; have hx6 := ext_trans hx4 hx5; clear hRP)
    | (go_at_call 11; refine (geoB_any (S := fun _ => True) f a n c ps _ (hPs.out _ hx6) (by omega) HN.out HPP.out HSC.out).mono ?_; rintro r w5 ⟨g5, rfl, hT5, hx7⟩; simp only [El.val]; have hSm := Lib.hid (same_any (S := fun _ => True) _ _ g4 g5 _ ((hT4.ext hx7).any) hT5.any))
    | (go_at_call 9; refine hSm.out.mono ?_; rintro r w8 ⟨rfl, hx12⟩; rw [hfit.out])
    | fail)
  go_ret
  exact ⟨rfl, ext_trans (ext_trans hx6 hx7) hx12⟩
end Go.Proofs.Ytfngaoicoecncaa

namespace Go.Proofs.Ytfngaoicoecncaa
open Go.ChangeShapes Go.WideShapes Go.ChangeAt Go.RowKit

set_option maxRecDepth 100000 in
theorem geoBoundingBox_lifted (os : Os) (started : os.Started) (H : Type) (enc : TypeId × Value → H) :
    ReturnsInHanded {} Try.checked os 3 .any (Rows.fnGeoBoundingBoxSpec.pre6 enc Try.prog Try.f3 Rows.fnGeoBoundingBoxRow.domain false) (Rows.fnGeoBoundingBoxSpec.post enc Try.prog Try.f3 false true false false) := by
  refine returnsInHanded_of_change (C := Try.checked) ownKnobs started (by kernel_rfl) Try.func3
    (ChangeSpec.witness6 (enc := enc) (C := Try.checked) false ⟨#[], #[.string ⟨#[]⟩, .slice none 0 0], []⟩ 8 (by kernel_rfl) (by kernel_rfl) (by kernel_rfl) (by kernel_rfl)) ?_
  intro W base args ds gs before hval hW hcnd _
  have hW' := hW
  obtain ⟨p, q, hA, hV, rfl, hfz, hnd⟩ := hW'
  have hA : DataW.TrodAll enc Try.prog W 0 (fun _ => true) true Try.f3.params.toList args.toList ds p := hA
  rw [Try.params3] at hA hval
  obtain ⟨v0, vs0, d0, ds0, p0, q0, hargs, rfl, rfl, h0, r0⟩ := trodAll_cons hA
  obtain ⟨v1, vs1, d1, ds1, p1, q1, rfl, rfl, rfl, h1, r1⟩ := trodAll_cons r0
  obtain ⟨rfl, rfl, rfl⟩ := trodAll_nil r1
  obtain rfl : args = #[v0, v1] := by cases args; simp_all
  obtain ⟨rfl, rfl⟩ := trodVars_none hV
  obtain ⟨s0, rfl, rfl, rfl, w0⟩ := Go.ChangeMaps.open_string Try.underlying9 (hval 0 9 v0 rfl rfl) h0
  obtain ⟨a1, n1, c1, rfl⟩ := okWide_slice Try.underlying22 (hval 1 22 v1 rfl rfl)
  obtain ⟨fuel1, hf1⟩ := h1
  obtain ⟨a1', n1', c1', ps1, e1, hP1⟩ := sets_of hf1
  simp only [Value.cells, List.cons.injEq, and_true, Value.slice.injEq] at e1
  obtain ⟨rfl, rfl, rfl⟩ := e1
  refine (geoBoundingBox_law s0 a1 n1 c1 ps1 W hP1).mono fun e W' ⟨he, hx⟩ => ?_
  subst he
  exact ⟨_, rfl, post_law laidOut (by kernel_rfl) (by kernel_rfl) Try.underlying4 rfl hW rfl hx⟩

/-- A geo_bounding_box query has two corners that lie across, or a text, in its field, and its settings. -/
theorem geoBoundingBox_proved : Rows.FnGeoBoundingBoxSaid :=
  OpenClaim.holds_of_wide 3 Try.f3 rfl rfl rfl rfl rfl rfl rfl ⟨rfl, rfl, rfl, rfl, rfl⟩ rfl rfl rfl rfl rfl (by kernel_rfl) Try.func3 (by kernel_rfl)
    (of_decide_eq_true (by kernel_rfl)) (by unfold Func.isWrapper; first | (rw [if_pos (by decide +kernel)]; kernel_rfl) | (rw [if_neg (by decide +kernel)]; exact ⟨rfl, rfl⟩))
    (fun os started H enc _ => geoBoundingBox_lifted os started H enc)
#print axioms geoBoundingBox_proved
end Go.Proofs.Ytfngaoicoecncaa

