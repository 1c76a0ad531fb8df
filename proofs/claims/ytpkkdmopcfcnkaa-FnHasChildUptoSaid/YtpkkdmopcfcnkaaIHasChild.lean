/-
  What the builder of a query (HasChild) gives behind settings, in order.
-/
import Derived.Test.YtpkkdmopcfcnkaaHasChild
namespace Go.Proofs.Ytpkkdmopcfcnkaa
open Go.RowKit

set_option maxRecDepth 20000 in
set_option maxHeartbeats 4000000 in
theorem hasChild_any {S : Nat → Prop} (a : Option Addr) (n c : Nat) (ps : List (ByteArray × T)) (w : World) (f : ByteArray) (ge : El) (gt : T) (hgT : TreeAt S w ge gt) (hgF : FullT gt) (hW4 : WholeAt ps s_min_children) (hW5 : WholeAt ps s_max_children) (h : PairsAt S w a n c ps) :
    Calls Try.prog 25 #[.string f, ge.val, .slice a n c] w fun r w' => ∃ g : El, r = .returned (.tuple #[g.val, .bool true]) ∧ TreeAt (fun b => w.heap.size + 1 ≤ b) w' g (treeJ (jMap [(s_has_child, jMap ([(s_query, jFull gt)] ++ [(s_type, J.str f)] ++ jN s_boost (lastOf ps s_boost) ++ jT s_score_mode (lastOf ps s_score_mode) ++ jW s_min_children (lastOf ps s_min_children) ++ jW s_max_children (lastOf ps s_max_children) ++ jT s_name (lastOf ps s_name)))])) ∧ Ext w w' := by
  obtain ⟨hl, hn, hm, hc⟩ := h
  unfold maxLen at hm
  have HL := Lib.hid hl
  clear hl
  have HW4 := Lib.hid hW4
  clear hW4
  have HW5 := Lib.hid hW5
  clear hW5
  have HTg := Lib.hid (fun (w1 : World) (x : Ext w w1) => (TreeAt.ext x hgT).any)
  clear hgT
  simp only [El.val]
  go_enter Try.func25, Try.ntmps25
  go_wp2_with go_in
  go_loopw [18] (fun i wr => Ext w wr ∧ (w.heap.size + 1 + 1 + 1) ≤ wr.heap.size ∧ Box wr (w.heap.size + 1) (El.arr El0) 26 ∧ ∃ (j : Nat) (v2 : Option Addr) (v3 : ByteArray) (v4 : Option Addr) (v5 : Option Addr) (v7 : ByteArray), j ≤ n ∧ i = .int .i64 j ∧ Box wr (w.heap.size + 1 + 1) #[.iface 73 ge.val, .string f, .pointer v2, .string v3, .pointer v4, .pointer v5, .pointer none, .string v7, .pointer none] 173 ∧ FN (fun q => q ≠ (w.heap.size + 1 + 1)) wr v2 (lastOf (ps.take j) s_boost) ∧ v3 = fT (lastOf (ps.take j) s_score_mode) ∧ FW (fun q => q ≠ (w.heap.size + 1 + 1)) wr v4 (lastOf (ps.take j) s_min_children) ∧ FW (fun q => q ≠ (w.heap.size + 1 + 1)) wr v5 (lastOf (ps.take j) s_max_children) ∧ v7 = fT (lastOf (ps.take j) s_name)) (fun i _ => n - (intOf i).toNat)
  case atStart => exact ⟨by (repeat (first | exact ext_refl _ | assumption | refine ext_alloc ?_ _ | refine ext_drew ?_ | refine ext_set ?_ (by simp) _ | refine ext_trans ?_ (by assumption))), by simp, (Box.at (by simp) _ _).alloc _, 0, _, _, _, _, _, Nat.zero_le _, rfl, Box.at (by simp) _ _, rfl, rfl, rfl, rfl, rfl⟩
  case round =>
    obtain ⟨hx, hsz, hb0, j, v2, v3, v4, v5, v7, hj, rfl, hbq, h2, h3, h4, h5, h7⟩ := hrel
    have H2 := Lib.hid h2
    have H3 := Lib.hid h3
    have H4 := Lib.hid h4
    have H5 := Lib.hid h5
    have H7 := Lib.hid h7
    clear h2 h3 h4 h5 h7
    have hbql := hbq.lt
    by_cases hlt : j < n
    · obtain ⟨p, hp⟩ := some_of_lt HL.out hlt
      obtain ⟨b, off, ⟨k, x, d, y, ka, kn, kc, ca, m, cc⟩, rfl, hSb, hc7, hT⟩ := hc j p hp
      obtain ⟨z0, z1, z2, z3, z4, z5, z6⟩ := Cells7.ext hx hc7
      have HP := Lib.hid hp
      have hl0 : (w.heap.size + 1) < wr.heap.size := by omega
      have hl1 : ¬ (w.heap.size + 1) = wr.heap.size := by omega
      have hl2 : (w.heap.size + 1 + 1) < wr.heap.size + 1 := by omega
      have hTx := Lib.hid hT.parts.2.1
      have hTd := Lib.hid hT.parts.2.2.1
      have hTy := Lib.hid hT.parts.2.2.2.1
      clear hp
      have hc0 := hbq.cell 0 _ rfl
      have hf0 := hbq.free 0
      have hc1 := hbq.cell 1 _ rfl
      have hf1 := hbq.free 1
      have hc2 := hbq.cell 2 _ rfl
      have hf2 := hbq.free 2
      have hc3 := hbq.cell 3 _ rfl
      have hf3 := hbq.free 3
      have hc4 := hbq.cell 4 _ rfl
      have hf4 := hbq.free 4
      have hc5 := hbq.cell 5 _ rfl
      have hf5 := hbq.free 5
      have hc6 := hbq.cell 6 _ rfl
      have hf6 := hbq.free 6
      have hc7 := hbq.cell 7 _ rfl
      have hf7 := hbq.free 7
      have hc8 := hbq.cell 8 _ rfl
      have hf8 := hbq.free 8
      cases he0 : p.1.toList == [98, 111, 111, 115, 116]
      · have e0 : seq p.1 s_boost = false := by rw [seq, show s_boost.toList = [98, 111, 111, 115, 116] by rw [Lib.toList_data]]; exact he0
        cases he1 : p.1.toList == [109, 97, 120, 95, 99, 104, 105, 108, 100, 114, 101, 110]
        · have e1 : seq p.1 s_max_children = false := by rw [seq, show s_max_children.toList = [109, 97, 120, 95, 99, 104, 105, 108, 100, 114, 101, 110] by rw [Lib.toList_data]]; exact he1
          cases he2 : p.1.toList == [109, 105, 110, 95, 99, 104, 105, 108, 100, 114, 101, 110]
          · have e2 : seq p.1 s_min_children = false := by rw [seq, show s_min_children.toList = [109, 105, 110, 95, 99, 104, 105, 108, 100, 114, 101, 110] by rw [Lib.toList_data]]; exact he2
            cases he3 : p.1.toList == [115, 99, 111, 114, 101, 95, 109, 111, 100, 101]
            · have e3 : seq p.1 s_score_mode = false := by rw [seq, show s_score_mode.toList = [115, 99, 111, 114, 101, 95, 109, 111, 100, 101] by rw [Lib.toList_data]]; exact he3
              cases he4 : p.1.toList == [95, 110, 97, 109, 101]
              · have e4 : seq p.1 s_name = false := by rw [seq, show s_name.toList = [95, 110, 97, 109, 101] by rw [Lib.toList_data]]; exact he4
                go_wp2_with go_in
                go_roundw
                case rel =>
                  have hy := ext_alloc (ext_refl wr) (.cells #[.string p.1, .int .i64 k, .string x, .float .f64 d, .bool y, .slice ka kn kc, .slice ca m cc] 69)
                  exact ⟨ext_trans hx hy, Nat.le_trans hsz hy.sz, hb0.ext hy, j + 1, v2, v3, v4, v5, v7, by omega, by go_num, hbq.ext hy, by rw [last_miss HP.out e0]; exact FN.ext hy H2.out, by rw [last_miss HP.out e3]; exact H3.out, by rw [last_miss HP.out e2]; exact FW.ext hy H4.out, by rw [last_miss HP.out e1]; exact FW.ext hy H5.out, by rw [last_miss HP.out e4]; exact H7.out⟩
                case measure => simp [intOf]; omega
              · have e4 : seq p.1 s_name = true := by rw [seq, show s_name.toList = [95, 110, 97, 109, 101] by rw [Lib.toList_data]]; exact he4
                go_wp2_with go_in
                go_roundw
                case rel =>
                  have hk : Keeps (fun q => q ≠ (w.heap.size + 1 + 1)) wr ((wr.setCell ⟨(w.heap.size + 1 + 1), 7, none⟩ (.string x)).alloc (.cells #[.string p.1, .int .i64 k, .string x, .float .f64 d, .bool y, .slice ka kn kc, .slice ca m cc] 69)) := fun q hq hlt => (Below.heap_alloc _ _ _ (by simpa using hlt)).trans (Below.heap_setCell _ _ _ _ (by simp; omega))
                  exact ⟨ext_alloc (ext_set hx (by simp <;> omega) _) _, by simp; omega, (hb0.other (by simp <;> omega) _).alloc _, j + 1, v2, v3, v4, v5, x, by omega, by go_num, (hbq.set 7 _).alloc _, by rw [last_other HP.out e4 (seq_false.2 (by decide))]; exact FN.keep (fun _ h _ => h) hk H2.out, by rw [last_other HP.out e4 (seq_false.2 (by decide))]; exact H3.out, by rw [last_other HP.out e4 (seq_false.2 (by decide))]; exact FW.keep (fun _ h _ => h) hk H4.out, by rw [last_other HP.out e4 (seq_false.2 (by decide))]; exact FW.keep (fun _ h _ => h) hk H5.out, by rw [last_hit HP.out e4]; exact hTx.out⟩
                case measure => simp [intOf]; omega
            · have e3 : seq p.1 s_score_mode = true := by rw [seq, show s_score_mode.toList = [115, 99, 111, 114, 101, 95, 109, 111, 100, 101] by rw [Lib.toList_data]]; exact he3
              go_wp2_with go_in
              go_roundw
              case rel =>
                have hk : Keeps (fun q => q ≠ (w.heap.size + 1 + 1)) wr ((wr.setCell ⟨(w.heap.size + 1 + 1), 3, none⟩ (.string x)).alloc (.cells #[.string p.1, .int .i64 k, .string x, .float .f64 d, .bool y, .slice ka kn kc, .slice ca m cc] 69)) := fun q hq hlt => (Below.heap_alloc _ _ _ (by simpa using hlt)).trans (Below.heap_setCell _ _ _ _ (by simp; omega))
                exact ⟨ext_alloc (ext_set hx (by simp <;> omega) _) _, by simp; omega, (hb0.other (by simp <;> omega) _).alloc _, j + 1, v2, x, v4, v5, v7, by omega, by go_num, (hbq.set 3 _).alloc _, by rw [last_other HP.out e3 (seq_false.2 (by decide))]; exact FN.keep (fun _ h _ => h) hk H2.out, by rw [last_hit HP.out e3]; exact hTx.out, by rw [last_other HP.out e3 (seq_false.2 (by decide))]; exact FW.keep (fun _ h _ => h) hk H4.out, by rw [last_other HP.out e3 (seq_false.2 (by decide))]; exact FW.keep (fun _ h _ => h) hk H5.out, by rw [last_other HP.out e3 (seq_false.2 (by decide))]; exact H7.out⟩
              case measure => simp [intOf]; omega
          · have e2 : seq p.1 s_min_children = true := by rw [seq, show s_min_children.toList = [109, 105, 110, 95, 99, 104, 105, 108, 100, 114, 101, 110] by rw [Lib.toList_data]]; exact he2
            obtain ⟨z, hz, -⟩ := HW4.out p (List.mem_of_getElem? HP.out) e2
            have hcv : ∀ w, (convert 22 3 (.float .f64 d)).run Try.prog w = .ok (.int .i64 z) w := fun w => run_convert_float_int w 22 3 .f64 .i64 d z (by rw [Try.underlying22]; rfl) Try.underlying3 (show floatToIntVal .f64 d .i64 = some z from by have h9 : d = p.2.num := hTd.out; rw [h9]; exact hz)
            have HZ := Lib.hid hz
            clear hz
            go_wp2_with go_in
            go_roundw
            case rel =>
              have hk : Keeps (fun q => q ≠ (w.heap.size + 1 + 1)) wr (((wr.setCell ⟨(w.heap.size + 1 + 1), 4, none⟩ (.pointer (some ⟨wr.heap.size + 1, 0, none⟩))).alloc (.cells #[.string p.1, .int .i64 k, .string x, .float .f64 d, .bool y, .slice ka kn kc, .slice ca m cc] 69)).alloc (.cells #[.int .i64 z] 3)) := fun q hq hlt => (Below.heap_alloc _ _ _ (by simp; omega)).trans ((Below.heap_alloc _ _ _ (by simpa using hlt)).trans (Below.heap_setCell _ _ _ _ (by simp; omega)))
              have hnew : (((wr.setCell ⟨(w.heap.size + 1 + 1), 4, none⟩ (.pointer (some ⟨wr.heap.size + 1, 0, none⟩))).alloc (.cells #[.string p.1, .int .i64 k, .string x, .float .f64 d, .bool y, .slice ka kn kc, .slice ca m cc] 69)).alloc (.cells #[.int .i64 z] 3)).cell? ⟨wr.heap.size + 1, 0, none⟩ = some (.int .i64 z) := (Box.at (by simp) _ _).cell 0 _ rfl
              exact ⟨ext_alloc (ext_alloc (ext_set hx (by simp <;> omega) _) _) _, by simp; omega, ((hb0.other (by simp <;> omega) _).alloc _).alloc _, j + 1, v2, v3, some ⟨wr.heap.size + 1, 0, none⟩, v5, v7, by omega, by go_num, ((hbq.set 4 _).alloc _).alloc _, by rw [last_other HP.out e2 (seq_false.2 (by decide))]; exact FN.keep (fun _ h _ => h) hk H2.out, by rw [last_other HP.out e2 (seq_false.2 (by decide))]; exact H3.out, by rw [last_hit HP.out e2]; exact ⟨wr.heap.size + 1, z, rfl, by omega, hnew, HZ.out⟩, by rw [last_other HP.out e2 (seq_false.2 (by decide))]; exact FW.keep (fun _ h _ => h) hk H5.out, by rw [last_other HP.out e2 (seq_false.2 (by decide))]; exact H7.out⟩
            case measure => simp [intOf]; omega
        · have e1 : seq p.1 s_max_children = true := by rw [seq, show s_max_children.toList = [109, 97, 120, 95, 99, 104, 105, 108, 100, 114, 101, 110] by rw [Lib.toList_data]]; exact he1
          obtain ⟨z, hz, -⟩ := HW5.out p (List.mem_of_getElem? HP.out) e1
          have hcv : ∀ w, (convert 22 3 (.float .f64 d)).run Try.prog w = .ok (.int .i64 z) w := fun w => run_convert_float_int w 22 3 .f64 .i64 d z (by rw [Try.underlying22]; rfl) Try.underlying3 (show floatToIntVal .f64 d .i64 = some z from by have h9 : d = p.2.num := hTd.out; rw [h9]; exact hz)
          have HZ := Lib.hid hz
          clear hz
          go_wp2_with go_in
          go_roundw
          case rel =>
            have hk : Keeps (fun q => q ≠ (w.heap.size + 1 + 1)) wr (((wr.setCell ⟨(w.heap.size + 1 + 1), 5, none⟩ (.pointer (some ⟨wr.heap.size + 1, 0, none⟩))).alloc (.cells #[.string p.1, .int .i64 k, .string x, .float .f64 d, .bool y, .slice ka kn kc, .slice ca m cc] 69)).alloc (.cells #[.int .i64 z] 3)) := fun q hq hlt => (Below.heap_alloc _ _ _ (by simp; omega)).trans ((Below.heap_alloc _ _ _ (by simpa using hlt)).trans (Below.heap_setCell _ _ _ _ (by simp; omega)))
            have hnew : (((wr.setCell ⟨(w.heap.size + 1 + 1), 5, none⟩ (.pointer (some ⟨wr.heap.size + 1, 0, none⟩))).alloc (.cells #[.string p.1, .int .i64 k, .string x, .float .f64 d, .bool y, .slice ka kn kc, .slice ca m cc] 69)).alloc (.cells #[.int .i64 z] 3)).cell? ⟨wr.heap.size + 1, 0, none⟩ = some (.int .i64 z) := (Box.at (by simp) _ _).cell 0 _ rfl
            exact ⟨ext_alloc (ext_alloc (ext_set hx (by simp <;> omega) _) _) _, by simp; omega, ((hb0.other (by simp <;> omega) _).alloc _).alloc _, j + 1, v2, v3, v4, some ⟨wr.heap.size + 1, 0, none⟩, v7, by omega, by go_num, ((hbq.set 5 _).alloc _).alloc _, by rw [last_other HP.out e1 (seq_false.2 (by decide))]; exact FN.keep (fun _ h _ => h) hk H2.out, by rw [last_other HP.out e1 (seq_false.2 (by decide))]; exact H3.out, by rw [last_other HP.out e1 (seq_false.2 (by decide))]; exact FW.keep (fun _ h _ => h) hk H4.out, by rw [last_hit HP.out e1]; exact ⟨wr.heap.size + 1, z, rfl, by omega, hnew, HZ.out⟩, by rw [last_other HP.out e1 (seq_false.2 (by decide))]; exact H7.out⟩
          case measure => simp [intOf]; omega
      · have e0 : seq p.1 s_boost = true := by rw [seq, show s_boost.toList = [98, 111, 111, 115, 116] by rw [Lib.toList_data]]; exact he0
        go_wp2_with go_in
        go_roundw
        case rel =>
          have hk : Keeps (fun q => q ≠ (w.heap.size + 1 + 1)) wr (((wr.setCell ⟨(w.heap.size + 1 + 1), 2, none⟩ (.pointer (some ⟨wr.heap.size + 1, 0, none⟩))).alloc (.cells #[.string p.1, .int .i64 k, .string x, .float .f64 d, .bool y, .slice ka kn kc, .slice ca m cc] 69)).alloc (.cells #[.float .f64 d] 22)) := fun q hq hlt => (Below.heap_alloc _ _ _ (by simp; omega)).trans ((Below.heap_alloc _ _ _ (by simpa using hlt)).trans (Below.heap_setCell _ _ _ _ (by simp; omega)))
          have hnew : (((wr.setCell ⟨(w.heap.size + 1 + 1), 2, none⟩ (.pointer (some ⟨wr.heap.size + 1, 0, none⟩))).alloc (.cells #[.string p.1, .int .i64 k, .string x, .float .f64 d, .bool y, .slice ka kn kc, .slice ca m cc] 69)).alloc (.cells #[.float .f64 d] 22)).cell? ⟨wr.heap.size + 1, 0, none⟩ = some (.float .f64 d) := (Box.at (by simp) _ _).cell 0 _ rfl
          exact ⟨ext_alloc (ext_alloc (ext_set hx (by simp <;> omega) _) _) _, by simp; omega, ((hb0.other (by simp <;> omega) _).alloc _).alloc _, j + 1, some ⟨wr.heap.size + 1, 0, none⟩, v3, v4, v5, v7, by omega, by go_num, ((hbq.set 2 _).alloc _).alloc _, by rw [last_hit HP.out e0]; exact ⟨wr.heap.size + 1, rfl, by omega, by rw [← hTd.out]; exact hnew⟩, by rw [last_other HP.out e0 (seq_false.2 (by decide))]; exact H3.out, by rw [last_other HP.out e0 (seq_false.2 (by decide))]; exact FW.keep (fun _ h _ => h) hk H4.out, by rw [last_other HP.out e0 (seq_false.2 (by decide))]; exact FW.keep (fun _ h _ => h) hk H5.out, by rw [last_other HP.out e0 (seq_false.2 (by decide))]; exact H7.out⟩
        case measure => simp [intOf]; omega
    · have hjn : j = n := by omega
      have hfull : ps.take j = ps := List.take_of_length_le (by have := HL.out; omega)
      rw [hfull] at H2 H3 H4 H5 H7
      have hS := hasChild_src (S := fun q => q ≠ (w.heap.size + 1 + 1)) wr (w.heap.size + 1 + 1) ge gt (HTg.out wr hx) hgF f v2 _ H2.out v3 _ H3.out v4 _ H4.out v5 _ H5.out v7 _ H7.out hbq
      go_wp2_with (first
        | (go_at_call 81; refine hS.mono ?_; rintro r w2 ⟨v, rfl, hJ, hx2⟩)
        | (go_at_call 49; refine (told_any v _ _ hJ).mono ?_; rintro r w3 ⟨e2, rfl, hT3, hx3⟩; simp only [El.val]
           have hb := (hb0.ext hx2).ext hx3; obtain ⟨o0, o1, o2, o3, o4, o5⟩ := hb.six; have f0 := hb.free 0; have f1 := hb.free 1; have f2 := hb.free 2; have f3 := hb.free 3; have f4 := hb.free 4; have f5 := hb.free 5))
      have hx4 := ext_trans hx (ext_trans hx2 hx3)
      have hs2 := hx2.sz
      refine post_tree2 rfl rfl (hb.sto e2) rfl ⟨e2, rfl, ?_, ext_sto6 hx4 (by omega) _ _ _ _ _ _⟩
      have hfin := TreeAt.keep (S := fun b => w2.heap.size ≤ b) (S' := fun b => w.heap.size + 1 ≤ b) (fun b hb _ => by omega) (keeps_sto (b := (w.heap.size + 1)) w3 (by omega) e2) _ hT3
      simp only [List.append_assoc, List.cons_append, List.nil_append] at hfin ⊢
      exact hfin
end Go.Proofs.Ytpkkdmopcfcnkaa
