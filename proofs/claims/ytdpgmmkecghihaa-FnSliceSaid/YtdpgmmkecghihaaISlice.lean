/-
  What the builder of a query (Slice) gives behind settings, in order.
-/
import Derived.Test.YtdpgmmkecghihaaSlice
namespace Go.Proofs.Ytdpgmmkecghihaa
open Go.RowKit

set_option maxHeartbeats 4000000 in
theorem slice_any {S : Nat → Prop} (a : Option Addr) (n c : Nat) (ps : List (ByteArray × T)) (w : World) (hW1 : WholeAt ps s_id) (hW2 : WholeAt ps s_max) (h : PairsAt S w a n c ps) :
    Calls Try.prog 16 #[.slice a n c] w fun r w' => ∃ g : El, r = .returned (.tuple #[g.val, .bool true]) ∧ TreeAt (fun b => w.heap.size + 1 ≤ b) w' g (treeJ (jMap (jT s_field (lastOf ps s_field) ++ jW s_id (lastOf ps s_id) ++ jW s_max (lastOf ps s_max)))) ∧ Ext w w' := by
  obtain ⟨hl, hn, hm, hc⟩ := h
  unfold maxLen at hm
  have HL := Lib.hid hl
  clear hl
  have HW1 := Lib.hid hW1
  clear hW1
  have HW2 := Lib.hid hW2
  clear hW2
  go_enter Try.func16, Try.ntmps16
  go_wp2_with go_in
  go_loopw [10] (fun i wr => Ext w wr ∧ (w.heap.size + 2) ≤ wr.heap.size ∧ Box wr w.heap.size (El.arr El0) 28 ∧ ∃ (j : Nat) (v0 : ByteArray) (v1 : Option Addr) (v2 : Option Addr), j ≤ n ∧ i = .int .i64 j ∧ Box wr (w.heap.size + 1) #[.string v0, .pointer v1, .pointer v2] 150 ∧ v0 = fT (lastOf (ps.take j) s_field) ∧ FW (fun q => (w.heap.size + 2) ≤ q) wr v1 (lastOf (ps.take j) s_id) ∧ FW (fun q => (w.heap.size + 2) ≤ q) wr v2 (lastOf (ps.take j) s_max)) (fun i _ => n - (intOf i).toNat)
  case atStart => exact ⟨by (repeat (first | exact ext_refl _ | assumption | refine ext_alloc ?_ _ | refine ext_drew ?_ | refine ext_set ?_ (by simp) _ | refine ext_trans ?_ (by assumption))), by simp, (Box.at rfl _ _).alloc _, 0, _, _, _, Nat.zero_le _, rfl, Box.at (by simp) _ _, rfl, rfl, rfl⟩
  case round =>
    obtain ⟨hx, hsz, hb0, j, v0, v1, v2, hj, rfl, hbq, h0, h1, h2⟩ := hrel
    have H0 := Lib.hid h0
    have H1 := Lib.hid h1
    have H2 := Lib.hid h2
    clear h0 h1 h2
    have hbql := hbq.lt
    by_cases hlt : j < n
    · obtain ⟨p, hp⟩ := some_of_lt HL.out hlt
      obtain ⟨b, off, ⟨k, x, d, y, ka, kn, kc, ca, m, cc⟩, rfl, hSb, hc7, hT⟩ := hc j p hp
      obtain ⟨z0, z1, z2, z3, z4, z5, z6⟩ := Cells7.ext hx hc7
      have HP := Lib.hid hp
      have hl0 : w.heap.size < wr.heap.size := by omega
      have hl1 : ¬ w.heap.size = wr.heap.size := by omega
      have hl2 : (w.heap.size + 1) < wr.heap.size + 1 := by omega
      have hTx := Lib.hid hT.parts.2.1
      have hTd := Lib.hid hT.parts.2.2.1
      have hTy := Lib.hid hT.parts.2.2.2.1
      clear hp
      have hc0 := hbq.cell 0 _ rfl
      have hf0 := hbq.free 0
      have hc1 := hbq.cell 1 _ rfl
      have hf1 := hbq.free 1
      have hc2 := hbq.cell 2 _ rfl
      have hf2 := hbq.free 2
      cases he0 : p.1.toList == [102, 105, 101, 108, 100]
      · have e0 : seq p.1 s_field = false := by rw [seq, show s_field.toList = [102, 105, 101, 108, 100] by rw [Lib.toList_data]]; exact he0
        cases he1 : p.1.toList == [105, 100]
        · have e1 : seq p.1 s_id = false := by rw [seq, show s_id.toList = [105, 100] by rw [Lib.toList_data]]; exact he1
          cases he2 : p.1.toList == [109, 97, 120]
          · have e2 : seq p.1 s_max = false := by rw [seq, show s_max.toList = [109, 97, 120] by rw [Lib.toList_data]]; exact he2
            go_wp2_with go_in
            go_roundw
            case rel =>
              have hy := ext_alloc (ext_refl wr) (.cells #[.string p.1, .int .i64 k, .string x, .float .f64 d, .bool y, .slice ka kn kc, .slice ca m cc] 73)
              exact ⟨ext_trans hx hy, Nat.le_trans hsz hy.sz, hb0.ext hy, j + 1, v0, v1, v2, by omega, by go_num, hbq.ext hy, by rw [last_miss HP.out e0]; exact H0.out, by rw [last_miss HP.out e1]; exact FW.ext hy H1.out, by rw [last_miss HP.out e2]; exact FW.ext hy H2.out⟩
            case measure => simp [intOf]; omega
          · have e2 : seq p.1 s_max = true := by rw [seq, show s_max.toList = [109, 97, 120] by rw [Lib.toList_data]]; exact he2
            obtain ⟨z, hz, -⟩ := HW2.out p (List.mem_of_getElem? HP.out) e2
            have hcv : ∀ w, (convert 24 3 (.float .f64 d)).run Try.prog w = .ok (.int .i64 z) w := fun w => run_convert_float_int w 24 3 .f64 .i64 d z (by rw [Try.underlying24]; rfl) Try.underlying3 (show floatToIntVal .f64 d .i64 = some z from by have h9 : d = p.2.num := hTd.out; rw [h9]; exact hz)
            have HZ := Lib.hid hz
            clear hz
            go_wp2_with go_in
            go_roundw
            case rel =>
              have hk : Keeps (fun q => (w.heap.size + 2) ≤ q) wr (((wr.setCell ⟨(w.heap.size + 1), 2, none⟩ (.pointer (some ⟨wr.heap.size + 1, 0, none⟩))).alloc (.cells #[.string p.1, .int .i64 k, .string x, .float .f64 d, .bool y, .slice ka kn kc, .slice ca m cc] 73)).alloc (.cells #[.int .i64 z] 3)) := fun q hq hlt => (Below.heap_alloc _ _ _ (by simp; omega)).trans ((Below.heap_alloc _ _ _ (by simpa using hlt)).trans (Below.heap_setCell _ _ _ _ (by simp; omega)))
              have hnew : (((wr.setCell ⟨(w.heap.size + 1), 2, none⟩ (.pointer (some ⟨wr.heap.size + 1, 0, none⟩))).alloc (.cells #[.string p.1, .int .i64 k, .string x, .float .f64 d, .bool y, .slice ka kn kc, .slice ca m cc] 73)).alloc (.cells #[.int .i64 z] 3)).cell? ⟨wr.heap.size + 1, 0, none⟩ = some (.int .i64 z) := (Box.at (by simp) _ _).cell 0 _ rfl
              exact ⟨ext_alloc (ext_alloc (ext_set hx (by simp) _) _) _, by simp; omega, ((hb0.other (by simp) _).alloc _).alloc _, j + 1, v0, v1, some ⟨wr.heap.size + 1, 0, none⟩, by omega, by go_num, ((hbq.set 2 _).alloc _).alloc _, by rw [last_other HP.out e2 (seq_false.2 (by decide))]; exact H0.out, by rw [last_other HP.out e2 (seq_false.2 (by decide))]; exact FW.keep (fun _ h _ => h) hk H1.out, by rw [last_hit HP.out e2]; exact ⟨wr.heap.size + 1, z, rfl, by omega, hnew, HZ.out⟩⟩
            case measure => simp [intOf]; omega
        · have e1 : seq p.1 s_id = true := by rw [seq, show s_id.toList = [105, 100] by rw [Lib.toList_data]]; exact he1
          obtain ⟨z, hz, -⟩ := HW1.out p (List.mem_of_getElem? HP.out) e1
          have hcv : ∀ w, (convert 24 3 (.float .f64 d)).run Try.prog w = .ok (.int .i64 z) w := fun w => run_convert_float_int w 24 3 .f64 .i64 d z (by rw [Try.underlying24]; rfl) Try.underlying3 (show floatToIntVal .f64 d .i64 = some z from by have h9 : d = p.2.num := hTd.out; rw [h9]; exact hz)
          have HZ := Lib.hid hz
          clear hz
          go_wp2_with go_in
          go_roundw
          case rel =>
            have hk : Keeps (fun q => (w.heap.size + 2) ≤ q) wr (((wr.setCell ⟨(w.heap.size + 1), 1, none⟩ (.pointer (some ⟨wr.heap.size + 1, 0, none⟩))).alloc (.cells #[.string p.1, .int .i64 k, .string x, .float .f64 d, .bool y, .slice ka kn kc, .slice ca m cc] 73)).alloc (.cells #[.int .i64 z] 3)) := fun q hq hlt => (Below.heap_alloc _ _ _ (by simp; omega)).trans ((Below.heap_alloc _ _ _ (by simpa using hlt)).trans (Below.heap_setCell _ _ _ _ (by simp; omega)))
            have hnew : (((wr.setCell ⟨(w.heap.size + 1), 1, none⟩ (.pointer (some ⟨wr.heap.size + 1, 0, none⟩))).alloc (.cells #[.string p.1, .int .i64 k, .string x, .float .f64 d, .bool y, .slice ka kn kc, .slice ca m cc] 73)).alloc (.cells #[.int .i64 z] 3)).cell? ⟨wr.heap.size + 1, 0, none⟩ = some (.int .i64 z) := (Box.at (by simp) _ _).cell 0 _ rfl
            exact ⟨ext_alloc (ext_alloc (ext_set hx (by simp) _) _) _, by simp; omega, ((hb0.other (by simp) _).alloc _).alloc _, j + 1, v0, some ⟨wr.heap.size + 1, 0, none⟩, v2, by omega, by go_num, ((hbq.set 1 _).alloc _).alloc _, by rw [last_other HP.out e1 (seq_false.2 (by decide))]; exact H0.out, by rw [last_hit HP.out e1]; exact ⟨wr.heap.size + 1, z, rfl, by omega, hnew, HZ.out⟩, by rw [last_other HP.out e1 (seq_false.2 (by decide))]; exact FW.keep (fun _ h _ => h) hk H2.out⟩
          case measure => simp [intOf]; omega
      · have e0 : seq p.1 s_field = true := by rw [seq, show s_field.toList = [102, 105, 101, 108, 100] by rw [Lib.toList_data]]; exact he0
        go_wp2_with go_in
        go_roundw
        case rel =>
          have hk : Keeps (fun q => (w.heap.size + 2) ≤ q) wr ((wr.setCell ⟨(w.heap.size + 1), 0, none⟩ (.string x)).alloc (.cells #[.string p.1, .int .i64 k, .string x, .float .f64 d, .bool y, .slice ka kn kc, .slice ca m cc] 73)) := fun q hq hlt => (Below.heap_alloc _ _ _ (by simpa using hlt)).trans (Below.heap_setCell _ _ _ _ (by simp; omega))
          exact ⟨ext_alloc (ext_set hx (by simp) _) _, by simp; omega, (hb0.other (by simp) _).alloc _, j + 1, x, v1, v2, by omega, by go_num, (hbq.set 0 _).alloc _, by rw [last_hit HP.out e0]; exact hTx.out, by rw [last_other HP.out e0 (seq_false.2 (by decide))]; exact FW.keep (fun _ h _ => h) hk H1.out, by rw [last_other HP.out e0 (seq_false.2 (by decide))]; exact FW.keep (fun _ h _ => h) hk H2.out⟩
        case measure => simp [intOf]; omega
    · have hjn : j = n := by omega
      have hfull : ps.take j = ps := List.take_of_length_le (by have := HL.out; omega)
      rw [hfull] at H0 H1 H2
      have hS := slice_src (S := fun q => (w.heap.size + 2) ≤ q) wr (w.heap.size + 1) v0 _ H0.out v1 _ H1.out v2 _ H2.out hbq
      go_wp2_with (first
        | (go_at_call 61; refine hS.mono ?_; rintro r w2 ⟨v, rfl, hJ, hx2⟩)
        | (go_at_call 60; refine (told_any v _ _ hJ).mono ?_; rintro r w3 ⟨e2, rfl, hT3, hx3⟩; simp only [El.val]
           have hb := (hb0.ext hx2).ext hx3; obtain ⟨o0, o1, o2, o3, o4, o5⟩ := hb.six; have f0 := hb.free 0; have f1 := hb.free 1; have f2 := hb.free 2; have f3 := hb.free 3; have f4 := hb.free 4; have f5 := hb.free 5))
      have hx4 := ext_trans hx (ext_trans hx2 hx3)
      have hs2 := hx2.sz
      refine post_tree2 rfl rfl (hb.sto e2) rfl ⟨e2, rfl, ?_, ext_sto6 hx4 (Nat.le_refl _) _ _ _ _ _ _⟩
      have hfin := TreeAt.keep (S := fun b => w2.heap.size ≤ b) (S' := fun b => w.heap.size + 1 ≤ b) (fun b hb _ => by omega) (keeps_sto (b := w.heap.size) w3 (by omega) e2) _ hT3
      simp only [List.append_assoc] at hfin ⊢
      exact hfin
end Go.Proofs.Ytdpgmmkecghihaa
