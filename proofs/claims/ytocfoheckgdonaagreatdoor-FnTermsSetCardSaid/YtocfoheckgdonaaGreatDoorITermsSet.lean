/-
  What the builder of a query (TermsSet) gives behind settings, in order.
-/
import Derived.Test.YtocfoheckgdonaaGreatDoorTermsSet
import Derived.Test.YtocfoheckgdonaaGreatDoorNewTermsSet
namespace Go.Proofs.YtocfoheckgdonaaGreatDoor
open Go.RowKit

set_option maxRecDepth 20000 in
set_option maxHeartbeats 4000000 in
theorem termsSet_any {S : Nat → Prop} (a : Option Addr) (n c : Nat) (ps : List (ByteArray × T)) (w : World) (f : ByteArray) (hf_le : f.size ≤ maxLen) (ua0 : Option Addr) (un0 uc0 : Nat) (u : List T) (hu0 : KidsAt S w ua0 un0 uc0 u) (hup : 0 < un0) (hub : un0 ≤ 2147483647) (huS : ∀ t ∈ u, PlainT t) (h : PairsAt S w a n c ps) :
    Calls Tryz.prog 20 #[.string f, .slice ua0 un0 uc0, .slice a n c] w fun r w' => ∃ g : El, r = .returned (.tuple #[g.val, .bool true]) ∧ TreeAt (fun b => w.heap.size + 1 ≤ b) w' g (treeJ (jMap [(s_terms_set, jMap [(f, jMap ([(s_terms, J.list (u.map jOf))] ++ jT s_minimum_should_match_field (lastOf ps s_minimum_should_match_field) ++ jN s_boost (lastOf ps s_boost) ++ jT s_name (lastOf ps s_name)))])])) ∧ Ext w w' := by
  obtain ⟨hl, hn, hm, hc⟩ := h
  unfold maxLen at hm
  have HL := Lib.hid hl
  clear hl
  have HPu := Lib.hid (fun (w1 : World) (x : Ext w w1) => plains_any ua0 un0 uc0 u w1 (hu0.ext x) huS hup hub)
  have hul := hu0.1
  clear hu0
  go_enter Tryz.func20, Tryz.ntmps20
  go_wp2_with (first
    | (go_at_call 59; refine (HPu.out _ (by (repeat (first | exact ext_refl _ | assumption | refine ext_alloc ?_ _ | refine ext_drew ?_ | refine ext_set ?_ (by simp) _ | refine ext_trans ?_ (by assumption))))).mono ?_; rintro r w1 ⟨g1, c1, vs, rfl, hO1, hV1, hx1⟩)
    | (go_at_call 58; refine (newTermsSet_any f g1 un0 c1 _ vs _ _ hO1 hV1 hup hub).mono ?_; rintro r w2 ⟨bq, ug, ucap, rfl, hbs, hJL, hbq1, hx2⟩)
    | fail)
  have hxs : Ext w w2 := ext_trans (ext_trans (ext_alloc (ext_refl _) _) hx1) hx2
  have hb0s : Box w2 w.heap.size (El.arr El0) 26 := (((Box.at rfl _ _ : Box (w.alloc (.cells (El.arr El0) 26)) w.heap.size (El.arr El0) 26).ext hx1).ext hx2)
  have hbq2 : w.heap.size + 1 ≤ bq := by
    have := hx1.sz
    simp at this hbq1
    omega
  have hss : bq + 1 ≤ w2.heap.size := hbs.lt
  subst hul
  have hJLs := hJL
  go_loopw [17] (fun i wr => Ext w wr ∧ (bq + 1) ≤ wr.heap.size ∧ Box wr w.heap.size (El.arr El0) 26 ∧ ∃ (j : Nat) (v2 : ByteArray) (v4 : ByteArray) (v5 : Option Addr), j ≤ n ∧ i = .int .i64 j ∧ Box wr bq #[.string f, .slice (some ⟨ug, 0, none⟩) u.length ucap, .string v2, .pointer none, .string v4, .pointer v5] 131 ∧ v2 = fT (lastOf (ps.take j) s_minimum_should_match_field) ∧ v4 = fT (lastOf (ps.take j) s_name) ∧ FN (fun q => q ≠ bq) wr v5 (lastOf (ps.take j) s_boost) ∧ JAt (fun q => q ≠ bq) wr (.iface 80 (.slice (some ⟨ug, 0, none⟩) u.length ucap)) (J.list (u.map jOf))) (fun i _ => n - (intOf i).toNat)
  case atStart => exact ⟨hxs, hss, hb0s, 0, _, _, _, Nat.zero_le _, rfl, hbs, rfl, rfl, rfl, hJLs⟩
  case round =>
    obtain ⟨hx, hsz, hb0, j, v2, v4, v5, hj, rfl, hbq, h2, h4, h5, hJLu⟩ := hrel
    have H2 := Lib.hid h2
    have H4 := Lib.hid h4
    have H5 := Lib.hid h5
    have HJLu := Lib.hid hJLu
    clear hJLu
    clear h2 h4 h5
    have hbql := hbq.lt
    by_cases hlt : j < n
    · obtain ⟨p, hp⟩ := some_of_lt HL.out hlt
      obtain ⟨b, off, ⟨k, x, d, y, ka, kn, kc, ca, m, cc⟩, rfl, hSb, hc7, hT⟩ := hc j p hp
      obtain ⟨z0, z1, z2, z3, z4, z5, z6⟩ := Cells7.ext hx hc7
      have HP := Lib.hid hp
      have hl0 : w.heap.size < wr.heap.size := by omega
      have hl1 : ¬ w.heap.size = wr.heap.size := by omega
      have hl2 : bq < wr.heap.size + 1 := by omega
      have hTx := Lib.hid hT.parts.2.1
      have hTd := Lib.hid hT.parts.2.2.1
      have hTy := Lib.hid hT.parts.2.2.2.1
      clear hp
      have hc0 := hbq.cell 0 _ rfl
      have hf0 := hbq.free 0
      have hc1 := hbq.cell 1 _ rfl
      have hf1 := hbq.free 1
      have hc2 := hbq.cell 2 _ rfl
      have hf2 := hbq.free 2
      have hc3 := hbq.cell 3 _ rfl
      have hf3 := hbq.free 3
      have hc4 := hbq.cell 4 _ rfl
      have hf4 := hbq.free 4
      have hc5 := hbq.cell 5 _ rfl
      have hf5 := hbq.free 5
      cases he0 : p.1.toList == [98, 111, 111, 115, 116]
      · have e0 : seq p.1 s_boost = false := by rw [seq, show s_boost.toList = [98, 111, 111, 115, 116] by rw [Lib.toList_data]]; exact he0
        cases he1 : p.1.toList == [109, 105, 110, 105, 109, 117, 109, 95, 115, 104, 111, 117, 108, 100, 95, 109, 97, 116, 99, 104, 95, 102, 105, 101, 108, 100]
        · have e1 : seq p.1 s_minimum_should_match_field = false := by rw [seq, show s_minimum_should_match_field.toList = [109, 105, 110, 105, 109, 117, 109, 95, 115, 104, 111, 117, 108, 100, 95, 109, 97, 116, 99, 104, 95, 102, 105, 101, 108, 100] by rw [Lib.toList_data]]; exact he1
          cases he2 : p.1.toList == [95, 110, 97, 109, 101]
          · have e2 : seq p.1 s_name = false := by rw [seq, show s_name.toList = [95, 110, 97, 109, 101] by rw [Lib.toList_data]]; exact he2
            go_wp2_with go_in
            go_roundw
            case rel =>
              have hy := ext_alloc (ext_refl wr) (.cells #[.string p.1, .int .i64 k, .string x, .float .f64 d, .bool y, .slice ka kn kc, .slice ca m cc] 52)
              exact ⟨ext_trans hx hy, Nat.le_trans hsz hy.sz, hb0.ext hy, j + 1, v2, v4, v5, by omega, by go_num, hbq.ext hy, by rw [last_miss HP.out e1]; exact H2.out, by rw [last_miss HP.out e2]; exact H4.out, by rw [last_miss HP.out e0]; exact FN.ext hy H5.out, JAt.ext hy HJLu.out⟩
            case measure => simp [intOf]; omega
          · have e2 : seq p.1 s_name = true := by rw [seq, show s_name.toList = [95, 110, 97, 109, 101] by rw [Lib.toList_data]]; exact he2
            go_wp2_with go_in
            go_roundw
            case rel =>
              have hk : Keeps (fun q => q ≠ bq) wr ((wr.setCell ⟨bq, 4, none⟩ (.string x)).alloc (.cells #[.string p.1, .int .i64 k, .string x, .float .f64 d, .bool y, .slice ka kn kc, .slice ca m cc] 52)) := fun q hq hlt => (Below.heap_alloc _ _ _ (by simpa using hlt)).trans (Below.heap_setCell _ _ _ _ (by simp; omega))
              exact ⟨ext_alloc (ext_set hx (by simp; omega) _) _, by simp; omega, (hb0.other (by simp; omega) _).alloc _, j + 1, v2, x, v5, by omega, by go_num, (hbq.set 4 _).alloc _, by rw [last_other HP.out e2 (seq_false.2 (by decide))]; exact H2.out, by rw [last_hit HP.out e2]; exact hTx.out, by rw [last_other HP.out e2 (seq_false.2 (by decide))]; exact FN.keep (fun _ h _ => h) hk H5.out, JAt.keep (fun _ h _ => h) hk _ HJLu.out⟩
            case measure => simp [intOf]; omega
        · have e1 : seq p.1 s_minimum_should_match_field = true := by rw [seq, show s_minimum_should_match_field.toList = [109, 105, 110, 105, 109, 117, 109, 95, 115, 104, 111, 117, 108, 100, 95, 109, 97, 116, 99, 104, 95, 102, 105, 101, 108, 100] by rw [Lib.toList_data]]; exact he1
          go_wp2_with go_in
          go_roundw
          case rel =>
            have hk : Keeps (fun q => q ≠ bq) wr ((wr.setCell ⟨bq, 2, none⟩ (.string x)).alloc (.cells #[.string p.1, .int .i64 k, .string x, .float .f64 d, .bool y, .slice ka kn kc, .slice ca m cc] 52)) := fun q hq hlt => (Below.heap_alloc _ _ _ (by simpa using hlt)).trans (Below.heap_setCell _ _ _ _ (by simp; omega))
            exact ⟨ext_alloc (ext_set hx (by simp; omega) _) _, by simp; omega, (hb0.other (by simp; omega) _).alloc _, j + 1, x, v4, v5, by omega, by go_num, (hbq.set 2 _).alloc _, by rw [last_hit HP.out e1]; exact hTx.out, by rw [last_other HP.out e1 (seq_false.2 (by decide))]; exact H4.out, by rw [last_other HP.out e1 (seq_false.2 (by decide))]; exact FN.keep (fun _ h _ => h) hk H5.out, JAt.keep (fun _ h _ => h) hk _ HJLu.out⟩
          case measure => simp [intOf]; omega
      · have e0 : seq p.1 s_boost = true := by rw [seq, show s_boost.toList = [98, 111, 111, 115, 116] by rw [Lib.toList_data]]; exact he0
        go_wp2_with go_in
        go_roundw
        case rel =>
          have hk : Keeps (fun q => q ≠ bq) wr (((wr.setCell ⟨bq, 5, none⟩ (.pointer (some ⟨wr.heap.size + 1, 0, none⟩))).alloc (.cells #[.string p.1, .int .i64 k, .string x, .float .f64 d, .bool y, .slice ka kn kc, .slice ca m cc] 52)).alloc (.cells #[.float .f64 d] 22)) := fun q hq hlt => (Below.heap_alloc _ _ _ (by simp; omega)).trans ((Below.heap_alloc _ _ _ (by simpa using hlt)).trans (Below.heap_setCell _ _ _ _ (by simp; omega)))
          have hnew : (((wr.setCell ⟨bq, 5, none⟩ (.pointer (some ⟨wr.heap.size + 1, 0, none⟩))).alloc (.cells #[.string p.1, .int .i64 k, .string x, .float .f64 d, .bool y, .slice ka kn kc, .slice ca m cc] 52)).alloc (.cells #[.float .f64 d] 22)).cell? ⟨wr.heap.size + 1, 0, none⟩ = some (.float .f64 d) := (Box.at (by simp) _ _).cell 0 _ rfl
          exact ⟨ext_alloc (ext_alloc (ext_set hx (by simp; omega) _) _) _, by simp; omega, ((hb0.other (by simp; omega) _).alloc _).alloc _, j + 1, v2, v4, some ⟨wr.heap.size + 1, 0, none⟩, by omega, by go_num, ((hbq.set 5 _).alloc _).alloc _, by rw [last_other HP.out e0 (seq_false.2 (by decide))]; exact H2.out, by rw [last_other HP.out e0 (seq_false.2 (by decide))]; exact H4.out, by rw [last_hit HP.out e0]; exact ⟨wr.heap.size + 1, rfl, by omega, by rw [← hTd.out]; exact hnew⟩, JAt.keep (fun _ h _ => h) hk _ HJLu.out⟩
        case measure => simp [intOf]; omega
    · have hjn : j = n := by omega
      have hfull : ps.take j = ps := List.take_of_length_le (by have := HL.out; omega)
      rw [hfull] at H2 H4 H5
      have hS := termsSet_src (S := fun q => q ≠ bq) wr bq f hf_le _ _ _ _ (JAt.to HJLu.out (fun _ _ h => h)) v2 _ H2.out v4 _ H4.out v5 _ H5.out hbq
      go_wp2_with (first
        | (go_at_call 63; refine hS.mono ?_; rintro r w2 ⟨v, rfl, hJ, hx2⟩)
        | (go_at_call 42; refine (told_any v _ _ hJ).mono ?_; rintro r w3 ⟨e2, rfl, hT3, hx3⟩; simp only [El.val]
           have hb := (hb0.ext hx2).ext hx3; obtain ⟨o0, o1, o2, o3, o4, o5⟩ := hb.six; have f0 := hb.free 0; have f1 := hb.free 1; have f2 := hb.free 2; have f3 := hb.free 3; have f4 := hb.free 4; have f5 := hb.free 5))
      have hx4 := ext_trans hx (ext_trans hx2 hx3)
      have hs2 := hx2.sz
      refine post_tree2 rfl rfl (hb.sto e2) rfl ⟨e2, rfl, ?_, ext_sto6 hx4 (by omega) _ _ _ _ _ _⟩
      have hfin := TreeAt.keep (S := fun b => w2.heap.size ≤ b) (S' := fun b => w.heap.size + 1 ≤ b) (fun b hb _ => by omega) (keeps_sto (b := w.heap.size) w3 (by omega) e2) _ hT3
      simp only [List.append_assoc, List.cons_append, List.nil_append] at hfin ⊢
      exact hfin
end Go.Proofs.YtocfoheckgdonaaGreatDoor
