/-
  What the builder of a query (GeoDistance) gives behind settings, in order.
-/
import Derived.Test.YtdjojnlejkljdaaGeoDistance
namespace Go.Proofs.Ytdjojnlejkljdaa
open Go.RowKit

set_option maxRecDepth 20000 in
set_option maxHeartbeats 4000000 in
theorem geoDistance_any {S : Nat → Prop} (a : Option Addr) (n c : Nat) (ps : List (ByteArray × T)) (w : World) (f : ByteArray) (hf_le : f.size ≤ maxLen) (h : PairsAt S w a n c ps) :
    Calls Try.prog 22 #[.string f, .slice a n c] w fun r w' => ∃ g : El, r = .returned (.tuple #[g.val, .bool true]) ∧ TreeAt (fun b => w.heap.size + 1 ≤ b) w' g (treeJ (jMap [(s_geo_distance, jMap (jPt f (fT (lastOf ps s_hash)) (foldG ps).1.num (foldG ps).2.num ++ jT s_distance (lastOf ps s_distance) ++ jT s_distance_type (lastOf ps s_distance_type) ++ jT s_name (lastOf ps s_name)))])) ∧ Ext w w' := by
  obtain ⟨hl, hn, hm, hc⟩ := h
  unfold maxLen at hm
  have HL := Lib.hid hl
  clear hl
  go_enter Try.func22, Try.ntmps22
  go_wp2_with go_in
  go_loopw [13] (fun i wr => Ext w wr ∧ (w.heap.size + 2) ≤ wr.heap.size ∧ Box wr w.heap.size (El.arr El0) 30 ∧ ∃ (j : Nat) (v1 : ByteArray) (v4 : ByteArray) (v5 : ByteArray) (v6 : ByteArray), j ≤ n ∧ i = .int .i64 j ∧ Box wr (w.heap.size + 1) #[.string f, .string v1, .float .f64 (foldG (ps.take j)).1.num, .float .f64 (foldG (ps.take j)).2.num, .string v4, .string v5, .string v6] 157 ∧ v1 = fT (lastOf (ps.take j) s_distance) ∧ v4 = fT (lastOf (ps.take j) s_hash) ∧ v5 = fT (lastOf (ps.take j) s_distance_type) ∧ v6 = fT (lastOf (ps.take j) s_name)) (fun i _ => n - (intOf i).toNat)
  case atStart => exact ⟨by (repeat (first | exact ext_refl _ | assumption | refine ext_alloc ?_ _ | refine ext_drew ?_ | refine ext_set ?_ (by simp) _ | refine ext_trans ?_ (by assumption))), by simp, (Box.at rfl _ _).alloc _, 0, _, _, _, _, Nat.zero_le _, rfl, Box.at (by simp) _ _, rfl, rfl, rfl, rfl⟩
  case round =>
    obtain ⟨hx, hsz, hb0, j, v1, v4, v5, v6, hj, rfl, hbq, h1, h4, h5, h6⟩ := hrel
    have H1 := Lib.hid h1
    have H4 := Lib.hid h4
    have H5 := Lib.hid h5
    have H6 := Lib.hid h6
    clear h1 h4 h5 h6
    have hbql := hbq.lt
    by_cases hlt : j < n
    · obtain ⟨p, hp⟩ := some_of_lt HL.out hlt
      obtain ⟨b, off, ⟨k, x, d, y, ka, kn, kc, ca, m, cc⟩, rfl, hSb, hc7, hT⟩ := hc j p hp
      obtain ⟨z0, z1, z2, z3, z4, z5, z6⟩ := Cells7.ext hx hc7
      have HP := Lib.hid hp
      have hl0 : w.heap.size < wr.heap.size := by omega
      have hl1 : ¬ w.heap.size = wr.heap.size := by omega
      have hl2 : (w.heap.size + 1) < wr.heap.size + 1 := by omega
      have hTx := Lib.hid hT.parts.2.1
      have hTd := Lib.hid hT.parts.2.2.1
      have hTy := Lib.hid hT.parts.2.2.2.1
      clear hp
      have hTz := Lib.hid (hT.ext hx)
      clear hT
      have hc0 := hbq.cell 0 _ rfl
      have hf0 := hbq.free 0
      have hc1 := hbq.cell 1 _ rfl
      have hf1 := hbq.free 1
      have hc2 := hbq.cell 2 _ rfl
      have hf2 := hbq.free 2
      have hc3 := hbq.cell 3 _ rfl
      have hf3 := hbq.free 3
      have hc4 := hbq.cell 4 _ rfl
      have hf4 := hbq.free 4
      have hc5 := hbq.cell 5 _ rfl
      have hf5 := hbq.free 5
      have hc6 := hbq.cell 6 _ rfl
      have hf6 := hbq.free 6
      cases he0 : p.1.toList == [100, 105, 115, 116, 97, 110, 99, 101]
      · have e0 : seq p.1 s_distance = false := by rw [seq, show s_distance.toList = [100, 105, 115, 116, 97, 110, 99, 101] by rw [Lib.toList_data]]; exact he0
        cases he1 : p.1.toList == [100, 105, 115, 116, 97, 110, 99, 101, 95, 116, 121, 112, 101]
        · have e1 : seq p.1 s_distance_type = false := by rw [seq, show s_distance_type.toList = [100, 105, 115, 116, 97, 110, 99, 101, 95, 116, 121, 112, 101] by rw [Lib.toList_data]]; exact he1
          cases he2 : p.1.toList == [112, 111, 105, 110, 116]
          · have e2 : seq p.1 s_point = false := by rw [seq, show s_point.toList = [112, 111, 105, 110, 116] by rw [Lib.toList_data]]; exact he2
            cases he3 : p.1.toList == [108, 97, 116]
            · have e3 : seq p.1 s_lat = false := by rw [seq, show s_lat.toList = [108, 97, 116] by rw [Lib.toList_data]]; exact he3
              cases he4 : p.1.toList == [108, 111, 110]
              · have e4 : seq p.1 s_lon = false := by rw [seq, show s_lon.toList = [108, 111, 110] by rw [Lib.toList_data]]; exact he4
                cases he5 : p.1.toList == [104, 97, 115, 104]
                · have e5 : seq p.1 s_hash = false := by rw [seq, show s_hash.toList = [104, 97, 115, 104] by rw [Lib.toList_data]]; exact he5
                  cases he6 : p.1.toList == [95, 110, 97, 109, 101]
                  · have e6 : seq p.1 s_name = false := by rw [seq, show s_name.toList = [95, 110, 97, 109, 101] by rw [Lib.toList_data]]; exact he6
                    go_wp2_with go_in
                    go_roundw
                    case rel =>
                      have hy := ext_alloc (ext_refl wr) (.cells #[.string p.1, .int .i64 k, .string x, .float .f64 d, .bool y, .slice ka kn kc, .slice ca m cc] 62)
                      exact ⟨ext_trans hx hy, Nat.le_trans hsz hy.sz, hb0.ext hy, j + 1, v1, v4, v5, v6, by omega, by go_num, (by rw [foldG_step HP.out, stepG_skip e2 e3 e4]; exact hbq.ext hy), by rw [last_miss HP.out e0]; exact H1.out, by rw [last_miss HP.out e5]; exact H4.out, by rw [last_miss HP.out e1]; exact H5.out, by rw [last_miss HP.out e6]; exact H6.out⟩
                    case measure => simp [intOf]; omega
                  · have e6 : seq p.1 s_name = true := by rw [seq, show s_name.toList = [95, 110, 97, 109, 101] by rw [Lib.toList_data]]; exact he6
                    go_wp2_with go_in
                    go_roundw
                    case rel =>
                      have hk : Keeps (fun q => q ≠ (w.heap.size + 1)) wr ((wr.setCell ⟨(w.heap.size + 1), 6, none⟩ (.string x)).alloc (.cells #[.string p.1, .int .i64 k, .string x, .float .f64 d, .bool y, .slice ka kn kc, .slice ca m cc] 62)) := fun q hq hlt => (Below.heap_alloc _ _ _ (by simpa using hlt)).trans (Below.heap_setCell _ _ _ _ (by simp; omega))
                      exact ⟨ext_alloc (ext_set hx (by simp) _) _, by simp; omega, (hb0.other (by simp) _).alloc _, j + 1, v1, v4, v5, x, by omega, by go_num, (by rw [foldG_step HP.out, stepG_ne e6 (seq_false.2 (by decide)) (seq_false.2 (by decide)) (seq_false.2 (by decide))]; exact (hbq.set 6 _).alloc _), by rw [last_other HP.out e6 (seq_false.2 (by decide))]; exact H1.out, by rw [last_other HP.out e6 (seq_false.2 (by decide))]; exact H4.out, by rw [last_other HP.out e6 (seq_false.2 (by decide))]; exact H5.out, by rw [last_hit HP.out e6]; exact hTx.out⟩
                    case measure => simp [intOf]; omega
                · have e5 : seq p.1 s_hash = true := by rw [seq, show s_hash.toList = [104, 97, 115, 104] by rw [Lib.toList_data]]; exact he5
                  go_wp2_with go_in
                  go_roundw
                  case rel =>
                    have hk : Keeps (fun q => q ≠ (w.heap.size + 1)) wr ((wr.setCell ⟨(w.heap.size + 1), 4, none⟩ (.string x)).alloc (.cells #[.string p.1, .int .i64 k, .string x, .float .f64 d, .bool y, .slice ka kn kc, .slice ca m cc] 62)) := fun q hq hlt => (Below.heap_alloc _ _ _ (by simpa using hlt)).trans (Below.heap_setCell _ _ _ _ (by simp; omega))
                    exact ⟨ext_alloc (ext_set hx (by simp) _) _, by simp; omega, (hb0.other (by simp) _).alloc _, j + 1, v1, x, v5, v6, by omega, by go_num, (by rw [foldG_step HP.out, stepG_ne e5 (seq_false.2 (by decide)) (seq_false.2 (by decide)) (seq_false.2 (by decide))]; exact (hbq.set 4 _).alloc _), by rw [last_other HP.out e5 (seq_false.2 (by decide))]; exact H1.out, by rw [last_hit HP.out e5]; exact hTx.out, by rw [last_other HP.out e5 (seq_false.2 (by decide))]; exact H5.out, by rw [last_other HP.out e5 (seq_false.2 (by decide))]; exact H6.out⟩
                  case measure => simp [intOf]; omega
              · have e4 : seq p.1 s_lon = true := by rw [seq, show s_lon.toList = [108, 111, 110] by rw [Lib.toList_data]]; exact he4
                go_wp2_with go_in
                go_roundw
                case rel =>
                  exact ⟨ext_alloc (ext_set hx (by simp) _) _, by simp; omega, (hb0.other (by simp) _).alloc _, j + 1, v1, v4, v5, v6, by omega, by go_num, (by rw [foldG_step HP.out, stepG_lon e4]; dsimp only; rw [← hTd.out]; exact (hbq.set 3 _).alloc _), by rw [last_other HP.out e4 (seq_false.2 (by decide))]; exact H1.out, by rw [last_other HP.out e4 (seq_false.2 (by decide))]; exact H4.out, by rw [last_other HP.out e4 (seq_false.2 (by decide))]; exact H5.out, by rw [last_other HP.out e4 (seq_false.2 (by decide))]; exact H6.out⟩
                case measure => simp [intOf]; omega
            · have e3 : seq p.1 s_lat = true := by rw [seq, show s_lat.toList = [108, 97, 116] by rw [Lib.toList_data]]; exact he3
              go_wp2_with go_in
              go_roundw
              case rel =>
                exact ⟨ext_alloc (ext_set hx (by simp) _) _, by simp; omega, (hb0.other (by simp) _).alloc _, j + 1, v1, v4, v5, v6, by omega, by go_num, (by rw [foldG_step HP.out, stepG_lat e3]; dsimp only; rw [← hTd.out]; exact (hbq.set 2 _).alloc _), by rw [last_other HP.out e3 (seq_false.2 (by decide))]; exact H1.out, by rw [last_other HP.out e3 (seq_false.2 (by decide))]; exact H4.out, by rw [last_other HP.out e3 (seq_false.2 (by decide))]; exact H5.out, by rw [last_other HP.out e3 (seq_false.2 (by decide))]; exact H6.out⟩
              case measure => simp [intOf]; omega
          · have e2 : seq p.1 s_point = true := by rw [seq, show s_point.toList = [112, 111, 105, 110, 116] by rw [Lib.toList_data]]; exact he2
            go_upto_region 11 with go_in
            have hy := ext_alloc (ext_refl wr) (.cells #[.string p.1, .int .i64 k, .string x, .float .f64 d, .bool y, .slice ka kn kc, .slice ca m cc] 62)
            have hbS : Box (wr.alloc (.cells #[.string p.1, .int .i64 k, .string x, .float .f64 d, .bool y, .slice ka kn kc, .slice ca m cc] 62)) wr.heap.size #[.string p.1, .int .i64 k, .string x, .float .f64 d, .bool y, .slice ka kn kc, .slice ca m cc] 62 := Box.at rfl _ _
            refine wp_region_order (fun (w' : World) => w'.cell? ⟨wr.heap.size, 1, none⟩ = some (.int .i64 k) ∧ w'.cell? ⟨wr.heap.size, 2, none⟩ = some (.string x) ∧ w'.cell? ⟨wr.heap.size, 3, none⟩ = some (.float .f64 d) ∧ w'.cell? ⟨wr.heap.size, 4, none⟩ = some (.bool y) ∧ w'.cell? ⟨wr.heap.size, 5, none⟩ = some (.slice ka kn kc) ∧ w'.cell? ⟨wr.heap.size, 6, none⟩ = some (.slice ca m cc)) [0, 1, 2, 4, 5] [0, 1, 2, 4, 5, 3, 6, 7] (by kernel_rfl) (by kernel_rfl) (fun d _ _ _ _ h => by cases d <;> exact h) (by kernel_rfl) ?_
            have hS : (fun (w' : World) => w'.cell? ⟨wr.heap.size, 1, none⟩ = some (.int .i64 k) ∧ w'.cell? ⟨wr.heap.size, 2, none⟩ = some (.string x) ∧ w'.cell? ⟨wr.heap.size, 3, none⟩ = some (.float .f64 d) ∧ w'.cell? ⟨wr.heap.size, 4, none⟩ = some (.bool y) ∧ w'.cell? ⟨wr.heap.size, 5, none⟩ = some (.slice ka kn kc) ∧ w'.cell? ⟨wr.heap.size, 6, none⟩ = some (.slice ca m cc)) (wr.alloc (.cells #[.string p.1, .int .i64 k, .string x, .float .f64 d, .bool y, .slice ka kn kc, .slice ca m cc] 62)).drew := ⟨hbS.drew.cell 1 _ rfl, hbS.drew.cell 2 _ rfl, hbS.drew.cell 3 _ rfl, hbS.drew.cell 4 _ rfl, hbS.drew.cell 5 _ rfl, hbS.drew.cell 6 _ rfl⟩
            (apply ord_held rfl rfl (by assumption) rfl; (focus ((intro w' hS'); go_simp; (try with_reducible rfl))); (try simp only [Act.put, List.setIfInBounds_toArray, List.set_cons_zero, List.set_cons_succ]))
            (apply ord_held rfl rfl (by assumption) rfl; (focus ((intro w' hS'); go_simp; (try with_reducible rfl))); (try simp only [Act.put, List.setIfInBounds_toArray, List.set_cons_zero, List.set_cons_succ]))
            (apply ord_held rfl rfl (by assumption) rfl; (focus ((intro w' hS'); go_simp; (try with_reducible rfl))); (try simp only [Act.put, List.setIfInBounds_toArray, List.set_cons_zero, List.set_cons_succ]))
            (apply ord_held rfl rfl (by assumption) rfl; (focus ((intro w' hS'); go_simp; (try with_reducible rfl))); (try simp only [Act.put, List.setIfInBounds_toArray, List.set_cons_zero, List.set_cons_succ]))
            (apply ord_held rfl rfl (by assumption) rfl; (focus ((intro w' hS'); go_simp; (try with_reducible rfl))); (try simp only [Act.put, List.setIfInBounds_toArray, List.set_cons_zero, List.set_cons_succ]))
            (apply ord_loud rfl rfl rfl; intro K hK; go_simp)
            refine (kidN_any (⟨k, x, d, y, ka, kn, kc, ca, m, cc⟩ : El) p.2 0 _ ((hTz.out.ext hy).ext (ext_drew (ext_refl _)))).mono ?_
            rintro r wk1 ⟨rfl, hk1⟩
            have hz1 : Ext (wr.alloc (.cells #[.string p.1, .int .i64 k, .string x, .float .f64 d, .bool y, .slice ka kn kc, .slice ca m cc] 62)) wk1 := ext_trans (ext_drew (ext_refl _)) hk1
            have hS1 : (fun (w' : World) => w'.cell? ⟨wr.heap.size, 1, none⟩ = some (.int .i64 k) ∧ w'.cell? ⟨wr.heap.size, 2, none⟩ = some (.string x) ∧ w'.cell? ⟨wr.heap.size, 3, none⟩ = some (.float .f64 d) ∧ w'.cell? ⟨wr.heap.size, 4, none⟩ = some (.bool y) ∧ w'.cell? ⟨wr.heap.size, 5, none⟩ = some (.slice ka kn kc) ∧ w'.cell? ⟨wr.heap.size, 6, none⟩ = some (.slice ca m cc)) wk1 := ⟨(hbS.ext hz1).cell 1 _ rfl, (hbS.ext hz1).cell 2 _ rfl, (hbS.ext hz1).cell 3 _ rfl, (hbS.ext hz1).cell 4 _ rfl, (hbS.ext hz1).cell 5 _ rfl, (hbS.ext hz1).cell 6 _ rfl⟩
            refine hK _ _ (fun _ => hS1) ?_
            clear hK K
            (try simp only [Act.put, List.setIfInBounds_toArray, List.set_cons_zero, List.set_cons_succ])
            (apply ord_loud rfl rfl rfl; intro K hK; go_simp)
            refine (kidN_any (⟨k, x, d, y, ka, kn, kc, ca, m, cc⟩ : El) p.2 1 _ ((hTz.out.ext hy).ext (hz1))).mono ?_
            rintro r wk2 ⟨rfl, hk2⟩
            have hz2 : Ext (wr.alloc (.cells #[.string p.1, .int .i64 k, .string x, .float .f64 d, .bool y, .slice ka kn kc, .slice ca m cc] 62)) wk2 := ext_trans (hz1) hk2
            have hS2 : (fun (w' : World) => w'.cell? ⟨wr.heap.size, 1, none⟩ = some (.int .i64 k) ∧ w'.cell? ⟨wr.heap.size, 2, none⟩ = some (.string x) ∧ w'.cell? ⟨wr.heap.size, 3, none⟩ = some (.float .f64 d) ∧ w'.cell? ⟨wr.heap.size, 4, none⟩ = some (.bool y) ∧ w'.cell? ⟨wr.heap.size, 5, none⟩ = some (.slice ka kn kc) ∧ w'.cell? ⟨wr.heap.size, 6, none⟩ = some (.slice ca m cc)) wk2 := ⟨(hbS.ext hz2).cell 1 _ rfl, (hbS.ext hz2).cell 2 _ rfl, (hbS.ext hz2).cell 3 _ rfl, (hbS.ext hz2).cell 4 _ rfl, (hbS.ext hz2).cell 5 _ rfl, (hbS.ext hz2).cell 6 _ rfl⟩
            refine hK _ _ (fun _ => hS2) ?_
            clear hK K
            (try simp only [Act.put, List.setIfInBounds_toArray, List.set_cons_zero, List.set_cons_succ])
            (apply ord_loud rfl rfl rfl; intro K hK; go_simp)
            have hb5 := (hbq.ext hy).ext hz2
            refine (pointB_any _ _ _ _ _ _ _ _ _ hb5 _ _).mono ?_
            rintro r wp ⟨rfl, hwp⟩
            have hbSp : Box wp wr.heap.size #[.string p.1, .int .i64 k, .string x, .float .f64 d, .bool y, .slice ka kn kc, .slice ca m cc] 62 := by rw [hwp]; exact ((hbS.ext hz2).other (by simp; omega) _).other (by simp; omega) _
            have hS9 : (fun (w' : World) => w'.cell? ⟨wr.heap.size, 1, none⟩ = some (.int .i64 k) ∧ w'.cell? ⟨wr.heap.size, 2, none⟩ = some (.string x) ∧ w'.cell? ⟨wr.heap.size, 3, none⟩ = some (.float .f64 d) ∧ w'.cell? ⟨wr.heap.size, 4, none⟩ = some (.bool y) ∧ w'.cell? ⟨wr.heap.size, 5, none⟩ = some (.slice ka kn kc) ∧ w'.cell? ⟨wr.heap.size, 6, none⟩ = some (.slice ca m cc)) wp := ⟨hbSp.cell 1 _ rfl, hbSp.cell 2 _ rfl, hbSp.cell 3 _ rfl, hbSp.cell 4 _ rfl, hbSp.cell 5 _ rfl, hbSp.cell 6 _ rfl⟩
            refine hK _ _ (fun _ => hS9) ?_
            clear hK K
            (try simp only [Act.put, List.setIfInBounds_toArray, List.set_cons_zero, List.set_cons_succ])
            refine ord_end ?_
            have hyz := ext_trans hy hz2
            have hszp := hyz.sz
            have hbp0 := (hb0.ext hyz)
            have hxp : Ext w wp := by rw [hwp]; exact ext_set (ext_set (ext_trans hx hyz) (by simp) _) (by simp) _
            have hb0p : Box wp w.heap.size (El.arr El0) 30 := by rw [hwp]; exact (hbp0.other (by simp) _).other (by simp) _
            have hbqp : Box wp (w.heap.size + 1) #[.string f, .string v1, .float .f64 (kidT p.2 0).num, .float .f64 (kidT p.2 1).num, .string v4, .string v5, .string v6] 157 := by rw [hwp]; exact (hb5.set 2 _).set 3 _
            have hszq : (w.heap.size + 2) ≤ wp.heap.size := by rw [hwp]; simp; omega
            clear hwp hb5 hbp0 hbS hS hS1 hS2 hS9 hbSp
            go_wp2_with fail
            go_roundw
            case rel =>
              first
                | exact ⟨j + 1, by omega, by first | rfl | simp | omega, v1, v4, v5, v6, (by rw [foldG_step HP.out, stepG_point e2]; exact hbqp), by rw [last_other HP.out e2 (seq_false.2 (by decide))]; exact H1.out, by rw [last_other HP.out e2 (seq_false.2 (by decide))]; exact H4.out, by rw [last_other HP.out e2 (seq_false.2 (by decide))]; exact H5.out, by rw [last_other HP.out e2 (seq_false.2 (by decide))]; exact H6.out⟩
                | exact ⟨hxp, hszq, hb0p, j + 1, v1, v4, v5, v6, by omega, by go_num, (by rw [foldG_step HP.out, stepG_point e2]; exact hbqp), by rw [last_other HP.out e2 (seq_false.2 (by decide))]; exact H1.out, by rw [last_other HP.out e2 (seq_false.2 (by decide))]; exact H4.out, by rw [last_other HP.out e2 (seq_false.2 (by decide))]; exact H5.out, by rw [last_other HP.out e2 (seq_false.2 (by decide))]; exact H6.out⟩
            case measure => simp [intOf]; omega
        · have e1 : seq p.1 s_distance_type = true := by rw [seq, show s_distance_type.toList = [100, 105, 115, 116, 97, 110, 99, 101, 95, 116, 121, 112, 101] by rw [Lib.toList_data]]; exact he1
          go_wp2_with go_in
          go_roundw
          case rel =>
            have hk : Keeps (fun q => q ≠ (w.heap.size + 1)) wr ((wr.setCell ⟨(w.heap.size + 1), 5, none⟩ (.string x)).alloc (.cells #[.string p.1, .int .i64 k, .string x, .float .f64 d, .bool y, .slice ka kn kc, .slice ca m cc] 62)) := fun q hq hlt => (Below.heap_alloc _ _ _ (by simpa using hlt)).trans (Below.heap_setCell _ _ _ _ (by simp; omega))
            exact ⟨ext_alloc (ext_set hx (by simp) _) _, by simp; omega, (hb0.other (by simp) _).alloc _, j + 1, v1, v4, x, v6, by omega, by go_num, (by rw [foldG_step HP.out, stepG_ne e1 (seq_false.2 (by decide)) (seq_false.2 (by decide)) (seq_false.2 (by decide))]; exact (hbq.set 5 _).alloc _), by rw [last_other HP.out e1 (seq_false.2 (by decide))]; exact H1.out, by rw [last_other HP.out e1 (seq_false.2 (by decide))]; exact H4.out, by rw [last_hit HP.out e1]; exact hTx.out, by rw [last_other HP.out e1 (seq_false.2 (by decide))]; exact H6.out⟩
          case measure => simp [intOf]; omega
      · have e0 : seq p.1 s_distance = true := by rw [seq, show s_distance.toList = [100, 105, 115, 116, 97, 110, 99, 101] by rw [Lib.toList_data]]; exact he0
        go_wp2_with go_in
        go_roundw
        case rel =>
          have hk : Keeps (fun q => q ≠ (w.heap.size + 1)) wr ((wr.setCell ⟨(w.heap.size + 1), 1, none⟩ (.string x)).alloc (.cells #[.string p.1, .int .i64 k, .string x, .float .f64 d, .bool y, .slice ka kn kc, .slice ca m cc] 62)) := fun q hq hlt => (Below.heap_alloc _ _ _ (by simpa using hlt)).trans (Below.heap_setCell _ _ _ _ (by simp; omega))
          exact ⟨ext_alloc (ext_set hx (by simp) _) _, by simp; omega, (hb0.other (by simp) _).alloc _, j + 1, x, v4, v5, v6, by omega, by go_num, (by rw [foldG_step HP.out, stepG_ne e0 (seq_false.2 (by decide)) (seq_false.2 (by decide)) (seq_false.2 (by decide))]; exact (hbq.set 1 _).alloc _), by rw [last_hit HP.out e0]; exact hTx.out, by rw [last_other HP.out e0 (seq_false.2 (by decide))]; exact H4.out, by rw [last_other HP.out e0 (seq_false.2 (by decide))]; exact H5.out, by rw [last_other HP.out e0 (seq_false.2 (by decide))]; exact H6.out⟩
        case measure => simp [intOf]; omega
    · have hjn : j = n := by omega
      have hfull : ps.take j = ps := List.take_of_length_le (by have := HL.out; omega)
      rw [hfull] at H1 H4 H5 H6 hbq
      have hS := geoDistance_src (S := fun q => q ≠ (w.heap.size + 1)) wr (w.heap.size + 1) f hf_le v1 _ H1.out _ _ v4 _ H4.out v5 _ H5.out v6 _ H6.out hbq
      go_wp2_with (first
        | (go_at_call 82; refine hS.mono ?_; rintro r w2 ⟨v, rfl, hJ, hx2⟩)
        | (go_at_call 49; refine (told_any v _ _ hJ).mono ?_; rintro r w3 ⟨e2, rfl, hT3, hx3⟩; simp only [El.val]
           have hb := (hb0.ext hx2).ext hx3; obtain ⟨o0, o1, o2, o3, o4, o5⟩ := hb.six; have f0 := hb.free 0; have f1 := hb.free 1; have f2 := hb.free 2; have f3 := hb.free 3; have f4 := hb.free 4; have f5 := hb.free 5))
      have hx4 := ext_trans hx (ext_trans hx2 hx3)
      have hs2 := hx2.sz
      refine post_tree2 rfl rfl (hb.sto e2) rfl ⟨e2, rfl, ?_, ext_sto6 hx4 (by omega) _ _ _ _ _ _⟩
      have hfin := TreeAt.keep (S := fun b => w2.heap.size ≤ b) (S' := fun b => w.heap.size + 1 ≤ b) (fun b hb _ => by omega) (keeps_sto (b := w.heap.size) w3 (by omega) e2) _ hT3
      simp only [List.append_assoc] at hfin ⊢
      exact hfin
end Go.Proofs.Ytdjojnlejkljdaa
