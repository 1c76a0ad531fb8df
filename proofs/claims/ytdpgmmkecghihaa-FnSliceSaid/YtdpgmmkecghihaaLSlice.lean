/-
  The law of a query with its settings (Slice): what the builder gives is what is told.
-/
import Derived.Test.YtdpgmmkecghihaaISlice
import Derived.Test.YtdpgmmkecghihaaLx
import Derived.Test.YtdpgmmkecghihaaF3
namespace Go.Proofs.Ytdpgmmkecghihaa
open Go.RowKit

abbrev sSlice : ByteArray := ⟨#[83, 108, 105, 99, 101]⟩
abbrev tSlice : ByteArray := ⟨#[102, 105, 101, 108, 100, 32, 116, 44, 105, 100, 32, 119, 44, 109, 97, 120, 32, 119]⟩
abbrev rSlice : List (ByteArray × ByteArray) := [(s_field, ⟨#[116]⟩), (s_id, ⟨#[119]⟩), (s_max, ⟨#[119]⟩)]
set_option maxHeartbeats 2000000 in
theorem table_slice (w : World) : Calls Try.prog 149 #[.string sSlice] w fun r w' => r = .returned (.string tSlice) ∧ w' = w := by
  go_enter Try.func149, Try.ntmps149
  go_wp2
  go_ret
  exact ⟨rfl, rfl⟩
theorem rows_slice (w : World) : Calls Try.prog 63 #[.string sSlice] w fun r w' => ∃ v, r = .returned v ∧ Own2 w' w.heap.size v rSlice ∧ Ext w w' :=
  rows_any sSlice tSlice w table_slice 6 (by decide) (by decide)
theorem slice_same  {ps : List (ByteArray × T)} (hF : FitsP rSlice ps) : sameT (mapT (jTree (jT s_field (lastOf ps s_field) ++ jW s_id (lastOf ps s_id) ++ jW s_max (lastOf ps s_max)))) (mapT (paramsL rSlice ps)) = true := by
  refine sameT_map ?_
  let chs : Nat → Ch := fun i => match i with
    | 0 => (s_field, (param ps (s_field, ⟨#[116]⟩)).toList)
    | 1 => (s_id, (param ps (s_id, ⟨#[119]⟩)).toList)
    | 2 => (s_max, (param ps (s_max, ⟨#[119]⟩)).toList)
    | _ => (emptyS, [])
  have h0 : SameL (jTree (jT s_field (lastOf ps s_field) ++ jW s_id (lastOf ps s_id) ++ jW s_max (lastOf ps s_max))) ((param ps (s_field, ⟨#[116]⟩)).toList ++ (param ps (s_id, ⟨#[119]⟩)).toList ++ (param ps (s_max, ⟨#[119]⟩)).toList) := by
    unfold jTree
    rw [List.map_append, List.map_append]
    exact SameL.append (SameL.append (jT_same hF (by rw [kindL_dec]; decide)) (jW_same hF (by rw [kindL_dec]; decide))) (jW_same hF (by rw [kindL_dec]; decide))
  have h1 := SameL.reorder (f := chs) [0, 1, 2] [0, 1, 2] (by decide) (show [s_field, s_id, s_max].Nodup by decide) (by intro c hc; simp only [List.map_cons, List.map_nil, List.mem_cons, List.not_mem_nil, or_false] at hc; rcases hc with rfl | rfl | rfl <;> first | exact keys_param _ _ | exact keys_one _ _) (by simpa only [chs, flatC, List.map_cons, List.map_nil, List.flatMap_cons, List.flatMap_nil, List.append_nil, List.append_assoc] using h0)
  rw [params_cons, params_cons, params_cons, params_nil]
  refine (show SameL _ _ from ?_)
  simpa only [chs, flatC, List.map_cons, List.map_nil, List.flatMap_cons, List.flatMap_nil, List.append_nil, List.append_assoc, List.cons_append, List.nil_append] using h1
set_option maxHeartbeats 4000000 in
theorem slice_law {S : Nat → Prop}  (a : Option Addr) (n c : Nat) (ps : List (ByteArray × T)) (w : World) (h : PairsAt S w a n c ps) : Calls Try.prog 3 #[.slice a n c] w fun r w' => r = .returned (.bool true) ∧ Ext w w' := by
  have hnl := Nat.le_trans h.2.1 h.2.2.1
  unfold maxLen at hnl
  have hF := Lib.hid fun w' (x : Ext w w') => fits_any sSlice rSlice a n c ps w' rows_slice (by simp [plainK]) (h.ext x)
  have hPs := Lib.hid fun w' (x : Ext w w') => (h.keep (S' := fun _ => True) (fun _ _ _ => trivial) (fun _ _ _ => rfl)).ext x
  have hQ := Lib.hid fun w' (x : Ext w w') (hff : FitsP rSlice ps) => slice_any a n c ps w'  (whole_of hff (by rw [kindL_dec]; decide)) (whole_of hff (by rw [kindL_dec]; decide)) (h.ext x)
  clear h
  go_enter Try.func3, Try.ntmps3
  by_cases h1 : 2147483647 < n
  · go_wp2_with fail
    go_ret
    exact ⟨rfl, ext_refl _⟩
  · skip
    go_wp2_with (go_at_call 15; refine (hF.out _ (ext_refl _)).mono ?_; rintro r w2 ⟨b, rfl, hb, hx2⟩; have hBb := Lib.hid hb; clear hb; cases b)
    · go_ret
      exact ⟨rfl, hx2⟩
    · have hff := hBb.out (by trivial)
      have hfit := Lib.hid (slice_same  hff)
      have hQ := Lib.hid (hQ.out w2 hx2 hff)
      clear hBb
      go_upto_region 6 with (go_at_call 16; refine hQ.out.mono ?_; rintro r w3 ⟨e, rfl, hT, hx3⟩; simp only [El.val])
      have hb3 : Box (w3.alloc (.cells e.arr 28)) w3.heap.size e.arr 28 := Box.at rfl _ _
      have hx4 : Ext w (w3.alloc (.cells e.arr 28)) := ext_alloc (ext_trans hx2 hx3) _
      rw [treeJ_jMap] at hT
      have hT3 := Lib.hid (hT.ext (ext_alloc (ext_refl w3) (.cells e.arr 28)))
      clear hT
      generalize w3.alloc (.cells e.arr 28) = w4 at hb3 hx4 hT3 ⊢
      generalize w3.heap.size = b3 at hb3 ⊢
      refine wp_region_order (fun w' => Six w' b3 e) [0, 1, 2, 3, 7] [0, 1, 2, 3, 4, 5, 6, 7, 8] (by kernel_rfl) (by kernel_rfl) (fun d _ _ _ _ h => by cases d <;> exact h) (by kernel_rfl) ?_
      have hS : Six w4.drew b3 e := hb3.Six
      iterate 2 (apply ord_held rfl rfl (by assumption) rfl; (focus ((intro w' hS'); go_simp; (try with_reducible rfl))); (try simp only [Act.put, List.setIfInBounds_toArray, List.set_cons_zero, List.set_cons_succ]))
      iterate 2 (apply ord_guard rfl rfl (by assumption) rfl; (focus ((intro w' hS'); go_simp; (try with_reducible rfl))); (try simp only [Act.put, List.setIfInBounds_toArray, List.set_cons_zero, List.set_cons_succ]))
      (apply ord_want rfl rfl rfl; intro K hK; go_simp)
      refine (params_any (S := fun _ => True) sSlice tSlice a n c ps _ table_slice 6 (by decide) (by decide) rSlice (by decide) (by decide) (hPs.out _ (ext_drew hx4))).mono ?_
      rintro r w5 ⟨v4, es4, rfl, hO4, hPk4, hx5⟩
      obtain ⟨pa, pc, rfl, hPA⟩ := hO4.pairs (S := fun _ => True) hPk4.1 (fun _ _ => trivial) (hPk4.keep (fun _ _ _ => trivial) (fun _ _ _ => rfl)).2
      have hS5 : Six w5 b3 e := Six.ext hx5 hb3.Six
      refine hK _ _ (fun _ => hS5) ?_
      clear hK K
      (try simp only [Act.put, List.setIfInBounds_toArray, List.set_cons_zero, List.set_cons_succ])
      (apply ord_want rfl rfl rfl; intro K hK; go_simp)
      refine (map_any (S := fun _ => True) pa _ pc _ w5 hPA (by have h1 := hPk4.1; have h2 := params_len rSlice ps; simp only [List.length_cons, List.length_nil] at h2; omega)).mono ?_
      rintro r w6 ⟨g6, rfl, hT6, hx6⟩
      have hS6 := Six.ext hx6 hS5
      refine hK _ _ (fun _ => hS6) ?_
      clear hK K
      simp only [El.val]
      (try simp only [Act.put, List.setIfInBounds_toArray, List.set_cons_zero, List.set_cons_succ])
      (apply ord_want rfl rfl rfl; intro K hK; go_simp)
      refine (same_any (S := fun _ => True) _ _ e g6 _ ((hT3.out.ext (ext_trans (ext_trans (ext_drew (ext_refl w4)) hx5) hx6)).any) hT6.any).mono ?_
      rintro r w7 ⟨rfl, hx7⟩
      have hS7 := Six.ext hx7 hS6
      refine hK _ _ (fun _ => hS7) ?_
      clear hK K
      rw [hfit.out]
      (try simp only [Act.put, List.setIfInBounds_toArray, List.set_cons_zero, List.set_cons_succ])
      (apply ord_held rfl rfl (by assumption) rfl; (focus ((intro w' hS'); go_simp; (try with_reducible rfl))); (try simp only [Act.put, List.setIfInBounds_toArray, List.set_cons_zero, List.set_cons_succ]))
      (apply ord_last rfl rfl rfl (by kernel_rfl); intro K hK; go_simp; refine hK _ _ ?_; clear hK K; (try simp only [Act.put, List.setIfInBounds_toArray, List.set_cons_zero, List.set_cons_succ]))
      refine ord_end ?_
      go_wp2_with fail
      go_ret
      exact ⟨rfl, ext_trans hx4 (ext_trans (ext_trans (ext_drew (ext_refl w4)) hx5) (ext_trans hx6 hx7))⟩
end Go.Proofs.Ytdpgmmkecghihaa
