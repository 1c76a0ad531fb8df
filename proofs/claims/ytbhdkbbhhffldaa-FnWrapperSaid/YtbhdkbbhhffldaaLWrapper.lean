/-
  A wrapper query has its text.
-/
import Derived.Test.YtbhdkbbhhffldaaWrapper
import Derived.Test.YtbhdkbbhhffldaaRefl
namespace Go.Proofs.Ytbhdkbbhhffldaa
open Go.RowKit

set_option maxHeartbeats 2000000 in
theorem wtable_none (w : World) : Calls Try.prog 102 #[.string ⟨#[]⟩] w fun r w' => r = .returned (.string ⟨#[]⟩) ∧ w' = w := by
  go_enter Try.func102, Try.ntmps102
  go_wp2
  go_ret
  exact ⟨rfl, rfl⟩

theorem wrapper_same (s : ByteArray) : sameT (treeJ (.map [sWrapper] [.map [sQuery] [.str s]])) (mapT [(sWrapper, mapT (paramsL [] [] ++ [(sQuery, textT s)]))]) = true := by
  refine sameT_self _ (okT_map fun p hp => ?_)
  simp [treesJ] at hp
  subst hp
  refine okT_map fun p hp => ?_
  simp [treesJ] at hp
  subst hp
  exact okT_text s

set_option maxHeartbeats 2000000 in
theorem wrapper_law (s : ByteArray) (w : World) : Calls Try.prog 4 #[.string s] w fun r w' => r = .returned (.bool true) ∧ Ext w w' := by
  go_enter Try.func4, Try.ntmps4
  by_cases hs : 2147483647 < s.size
  · go_wp2_with fail
    go_ret
    exact ⟨rfl, ext_refl _⟩
  · go_upto_region 4 with (go_at_call 19; refine (wrapper_any s _).mono ?_; rintro r w2 ⟨e, rfl, hT, hx⟩; simp only [El.val])
    have hb3 : Box (w2.alloc (.cells e.arr 26)) w2.heap.size e.arr 26 := Box.at rfl _ _
    have hx3 : Ext w (w2.alloc (.cells e.arr 26)) := ext_alloc hx _
    have hT3 := Lib.hid (hT.ext (ext_alloc (ext_refl w2) (.cells e.arr 26)))
    clear hT hx
    generalize w2.alloc (.cells e.arr 26) = w3 at hb3 hx3 hT3 ⊢
    generalize w2.heap.size = b3 at hb3 ⊢
    refine wp_region_order (fun w' => Six w' b3 e) [0, 1, 2, 3, 5, 9] [0, 1, 2, 3, 4, 5, 6, 7, 8, 9, 10] (by kernel_rfl) (by kernel_rfl) (fun d _ _ _ _ h => by cases d <;> exact h) (by kernel_rfl) ?_
    have hS : Six w3.drew b3 e := hb3.Six
    iterate 2 (apply ord_held rfl rfl (by assumption) rfl; (focus ((intro w' hS'); go_simp; (try with_reducible rfl))); (try simp only [Act.put, List.setIfInBounds_toArray, List.set_cons_zero, List.set_cons_succ]))
    iterate 2 (apply ord_guard rfl rfl (by assumption) rfl; (focus ((intro w' hS'); go_simp; (try with_reducible rfl))); (try simp only [Act.put, List.setIfInBounds_toArray, List.set_cons_zero, List.set_cons_succ]))
    (apply ord_want rfl rfl rfl; intro K hK; go_simp)
    refine (text_any s _).mono ?_
    rintro r w4 ⟨g, rfl, hT4, hx4⟩
    have hS : Six w4 b3 e := Six.ext hx4 hb3.Six
    refine hK _ _ (fun _ => hS) ?_
    clear hK K
    simp only [El.val]
    (try simp only [Act.put, List.setIfInBounds_toArray, List.set_cons_zero, List.set_cons_succ])
    (apply ord_guard rfl rfl (by assumption) rfl; (focus ((intro w' hS'); go_simp; (try with_reducible rfl))); (try simp only [Act.put, List.setIfInBounds_toArray, List.set_cons_zero, List.set_cons_succ]))
    (apply ord_want rfl rfl rfl; intro K hK; go_simp)
    have hx5 : Ext w4 (w4.alloc (.cells #[.string sQuery, .int .i64 g.k, .string g.x, .float .f64 g.d, .bool g.y, .slice g.ka g.n g.kc, .slice g.ca g.m g.cc] 33)) := ext_alloc (ext_refl _) _
    have hb5 : Box (w4.alloc (.cells #[.string sQuery, .int .i64 g.k, .string g.x, .float .f64 g.d, .bool g.y, .slice g.ka g.n g.kc, .slice g.ca g.m g.cc] 33)) w4.heap.size _ _ := Box.at rfl _ _
    have hT5 := (hT4 (fun _ => True)).ext hx5
    have hS5 := Six.ext hx5 hS
    refine hK _ _ (fun _ => hS5) ?_
    clear hK K
    have hx35 := ext_trans (ext_trans (ext_drew (ext_refl w3)) hx4) hx5
    generalize w4.alloc (.cells #[.string sQuery, .int .i64 g.k, .string g.x, .float .f64 g.d, .bool g.y, .slice g.ka g.n g.kc, .slice g.ca g.m g.cc] 33) = w5 at hb5 hT5 hS5 hx35 ⊢
    generalize w4.heap.size = b5 at hb5 ⊢
    (apply ord_want rfl rfl rfl; intro K hK; go_simp)
    refine (beside_more (S := fun _ => True) sWrapper ⟨#[]⟩ ⟨#[]⟩ none 0 0 [] w5 wtable_none 0 rfl (by decide) [] rfl (by decide) ⟨rfl, Nat.le_refl _, by simp [maxLen], fun _ _ h => by simp at h⟩ b5 0 1 1 [(sQuery, textT s)] (pairs_one hb5 trivial hT5) (by decide) (by decide)).mono ?_
    rintro r w6 ⟨g2, rfl, hT6, hx6⟩
    refine hK _ _ (fun _ => Six.ext hx6 hS5) ?_
    clear hK K
    simp only [El.val]
    (try simp only [Act.put, List.setIfInBounds_toArray, List.set_cons_zero, List.set_cons_succ])
    (apply ord_want rfl rfl rfl; intro K hK; go_simp)
    refine (same_any (S := fun _ => True) _ _ e g2 _ ((hT3.out.ext (ext_trans hx35 hx6)).any) hT6.any).mono ?_
    rintro r w7 ⟨rfl, hx7⟩
    have hS7 := Six.ext hx7 (Six.ext hx6 hS5)
    refine hK _ _ (fun _ => hS7) ?_
    clear hK K
    rw [wrapper_same]
    (try simp only [Act.put, List.setIfInBounds_toArray, List.set_cons_zero, List.set_cons_succ])
    (apply ord_held rfl rfl (by assumption) rfl; (focus ((intro w' hS'); go_simp; (try with_reducible rfl))); (try simp only [Act.put, List.setIfInBounds_toArray, List.set_cons_zero, List.set_cons_succ]))
    (apply ord_last rfl rfl rfl (by kernel_rfl); intro K hK; go_simp; refine hK _ _ ?_; clear hK K; (try simp only [Act.put, List.setIfInBounds_toArray, List.set_cons_zero, List.set_cons_succ]))
    refine ord_end ?_
    go_wp2_with fail
    go_ret
    exact ⟨rfl, ext_trans hx3 (ext_trans hx35 (ext_trans hx6 hx7))⟩
end Go.Proofs.Ytbhdkbbhhffldaa
