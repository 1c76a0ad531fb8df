/-
  ReadRange: a query of a range, read: bounds, included or not.
-/
import Derived.Test.YtocfoheckgdonaaGreatDoorVr
import Derived.Test.YtocfoheckgdonaaGreatDoorPo
namespace Go.Proofs.YtocfoheckgdonaaGreatDoor
open Go.RowKit

/-- What is read of one bound: the bound under one of two names, as it is included or not. -/
def rstep (fr inc gte gt : ByteArray) (ps : List (ByteArray × T)) : List (ByteArray × T) :=
  ((ps.filter fun p => !seq p.1 fr).filter fun p => !seq p.1 inc) ++ match lastOf ps fr with
    | none => []
    | some b => if b.kind = 0 then [] else [(if ((lastOf ps inc).isSome && !((lastOf ps inc).getD nullT).yes) = true then gt else gte, b)]
theorem rstep_len (fr inc gte gt : ByteArray) (ps : List (ByteArray × T)) : (rstep fr inc gte gt ps).length ≤ ps.length + 1 := by
  unfold rstep
  have h1 := List.length_filter_le (fun p : ByteArray × T => !seq p.1 inc) (ps.filter fun p => !seq p.1 fr)
  have h2 := List.length_filter_le (fun p : ByteArray × T => !seq p.1 fr) ps
  rw [List.length_append]
  split
  · simp only [List.length_nil]; omega
  · split <;> simp only [List.length_nil, List.length_cons] <;> omega
def rsteps : Nat → List (ByteArray × T) → List (ByteArray × T)
  | 0, ps => ps
  | 1, ps => rstep s_from s_include_lower s_gte s_gt ps
  | _, ps => rstep s_to s_include_upper s_lte s_lt (rstep s_from s_include_lower s_gte s_gt ps)
theorem rsteps_len (j : Nat) (ps : List (ByteArray × T)) : (rsteps j ps).length ≤ ps.length + 2 := by
  have h1 := rstep_len s_from s_include_lower s_gte s_gt ps
  have h2 := rstep_len s_to s_include_upper s_lte s_lt (rstep s_from s_include_lower s_gte s_gt ps)
  match j with
  | 0 => simp [rsteps]
  | 1 => simp only [rsteps]; omega
  | j + 2 => simp only [rsteps]; omega
theorem at_map2 {S : Nat → Prop} (ps : List (ByteArray × T)) (e : El) (key : ByteArray) (w : World) (h : TreeAt S w e (mapT ps)) :
    Calls Tryz.prog 45 #[e.val, .string key] w fun r w' => ∃ g : El, r = .returned (.tuple #[g.val, .bool (lastOf ps key).isSome]) ∧ TreeAt S w' g ((lastOf ps key).getD nullT) ∧ Ext w w' := at_map ps e key w h

set_option maxRecDepth 20000 in
set_option maxHeartbeats 16000000 in
theorem readRange_any {S : Nat → Prop} (field : ByteArray) (o : T) (A R : List (ByteArray × T)) (e : El) (w : World) (h : TreeAt S w e (mapT [(s_range, mapT ((field, o) :: R))])) (hown : FieldOwn s_value o A) (hoth : lastOf A emptyS = none)
    (hf1 : field ≠ s_name) (hf2 : field ≠ s_boost) (hR : ∀ p ∈ R, p.1 = s_name ∨ p.1 = s_boost) (hfs : field.size ≤ 2147483647) (hA : ∀ p ∈ A ++ R, p.1.size ≤ 2147483647 ∧ p.2.kind ≠ 5) (hlen : A.length + R.length ≤ 3000) (hfl : Flat (A ++ R)) :
    Calls Tryz.prog 26 #[.string field, e.val] w fun r w' => ∃ g : El, r = .returned g.val ∧ TreeAt (fun _ => True) w' g (mapT [(s_range, mapT [(field, mapT (rsteps 2 (A ++ R)))])]) ∧ Ext w w' := by
  obtain ⟨ek, ex, ed, ey, eka, en, ekc, eca, em, ecc⟩ := e
  have hx0 : Ext w ((w.alloc (.cells (El.arr ⟨ek, ex, ed, ey, eka, en, ekc, eca, em, ecc⟩) 26)).alloc (.cells (El.arr El0) 26)) := ext_alloc (ext_alloc (ext_refl _) _) _
  have hb1o : Box ((w.alloc (.cells (El.arr ⟨ek, ex, ed, ey, eka, en, ekc, eca, em, ecc⟩) 26)).alloc (.cells (El.arr El0) 26)) w.heap.size (El.arr ⟨ek, ex, ed, ey, eka, en, ekc, eca, em, ecc⟩) 26 := (Box.at rfl _ _).alloc _
  have hb2o : Box ((w.alloc (.cells (El.arr ⟨ek, ex, ed, ey, eka, en, ekc, eca, em, ecc⟩) 26)).alloc (.cells (El.arr El0) 26)) (w.heap.size + 1) (El.arr El0) 26 := Box.at (by simp) _ _
  have hRV := readValued_more (fun s => s) s_range field s_value emptyS o A R ⟨ek, ex, ed, ey, eka, en, ekc, eca, em, ecc⟩ _ ((h.to (S' := fun b => S b ∧ b < w.heap.size) (fun b h1 h2 => ⟨h1, h2⟩)).ext hx0) hown hoth hf1 hf2 hR (by decide) hfs hA (by omega) (fun s hs => (readV_no s_range field hfl s hs).elim)
  rw [readV_eq, foldP_flat _ hfl] at hRV
  have hLl : (A ++ R).length ≤ 3000 := by rw [List.length_append]; exact hlen
  generalize A ++ R = L at hRV hLl ⊢
  have HLL := Lib.hid hLl
  clear h hown hoth hf1 hf2 hR hA hlen hfl hLl
  simp only [El.val] at hRV ⊢
  go_enter Tryz.func26, Tryz.ntmps26
  obtain ⟨v0, v1, v2, v3, v4, v5⟩ := hb1o.six
  go_upto_region 2 with (go_at_call 16; refine hRV.mono ?_; rintro r w2 ⟨⟨gk, gx, gd, gy, gka, gn, gkc, gca, gm, gcc⟩, rfl, hT, hx⟩; simp only)
  have hx2 : Ext w2 (w2.alloc (.cells (El.arr ⟨gk, gx, gd, gy, gka, gn, gkc, gca, gm, gcc⟩) 26)) := ext_alloc (ext_refl _) _
  have hb5 : Box (w2.alloc (.cells (El.arr ⟨gk, gx, gd, gy, gka, gn, gkc, gca, gm, gcc⟩) 26)) w2.heap.size (El.arr ⟨gk, gx, gd, gy, gka, gn, gkc, gca, gm, gcc⟩) 26 := Box.at rfl _ _
  have hw2 : w.heap.size + 1 < w2.heap.size := (hb2o.ext hx).lt
  have hb2 := (hb2o.ext hx).ext hx2
  have hT3 := (hT.to (S' := fun b => ((S b ∧ b < w.heap.size) ∨ w.heap.size + 1 < b) ∧ b < w2.heap.size) (fun b h1 h2 => by
    rcases h1 with h1 | h1
    · exact ⟨.inl h1.1, h2⟩
    · simp at h1
      exact ⟨.inr (by omega), h2⟩)).ext hx2
  have hx3 := ext_trans hx0 (ext_trans hx hx2)
  clear hT hx0 hx hx2 hRV hb1o hb2o v0 v1 v2 v3 v4 v5
  generalize w2.alloc (.cells (El.arr ⟨gk, gx, gd, gy, gka, gn, gkc, gca, gm, gcc⟩) 26) = w3 at hb5 hb2 hT3 hx3 ⊢
  have hb5l := hb5.lt
  have hAt := at_map [(s_range, mapT [(field, mapT L)])] ⟨gk, gx, gd, gy, gka, gn, gkc, gca, gm, gcc⟩ s_range w3 hT3
  rw [show lastOf [(s_range, mapT [(field, mapT L)])] s_range = some (mapT [(field, mapT L)]) by simp [lastOf, seq_self]] at hAt
  simp only [Option.isSome_some, Option.getD_some, El.val] at hAt
  obtain ⟨v0, v1, v2, v3, v4, v5⟩ := hb5.six
  go_upto_region 3 with (go_at_call 45; refine hAt.mono ?_; rintro r w4 ⟨⟨hk, hhx, hd, hy, hka, hn, hkc, hca, hm, hcc⟩, rfl, hT4, hx4⟩; simp only)
  have hx5 : Ext w3 (w4.alloc (.cells (El.arr ⟨hk, hhx, hd, hy, hka, hn, hkc, hca, hm, hcc⟩) 26)) := ext_alloc hx4 _
  have hb6 : Box (w4.alloc (.cells (El.arr ⟨hk, hhx, hd, hy, hka, hn, hkc, hca, hm, hcc⟩) 26)) w4.heap.size (El.arr ⟨hk, hhx, hd, hy, hka, hn, hkc, hca, hm, hcc⟩) 26 := Box.at rfl _ _
  have hw4 := hx4.sz
  have hb2 := hb2.ext hx5
  have hT5 := hT4.ext (ext_alloc (ext_refl w4) (.cells (El.arr ⟨hk, hhx, hd, hy, hka, hn, hkc, hca, hm, hcc⟩) 26))
  have hx6 := ext_trans hx3 hx5
  clear hT3 hT4 hx3 hx4 hx5 hAt v0 v1 v2 v3 v4 v5 hb5
  generalize w4.alloc (.cells (El.arr ⟨hk, hhx, hd, hy, hka, hn, hkc, hca, hm, hcc⟩) 26) = w5 at hb6 hb2 hT5 hx6 ⊢
  have hb6l := hb6.lt
  have hAt := at_map [(field, mapT L)] ⟨hk, hhx, hd, hy, hka, hn, hkc, hca, hm, hcc⟩ field w5 hT5
  rw [show lastOf [(field, mapT L)] field = some (mapT L) by simp [lastOf, seq_self]] at hAt
  simp only [Option.isSome_some, Option.getD_some, El.val] at hAt
  obtain ⟨v0, v1, v2, v3, v4, v5⟩ := hb6.six
  go_upto_region 4 with (go_at_call 45; refine hAt.mono ?_; rintro r w6 ⟨⟨ok, ox, od, oy, oka, on, okc, oca, om, occ⟩, rfl, hT6, hx7⟩; simp only)
  have hx8 : Ext w5 (w6.alloc (.cells (El.arr ⟨ok, ox, od, oy, oka, on, okc, oca, om, occ⟩) 26)) := ext_alloc hx7 _
  have hb8 : Box (w6.alloc (.cells (El.arr ⟨ok, ox, od, oy, oka, on, okc, oca, om, occ⟩) 26)) w6.heap.size (El.arr ⟨ok, ox, od, oy, oka, on, okc, oca, om, occ⟩) 26 := Box.at rfl _ _
  have hw6 := hx7.sz
  have hb2 := hb2.ext hx8
  have hTo := Lib.hid ((hT6.to (S' := fun b => (S b ∧ b < w.heap.size) ∨ (w.heap.size + 1 < b ∧ b ≠ w6.heap.size)) (fun b h1 h2 => by
    rcases h1 with ⟨h1 | h1, h3⟩
    · exact .inl h1
    · exact .inr ⟨h1, by omega⟩)).ext (ext_alloc (ext_refl w6) (.cells (El.arr ⟨ok, ox, od, oy, oka, on, okc, oca, om, occ⟩) 26)))
  have hx9 := ext_trans hx6 hx8
  clear hT5 hT6 hx6 hx7 hx8 hAt v0 v1 v2 v3 v4 v5 hb6
  generalize w6.alloc (.cells (El.arr ⟨ok, ox, od, oy, oka, on, okc, oca, om, occ⟩) 26) = w7 at hb8 hb2 hTo hx9 ⊢
  have hb82 : w.heap.size + 1 < w6.heap.size := by omega
  generalize w6.heap.size = b8 at hb8 hTo hb82 ⊢
  have hb8l := hb8.lt
  go_upto_region 7 with fail
  have hxA : Ext w7 (((w7.alloc (.cells #[.string s_from, .string s_include_lower, .string s_gte, .string s_gt] 9)).alloc (.cells #[.string s_to, .string s_include_upper, .string s_lte, .string s_lt] 9)).alloc (.cells #[.slice (some ⟨w7.heap.size, 0, none⟩) 4 4, .slice (some ⟨w7.heap.size + 1, 0, none⟩) 4 4] 23)) := ext_alloc (ext_alloc (ext_alloc (ext_refl _) _) _) _
  have hA0 : Box (((w7.alloc (.cells #[.string s_from, .string s_include_lower, .string s_gte, .string s_gt] 9)).alloc (.cells #[.string s_to, .string s_include_upper, .string s_lte, .string s_lt] 9)).alloc (.cells #[.slice (some ⟨w7.heap.size, 0, none⟩) 4 4, .slice (some ⟨w7.heap.size + 1, 0, none⟩) 4 4] 23)) w7.heap.size #[.string s_from, .string s_include_lower, .string s_gte, .string s_gt] 9 := ((Box.at rfl _ _).alloc _).alloc _
  have hA1 : Box (((w7.alloc (.cells #[.string s_from, .string s_include_lower, .string s_gte, .string s_gt] 9)).alloc (.cells #[.string s_to, .string s_include_upper, .string s_lte, .string s_lt] 9)).alloc (.cells #[.slice (some ⟨w7.heap.size, 0, none⟩) 4 4, .slice (some ⟨w7.heap.size + 1, 0, none⟩) 4 4] 23)) (w7.heap.size + 1) #[.string s_to, .string s_include_upper, .string s_lte, .string s_lt] 9 := (Box.at (by simp) _ _).alloc _
  have hBB : Box (((w7.alloc (.cells #[.string s_from, .string s_include_lower, .string s_gte, .string s_gt] 9)).alloc (.cells #[.string s_to, .string s_include_upper, .string s_lte, .string s_lt] 9)).alloc (.cells #[.slice (some ⟨w7.heap.size, 0, none⟩) 4 4, .slice (some ⟨w7.heap.size + 1, 0, none⟩) 4 4] 23)) (w7.heap.size + 1 + 1) #[.slice (some ⟨w7.heap.size, 0, none⟩) 4 4, .slice (some ⟨w7.heap.size + 1, 0, none⟩) 4 4] 23 := Box.at (by simp) _ _
  have hb8 := hb8.ext hxA
  have hb2 := hb2.ext hxA
  have hTo := Lib.hid (hTo.out.ext hxA)
  have hx9 := ext_trans hx9 hxA
  have hxw7 := hx9.sz
  clear hxA
  generalize (((w7.alloc (.cells #[.string s_from, .string s_include_lower, .string s_gte, .string s_gt] 9)).alloc (.cells #[.string s_to, .string s_include_upper, .string s_lte, .string s_lt] 9)).alloc (.cells #[.slice (some ⟨w7.heap.size, 0, none⟩) 4 4, .slice (some ⟨w7.heap.size + 1, 0, none⟩) 4 4] 23)) = wA at hb8 hb2 hTo hx9 hA0 hA1 hBB hxw7 ⊢
  generalize w7.heap.size = a0 at hb8l hA0 hA1 hBB ⊢
  go_wp2_with fail
  go_loopw [11] (fun i wr => Ext w wr ∧ Box wr (w.heap.size + 1) (El.arr El0) 26 ∧ Box wr a0 #[.string s_from, .string s_include_lower, .string s_gte, .string s_gt] 9 ∧ Box wr (a0 + 1) #[.string s_to, .string s_include_upper, .string s_lte, .string s_lt] 9 ∧ Box wr (a0 + 1 + 1) #[.slice (some ⟨a0, 0, none⟩) 4 4, .slice (some ⟨a0 + 1, 0, none⟩) 4 4] 23 ∧ ∃ (j : Nat) (eo : El), j ≤ 2 ∧ i = .int .i64 j ∧ Box wr b8 eo.arr 26 ∧ TreeAt (fun b => (S b ∧ b < w.heap.size) ∨ (w.heap.size + 1 < b ∧ b ≠ b8)) wr eo (mapT (rsteps j L))) (fun i _ => 2 - (intOf i).toNat)
  case atStart => exact ⟨hx9, hb2, hA0, hA1, hBB, 0, _, Nat.zero_le _, rfl, hb8, hTo.out⟩
  case round =>
    clear hx9 hb2 hA0 hA1 hBB hb8 hTo hxw7
    obtain ⟨hx, hb2, hA0, hA1, hBB, j, eo, hj, rfl, hb8, hTo⟩ := hrel
    obtain ⟨ok, ox, od, oy, oka, on, okc, oca, om, occ⟩ := eo
    have hxs := hx.sz
    by_cases hlt : j < 2
    · have hnm : ∃ (q : Nat) (s0 s1 s2 s3 : ByteArray), Box wr q #[.string s0, .string s1, .string s2, .string s3] 9 ∧ wr.cell? ⟨a0 + 1 + 1, 0 + j, none⟩ = some (.slice (some ⟨q, 0, none⟩) 4 4) ∧ b8 < q ∧ (q = a0 ∨ q = a0 + 1) ∧ rsteps (j + 1) L = rstep s0 s1 s2 s3 (rsteps j L) := by
        rcases (show j = 0 ∨ j = 1 by omega) with rfl | rfl
        · exact ⟨a0, s_from, s_include_lower, s_gte, s_gt, hA0, hBB.cell 0 _ rfl, by omega, .inl rfl, rfl⟩
        · exact ⟨a0 + 1, s_to, s_include_upper, s_lte, s_lt, hA1, hBB.cell 1 _ rfl, by omega, .inr rfl, rfl⟩
      obtain ⟨q, s0, s1, s2, s3, hq, hbn, hq8, hqa, hst⟩ := hnm
      have HST := Lib.hid hst
      have HML := Lib.hid (show (rsteps j L).length ≤ 3002 by have h1 := rsteps_len j L; have h2 := HLL.out; omega)
      generalize rsteps j L = M at hTo HST HML
      clear hst
      have hTo := Lib.hid hTo
      have hql := hq.lt
      have hbn2 : wr.cell? ⟨a0 + 1 + 1, j, none⟩ = some (.slice (some ⟨q, 0, none⟩) 4 4) := by rw [← hbn, Nat.zero_add]
      go_upto_region 11 with fail
      go_cut [13, 14] (fun s13 s14 wc => ∃ (bb : Nat) (eb : El), s13 = .pointer (some ⟨bb, 0, none⟩) ∧ s14 = .bool (lastOf M s0).isSome ∧ Ext wr wc ∧ wr.heap.size ≤ bb ∧ Box wc bb eb.arr 26 ∧ TreeAt (fun b => (S b ∧ b < w.heap.size) ∨ (w.heap.size + 1 < b ∧ b ≠ b8)) wc eb ((lastOf M s0).getD nullT))
      case first =>
        refine wp_region_tree (fun w' => Six w' b8 ⟨ok, ox, od, oy, oka, on, okc, oca, om, occ⟩ ∧ w'.cell? ⟨q, 0, none⟩ = some (.string s0) ∧ w'.cell? ⟨q, 1, none⟩ = some (.string s1) ∧ w'.cell? ⟨q, 2, none⟩ = some (.string s2) ∧ w'.cell? ⟨q, 3, none⟩ = some (.string s3)) [0, 1, 2, 3, 5, 6, 7] (.held 0 (.held 1 (.held 2 (.held 3 (.two 4 (.held 5 (.held 6 (.held 7 (.one 8 (.one 9 (.one 10 (.done))))))) 8 (.one 4 (.held 5 (.held 6 (.held 7 (.one 9 (.one 10 (.done)))))))))))) (by kernel_rfl) (by kernel_rfl) (fun d _ _ _ _ h => by cases d <;> exact h) (by kernel_rfl) ?_
        have hS : (fun w' => Six w' b8 ⟨ok, ox, od, oy, oka, on, okc, oca, om, occ⟩ ∧ w'.cell? ⟨q, 0, none⟩ = some (.string s0) ∧ w'.cell? ⟨q, 1, none⟩ = some (.string s1) ∧ w'.cell? ⟨q, 2, none⟩ = some (.string s2) ∧ w'.cell? ⟨q, 3, none⟩ = some (.string s3)) _ := ⟨hb8.Six, hq.cell 0 _ rfl, hq.cell 1 _ rfl, hq.cell 2 _ rfl, hq.cell 3 _ rfl⟩
        (apply tr_held rfl (by assumption) rfl; (focus ((intro w' hS'); go_simp; (try with_reducible rfl))); (try simp only [Act.put, List.setIfInBounds_toArray, List.set_cons_zero, List.set_cons_succ]))
        (apply tr_held rfl (by assumption) rfl; (focus ((intro w' hS'); go_simp; (try with_reducible rfl))); (try simp only [Act.put, List.setIfInBounds_toArray, List.set_cons_zero, List.set_cons_succ]))
        (apply tr_held rfl (by assumption) rfl; (focus ((intro w' hS'); go_simp; (try with_reducible rfl))); (try simp only [Act.put, List.setIfInBounds_toArray, List.set_cons_zero, List.set_cons_succ]))
        (apply tr_held rfl (by assumption) rfl; (focus ((intro w' hS'); go_simp; (try with_reducible rfl))); (try simp only [Act.put, List.setIfInBounds_toArray, List.set_cons_zero, List.set_cons_succ]))
        refine tr_two ?_ ?_
        · skip
          (apply tr_loud rfl rfl; intro K hK; go_simp)
          refine (at_map M ⟨ok, ox, od, oy, oka, on, okc, oca, om, occ⟩ s0 _ (TreeAt.ext ((ext_drew (ext_refl wr))) (hTo.out.to (S' := fun b => (fun b => (S b ∧ b < w.heap.size) ∨ (w.heap.size + 1 < b ∧ b ≠ b8)) b ∧ b < wr.heap.size) (fun b h1 h2 => ⟨h1, h2⟩)))).mono ?_
          rintro r wk ⟨eb, rfl, hTb, hxk⟩
          have hS1 : (fun w' => Six w' b8 ⟨ok, ox, od, oy, oka, on, okc, oca, om, occ⟩ ∧ w'.cell? ⟨q, 0, none⟩ = some (.string s0) ∧ w'.cell? ⟨q, 1, none⟩ = some (.string s1) ∧ w'.cell? ⟨q, 2, none⟩ = some (.string s2) ∧ w'.cell? ⟨q, 3, none⟩ = some (.string s3)) wk := ⟨Six.ext hxk hS.1, hxk.cell hS.2.1, hxk.cell hS.2.2.1, hxk.cell hS.2.2.2.1, hxk.cell hS.2.2.2.2⟩
          refine hK _ _ (fun _ => hS1) ?_
          clear hK K
          try simp only [El.val]
          (try simp only [Act.put, List.setIfInBounds_toArray, List.set_cons_zero, List.set_cons_succ])
          (apply tr_held rfl (by assumption) rfl; (focus ((intro w' hS'); go_simp; (try with_reducible rfl))); (try simp only [Act.put, List.setIfInBounds_toArray, List.set_cons_zero, List.set_cons_succ]))
          (apply tr_held rfl (by assumption) rfl; (focus ((intro w' hS'); go_simp; (try with_reducible rfl))); (try simp only [Act.put, List.setIfInBounds_toArray, List.set_cons_zero, List.set_cons_succ]))
          (apply tr_held rfl (by assumption) rfl; (focus ((intro w' hS'); go_simp; (try with_reducible rfl))); (try simp only [Act.put, List.setIfInBounds_toArray, List.set_cons_zero, List.set_cons_succ]))
          (apply tr_loud rfl rfl; intro K hK; go_simp)
          have hxal : Ext wk (wk.alloc (.cells #[.int .i64 0, .string ⟨#[]⟩, .float .f64 0, .bool false, .slice none 0 0, .slice none 0 0] 26)) := ext_alloc (ext_refl _) _
          have hbA : Box (wk.alloc (.cells #[.int .i64 0, .string ⟨#[]⟩, .float .f64 0, .bool false, .slice none 0 0, .slice none 0 0] 26)) wk.heap.size (El.arr El0) 26 := Box.at rfl _ _
          have hsA : wr.heap.size ≤ wk.heap.size := ((ext_trans ((ext_drew (ext_refl wr))) hxk) : Ext wr wk).sz
          have hsB := hbA.lt
          have hS2 : (fun w' => Six w' b8 ⟨ok, ox, od, oy, oka, on, okc, oca, om, occ⟩ ∧ w'.cell? ⟨q, 0, none⟩ = some (.string s0) ∧ w'.cell? ⟨q, 1, none⟩ = some (.string s1) ∧ w'.cell? ⟨q, 2, none⟩ = some (.string s2) ∧ w'.cell? ⟨q, 3, none⟩ = some (.string s3)) (wk.alloc (.cells #[.int .i64 0, .string ⟨#[]⟩, .float .f64 0, .bool false, .slice none 0 0, .slice none 0 0] 26)) := ⟨Six.ext hxal hS1.1, hxal.cell hS1.2.1, hxal.cell hS1.2.2.1, hxal.cell hS1.2.2.2.1, hxal.cell hS1.2.2.2.2⟩
          refine hK _ _ (fun _ => hS2) ?_
          clear hK K
          try simp only [El.val]
          (try simp only [Act.put, List.setIfInBounds_toArray, List.set_cons_zero, List.set_cons_succ])
          obtain ⟨p0, p1, p2, p3, p4, p5⟩ := hbA.six
          have f0 := hbA.free 0
          have f1 := hbA.free 1
          have f2 := hbA.free 2
          have f3 := hbA.free 3
          have f4 := hbA.free 4
          have f5 := hbA.free 5
          have hxn : Ext wk (wk.alloc (.cells #[.int .i64 eb.k, .string eb.x, .float .f64 eb.d, .bool eb.y, .slice eb.ka eb.n eb.kc, .slice eb.ca eb.m eb.cc] 26)) := ext_alloc (ext_refl _) _
          (apply tr_loud rfl rfl; intro K hK; go_simp)
          have hS3 : (fun w' => Six w' b8 ⟨ok, ox, od, oy, oka, on, okc, oca, om, occ⟩ ∧ w'.cell? ⟨q, 0, none⟩ = some (.string s0) ∧ w'.cell? ⟨q, 1, none⟩ = some (.string s1) ∧ w'.cell? ⟨q, 2, none⟩ = some (.string s2) ∧ w'.cell? ⟨q, 3, none⟩ = some (.string s3)) (wk.alloc (.cells #[.int .i64 eb.k, .string eb.x, .float .f64 eb.d, .bool eb.y, .slice eb.ka eb.n eb.kc, .slice eb.ca eb.m eb.cc] 26)) := ⟨Six.ext hxn hS1.1, hxn.cell hS1.2.1, hxn.cell hS1.2.2.1, hxn.cell hS1.2.2.2.1, hxn.cell hS1.2.2.2.2⟩
          refine hK _ _ (fun _ => hS3) ?_
          clear hK K
          (try simp only [Act.put, List.setIfInBounds_toArray, List.set_cons_zero, List.set_cons_succ])
          (apply tr_loud rfl rfl; intro K hK; go_simp)
          refine hK _ _ (fun _ => hS3) ?_
          clear hK K
          (try simp only [Act.put, List.setIfInBounds_toArray, List.set_cons_zero, List.set_cons_succ])
          refine tr_end ?_
          have hxF : Ext wr (wk.alloc (.cells #[.int .i64 eb.k, .string eb.x, .float .f64 eb.d, .bool eb.y, .slice eb.ka eb.n eb.kc, .slice eb.ca eb.m eb.cc] 26)) := ext_trans (ext_trans ((ext_drew (ext_refl wr))) hxk) hxn
          have hbF : wr.heap.size ≤ wk.heap.size := ((ext_trans ((ext_drew (ext_refl wr))) hxk) : Ext wr wk).sz
          have hTF := (hTb.to (S' := fun b => (S b ∧ b < w.heap.size) ∨ (w.heap.size + 1 < b ∧ b ≠ b8)) (fun b h1 _ => h1.1)).ext hxn
          go_wp2_with fail
          go_meet
          case rel => exact ⟨wk.heap.size, eb, rfl, rfl, hxF, hbF, Box.at rfl _ _, hTF⟩
        · skip
          (apply tr_loud rfl rfl; intro K hK; go_simp)
          have hxal : Ext wr.drew (wr.drew.alloc (.cells #[.int .i64 0, .string ⟨#[]⟩, .float .f64 0, .bool false, .slice none 0 0, .slice none 0 0] 26)) := ext_alloc (ext_refl _) _
          have hbA : Box (wr.drew.alloc (.cells #[.int .i64 0, .string ⟨#[]⟩, .float .f64 0, .bool false, .slice none 0 0, .slice none 0 0] 26)) wr.heap.size (El.arr El0) 26 := Box.at rfl _ _
          have hsA : wr.heap.size ≤ wr.heap.size := (((ext_drew (ext_refl wr))) : Ext wr wr.drew).sz
          have hsB := hbA.lt
          have hS1 : (fun w' => Six w' b8 ⟨ok, ox, od, oy, oka, on, okc, oca, om, occ⟩ ∧ w'.cell? ⟨q, 0, none⟩ = some (.string s0) ∧ w'.cell? ⟨q, 1, none⟩ = some (.string s1) ∧ w'.cell? ⟨q, 2, none⟩ = some (.string s2) ∧ w'.cell? ⟨q, 3, none⟩ = some (.string s3)) (wr.drew.alloc (.cells #[.int .i64 0, .string ⟨#[]⟩, .float .f64 0, .bool false, .slice none 0 0, .slice none 0 0] 26)) := ⟨Six.ext hxal hS.1, hxal.cell hS.2.1, hxal.cell hS.2.2.1, hxal.cell hS.2.2.2.1, hxal.cell hS.2.2.2.2⟩
          refine hK _ _ (fun _ => hS1) ?_
          clear hK K
          try simp only [El.val]
          (try simp only [Act.put, List.setIfInBounds_toArray, List.set_cons_zero, List.set_cons_succ])
          (apply tr_loud rfl rfl; intro K hK; go_simp)
          refine (at_map M ⟨ok, ox, od, oy, oka, on, okc, oca, om, occ⟩ s0 _ (TreeAt.ext (ext_trans ((ext_drew (ext_refl wr))) hxal) (hTo.out.to (S' := fun b => (fun b => (S b ∧ b < w.heap.size) ∨ (w.heap.size + 1 < b ∧ b ≠ b8)) b ∧ b < wr.heap.size) (fun b h1 h2 => ⟨h1, h2⟩)))).mono ?_
          rintro r wk ⟨eb, rfl, hTb, hxk⟩
          have hS2 : (fun w' => Six w' b8 ⟨ok, ox, od, oy, oka, on, okc, oca, om, occ⟩ ∧ w'.cell? ⟨q, 0, none⟩ = some (.string s0) ∧ w'.cell? ⟨q, 1, none⟩ = some (.string s1) ∧ w'.cell? ⟨q, 2, none⟩ = some (.string s2) ∧ w'.cell? ⟨q, 3, none⟩ = some (.string s3)) wk := ⟨Six.ext hxk hS1.1, hxk.cell hS1.2.1, hxk.cell hS1.2.2.1, hxk.cell hS1.2.2.2.1, hxk.cell hS1.2.2.2.2⟩
          refine hK _ _ (fun _ => hS2) ?_
          clear hK K
          try simp only [El.val]
          (try simp only [Act.put, List.setIfInBounds_toArray, List.set_cons_zero, List.set_cons_succ])
          (apply tr_held rfl (by assumption) rfl; (focus ((intro w' hS'); go_simp; (try with_reducible rfl))); (try simp only [Act.put, List.setIfInBounds_toArray, List.set_cons_zero, List.set_cons_succ]))
          (apply tr_held rfl (by assumption) rfl; (focus ((intro w' hS'); go_simp; (try with_reducible rfl))); (try simp only [Act.put, List.setIfInBounds_toArray, List.set_cons_zero, List.set_cons_succ]))
          (apply tr_held rfl (by assumption) rfl; (focus ((intro w' hS'); go_simp; (try with_reducible rfl))); (try simp only [Act.put, List.setIfInBounds_toArray, List.set_cons_zero, List.set_cons_succ]))
          have hxW : Ext wr wk := (ext_trans (ext_trans ((ext_drew (ext_refl wr))) hxal) hxk)
          have hbAc := hbA.ext (hxk)
          obtain ⟨p0, p1, p2, p3, p4, p5⟩ := hbAc.six
          have f0 := hbAc.free 0
          have f1 := hbAc.free 1
          have f2 := hbAc.free 2
          have f3 := hbAc.free 3
          have f4 := hbAc.free 4
          have f5 := hbAc.free 5
          (apply tr_loud rfl rfl; intro K hK; go_simp)
          have hkS : Keeps (fun b => b < wr.heap.size) wk (sto wk wr.heap.size eb) := keeps_sto wk (by omega) eb
          have hS3 : (fun w' => Six w' b8 ⟨ok, ox, od, oy, oka, on, okc, oca, om, occ⟩ ∧ w'.cell? ⟨q, 0, none⟩ = some (.string s0) ∧ w'.cell? ⟨q, 1, none⟩ = some (.string s1) ∧ w'.cell? ⟨q, 2, none⟩ = some (.string s2) ∧ w'.cell? ⟨q, 3, none⟩ = some (.string s3)) (sto wk wr.heap.size eb) := ⟨Six.keep hkS (show b8 < _ by omega) hS2.1, hkS.cell (show q < _ by omega) hS2.2.1, hkS.cell (show q < _ by omega) hS2.2.2.1, hkS.cell (show q < _ by omega) hS2.2.2.2.1, hkS.cell (show q < _ by omega) hS2.2.2.2.2⟩
          refine hK _ _ (fun _ => hS3) ?_
          clear hK K
          (try simp only [Act.put, List.setIfInBounds_toArray, List.set_cons_zero, List.set_cons_succ])
          (apply tr_loud rfl rfl; intro K hK; go_simp)
          refine hK _ _ (fun _ => hS3) ?_
          clear hK K
          (try simp only [Act.put, List.setIfInBounds_toArray, List.set_cons_zero, List.set_cons_succ])
          refine tr_end ?_
          have hTF := TreeAt.keep (S := fun b => (fun b => (S b ∧ b < w.heap.size) ∨ (w.heap.size + 1 < b ∧ b ≠ b8)) b ∧ b < wr.heap.size) (S' := fun b => (S b ∧ b < w.heap.size) ∨ (w.heap.size + 1 < b ∧ b ≠ b8)) (fun b h _ => h.1) (keeps_sto (b := wr.heap.size) wk (fun h => by have := h.2; omega) eb) _ (hTb.ext (ext_refl _))
          have hxF := ext_sto6 (b := wr.heap.size) hxW (by omega) (.int .i64 eb.k) (.string eb.x) (.float .f64 eb.d) (.bool eb.y) (.slice eb.ka eb.n eb.kc) (.slice eb.ca eb.m eb.cc)
          have hbF := hbAc.sto eb
          go_wp2_with fail
          go_meet
          case rel => exact ⟨wr.heap.size, eb, rfl, rfl, hxF, by omega, hbF, hTF⟩
      case rest =>
        obtain ⟨bb, eb, rfl, rfl, hxc, hbbl, hbb, hTb⟩ := hcut
        obtain ⟨w1, rfl⟩ : ∃ x : World, x = wc := ⟨_, rfl⟩
        have hb81 := hb8.ext hxc
        have hq1 := hq.ext hxc
        have hTo := Lib.hid (hTo.out.ext hxc)
        have hTb := Lib.hid hTb
        have hw1 := hxc.sz
        have hbb1 := hbb.lt
        go_upto_region 12 with fail
        go_cut [15, 16] (fun s15 s16 wc => ∃ (bi : Nat) (ei : El), s15 = .pointer (some ⟨bi, 0, none⟩) ∧ s16 = .bool (lastOf M s1).isSome ∧ Ext w1 wc ∧ w1.heap.size ≤ bi ∧ Box wc bi ei.arr 26 ∧ TreeAt (fun b => (S b ∧ b < w.heap.size) ∨ (w.heap.size + 1 < b ∧ b ≠ b8)) wc ei ((lastOf M s1).getD nullT))
        case first =>
          refine wp_region_tree (fun w' => Six w' b8 ⟨ok, ox, od, oy, oka, on, okc, oca, om, occ⟩ ∧ w'.cell? ⟨q, 0, none⟩ = some (.string s0) ∧ w'.cell? ⟨q, 1, none⟩ = some (.string s1) ∧ w'.cell? ⟨q, 2, none⟩ = some (.string s2) ∧ w'.cell? ⟨q, 3, none⟩ = some (.string s3)) [0, 1, 2, 3, 5, 6, 7] (.held 0 (.held 1 (.held 2 (.held 3 (.two 4 (.held 5 (.held 6 (.held 7 (.one 8 (.one 9 (.one 10 (.done))))))) 8 (.one 4 (.held 5 (.held 6 (.held 7 (.one 9 (.one 10 (.done)))))))))))) (by kernel_rfl) (by kernel_rfl) (fun d _ _ _ _ h => by cases d <;> exact h) (by kernel_rfl) ?_
          have hS : (fun w' => Six w' b8 ⟨ok, ox, od, oy, oka, on, okc, oca, om, occ⟩ ∧ w'.cell? ⟨q, 0, none⟩ = some (.string s0) ∧ w'.cell? ⟨q, 1, none⟩ = some (.string s1) ∧ w'.cell? ⟨q, 2, none⟩ = some (.string s2) ∧ w'.cell? ⟨q, 3, none⟩ = some (.string s3)) _ := ⟨hb81.Six, hq1.cell 0 _ rfl, hq1.cell 1 _ rfl, hq1.cell 2 _ rfl, hq1.cell 3 _ rfl⟩
          (apply tr_held rfl (by assumption) rfl; (focus ((intro w' hS'); go_simp; (try with_reducible rfl))); (try simp only [Act.put, List.setIfInBounds_toArray, List.set_cons_zero, List.set_cons_succ]))
          (apply tr_held rfl (by assumption) rfl; (focus ((intro w' hS'); go_simp; (try with_reducible rfl))); (try simp only [Act.put, List.setIfInBounds_toArray, List.set_cons_zero, List.set_cons_succ]))
          (apply tr_held rfl (by assumption) rfl; (focus ((intro w' hS'); go_simp; (try with_reducible rfl))); (try simp only [Act.put, List.setIfInBounds_toArray, List.set_cons_zero, List.set_cons_succ]))
          (apply tr_held rfl (by assumption) rfl; (focus ((intro w' hS'); go_simp; (try with_reducible rfl))); (try simp only [Act.put, List.setIfInBounds_toArray, List.set_cons_zero, List.set_cons_succ]))
          refine tr_two ?_ ?_
          · skip
            (apply tr_loud rfl rfl; intro K hK; go_simp)
            refine (at_map M ⟨ok, ox, od, oy, oka, on, okc, oca, om, occ⟩ s1 _ (TreeAt.ext ((ext_drew (ext_refl w1))) (hTo.out.to (S' := fun b => (fun b => (S b ∧ b < w.heap.size) ∨ (w.heap.size + 1 < b ∧ b ≠ b8)) b ∧ b < w1.heap.size) (fun b h1 h2 => ⟨h1, h2⟩)))).mono ?_
            rintro r wk ⟨eb, rfl, hTb, hxk⟩
            have hS1 : (fun w' => Six w' b8 ⟨ok, ox, od, oy, oka, on, okc, oca, om, occ⟩ ∧ w'.cell? ⟨q, 0, none⟩ = some (.string s0) ∧ w'.cell? ⟨q, 1, none⟩ = some (.string s1) ∧ w'.cell? ⟨q, 2, none⟩ = some (.string s2) ∧ w'.cell? ⟨q, 3, none⟩ = some (.string s3)) wk := ⟨Six.ext hxk hS.1, hxk.cell hS.2.1, hxk.cell hS.2.2.1, hxk.cell hS.2.2.2.1, hxk.cell hS.2.2.2.2⟩
            refine hK _ _ (fun _ => hS1) ?_
            clear hK K
            try simp only [El.val]
            (try simp only [Act.put, List.setIfInBounds_toArray, List.set_cons_zero, List.set_cons_succ])
            (apply tr_held rfl (by assumption) rfl; (focus ((intro w' hS'); go_simp; (try with_reducible rfl))); (try simp only [Act.put, List.setIfInBounds_toArray, List.set_cons_zero, List.set_cons_succ]))
            (apply tr_held rfl (by assumption) rfl; (focus ((intro w' hS'); go_simp; (try with_reducible rfl))); (try simp only [Act.put, List.setIfInBounds_toArray, List.set_cons_zero, List.set_cons_succ]))
            (apply tr_held rfl (by assumption) rfl; (focus ((intro w' hS'); go_simp; (try with_reducible rfl))); (try simp only [Act.put, List.setIfInBounds_toArray, List.set_cons_zero, List.set_cons_succ]))
            (apply tr_loud rfl rfl; intro K hK; go_simp)
            have hxal : Ext wk (wk.alloc (.cells #[.int .i64 0, .string ⟨#[]⟩, .float .f64 0, .bool false, .slice none 0 0, .slice none 0 0] 26)) := ext_alloc (ext_refl _) _
            have hbA : Box (wk.alloc (.cells #[.int .i64 0, .string ⟨#[]⟩, .float .f64 0, .bool false, .slice none 0 0, .slice none 0 0] 26)) wk.heap.size (El.arr El0) 26 := Box.at rfl _ _
            have hsA : w1.heap.size ≤ wk.heap.size := ((ext_trans ((ext_drew (ext_refl w1))) hxk) : Ext w1 wk).sz
            have hsB := hbA.lt
            have hS2 : (fun w' => Six w' b8 ⟨ok, ox, od, oy, oka, on, okc, oca, om, occ⟩ ∧ w'.cell? ⟨q, 0, none⟩ = some (.string s0) ∧ w'.cell? ⟨q, 1, none⟩ = some (.string s1) ∧ w'.cell? ⟨q, 2, none⟩ = some (.string s2) ∧ w'.cell? ⟨q, 3, none⟩ = some (.string s3)) (wk.alloc (.cells #[.int .i64 0, .string ⟨#[]⟩, .float .f64 0, .bool false, .slice none 0 0, .slice none 0 0] 26)) := ⟨Six.ext hxal hS1.1, hxal.cell hS1.2.1, hxal.cell hS1.2.2.1, hxal.cell hS1.2.2.2.1, hxal.cell hS1.2.2.2.2⟩
            refine hK _ _ (fun _ => hS2) ?_
            clear hK K
            try simp only [El.val]
            (try simp only [Act.put, List.setIfInBounds_toArray, List.set_cons_zero, List.set_cons_succ])
            obtain ⟨p0, p1, p2, p3, p4, p5⟩ := hbA.six
            have f0 := hbA.free 0
            have f1 := hbA.free 1
            have f2 := hbA.free 2
            have f3 := hbA.free 3
            have f4 := hbA.free 4
            have f5 := hbA.free 5
            have hxn : Ext wk (wk.alloc (.cells #[.int .i64 eb.k, .string eb.x, .float .f64 eb.d, .bool eb.y, .slice eb.ka eb.n eb.kc, .slice eb.ca eb.m eb.cc] 26)) := ext_alloc (ext_refl _) _
            (apply tr_loud rfl rfl; intro K hK; go_simp)
            have hS3 : (fun w' => Six w' b8 ⟨ok, ox, od, oy, oka, on, okc, oca, om, occ⟩ ∧ w'.cell? ⟨q, 0, none⟩ = some (.string s0) ∧ w'.cell? ⟨q, 1, none⟩ = some (.string s1) ∧ w'.cell? ⟨q, 2, none⟩ = some (.string s2) ∧ w'.cell? ⟨q, 3, none⟩ = some (.string s3)) (wk.alloc (.cells #[.int .i64 eb.k, .string eb.x, .float .f64 eb.d, .bool eb.y, .slice eb.ka eb.n eb.kc, .slice eb.ca eb.m eb.cc] 26)) := ⟨Six.ext hxn hS1.1, hxn.cell hS1.2.1, hxn.cell hS1.2.2.1, hxn.cell hS1.2.2.2.1, hxn.cell hS1.2.2.2.2⟩
            refine hK _ _ (fun _ => hS3) ?_
            clear hK K
            (try simp only [Act.put, List.setIfInBounds_toArray, List.set_cons_zero, List.set_cons_succ])
            (apply tr_loud rfl rfl; intro K hK; go_simp)
            refine hK _ _ (fun _ => hS3) ?_
            clear hK K
            (try simp only [Act.put, List.setIfInBounds_toArray, List.set_cons_zero, List.set_cons_succ])
            refine tr_end ?_
            have hxF : Ext w1 (wk.alloc (.cells #[.int .i64 eb.k, .string eb.x, .float .f64 eb.d, .bool eb.y, .slice eb.ka eb.n eb.kc, .slice eb.ca eb.m eb.cc] 26)) := ext_trans (ext_trans ((ext_drew (ext_refl w1))) hxk) hxn
            have hbF : w1.heap.size ≤ wk.heap.size := ((ext_trans ((ext_drew (ext_refl w1))) hxk) : Ext w1 wk).sz
            have hTF := (hTb.to (S' := fun b => (S b ∧ b < w.heap.size) ∨ (w.heap.size + 1 < b ∧ b ≠ b8)) (fun b h1 _ => h1.1)).ext hxn
            go_wp2_with fail
            go_meet
            case rel => exact ⟨wk.heap.size, eb, rfl, rfl, hxF, hbF, Box.at rfl _ _, hTF⟩
          · skip
            (apply tr_loud rfl rfl; intro K hK; go_simp)
            have hxal : Ext w1.drew (w1.drew.alloc (.cells #[.int .i64 0, .string ⟨#[]⟩, .float .f64 0, .bool false, .slice none 0 0, .slice none 0 0] 26)) := ext_alloc (ext_refl _) _
            have hbA : Box (w1.drew.alloc (.cells #[.int .i64 0, .string ⟨#[]⟩, .float .f64 0, .bool false, .slice none 0 0, .slice none 0 0] 26)) w1.heap.size (El.arr El0) 26 := Box.at rfl _ _
            have hsA : w1.heap.size ≤ w1.heap.size := (((ext_drew (ext_refl w1))) : Ext w1 w1.drew).sz
            have hsB := hbA.lt
            have hS1 : (fun w' => Six w' b8 ⟨ok, ox, od, oy, oka, on, okc, oca, om, occ⟩ ∧ w'.cell? ⟨q, 0, none⟩ = some (.string s0) ∧ w'.cell? ⟨q, 1, none⟩ = some (.string s1) ∧ w'.cell? ⟨q, 2, none⟩ = some (.string s2) ∧ w'.cell? ⟨q, 3, none⟩ = some (.string s3)) (w1.drew.alloc (.cells #[.int .i64 0, .string ⟨#[]⟩, .float .f64 0, .bool false, .slice none 0 0, .slice none 0 0] 26)) := ⟨Six.ext hxal hS.1, hxal.cell hS.2.1, hxal.cell hS.2.2.1, hxal.cell hS.2.2.2.1, hxal.cell hS.2.2.2.2⟩
            refine hK _ _ (fun _ => hS1) ?_
            clear hK K
            try simp only [El.val]
            (try simp only [Act.put, List.setIfInBounds_toArray, List.set_cons_zero, List.set_cons_succ])
            (apply tr_loud rfl rfl; intro K hK; go_simp)
            refine (at_map M ⟨ok, ox, od, oy, oka, on, okc, oca, om, occ⟩ s1 _ (TreeAt.ext (ext_trans ((ext_drew (ext_refl w1))) hxal) (hTo.out.to (S' := fun b => (fun b => (S b ∧ b < w.heap.size) ∨ (w.heap.size + 1 < b ∧ b ≠ b8)) b ∧ b < w1.heap.size) (fun b h1 h2 => ⟨h1, h2⟩)))).mono ?_
            rintro r wk ⟨eb, rfl, hTb, hxk⟩
            have hS2 : (fun w' => Six w' b8 ⟨ok, ox, od, oy, oka, on, okc, oca, om, occ⟩ ∧ w'.cell? ⟨q, 0, none⟩ = some (.string s0) ∧ w'.cell? ⟨q, 1, none⟩ = some (.string s1) ∧ w'.cell? ⟨q, 2, none⟩ = some (.string s2) ∧ w'.cell? ⟨q, 3, none⟩ = some (.string s3)) wk := ⟨Six.ext hxk hS1.1, hxk.cell hS1.2.1, hxk.cell hS1.2.2.1, hxk.cell hS1.2.2.2.1, hxk.cell hS1.2.2.2.2⟩
            refine hK _ _ (fun _ => hS2) ?_
            clear hK K
            try simp only [El.val]
            (try simp only [Act.put, List.setIfInBounds_toArray, List.set_cons_zero, List.set_cons_succ])
            (apply tr_held rfl (by assumption) rfl; (focus ((intro w' hS'); go_simp; (try with_reducible rfl))); (try simp only [Act.put, List.setIfInBounds_toArray, List.set_cons_zero, List.set_cons_succ]))
            (apply tr_held rfl (by assumption) rfl; (focus ((intro w' hS'); go_simp; (try with_reducible rfl))); (try simp only [Act.put, List.setIfInBounds_toArray, List.set_cons_zero, List.set_cons_succ]))
            (apply tr_held rfl (by assumption) rfl; (focus ((intro w' hS'); go_simp; (try with_reducible rfl))); (try simp only [Act.put, List.setIfInBounds_toArray, List.set_cons_zero, List.set_cons_succ]))
            have hxW : Ext w1 wk := (ext_trans (ext_trans ((ext_drew (ext_refl w1))) hxal) hxk)
            have hbAc := hbA.ext (hxk)
            obtain ⟨p0, p1, p2, p3, p4, p5⟩ := hbAc.six
            have f0 := hbAc.free 0
            have f1 := hbAc.free 1
            have f2 := hbAc.free 2
            have f3 := hbAc.free 3
            have f4 := hbAc.free 4
            have f5 := hbAc.free 5
            (apply tr_loud rfl rfl; intro K hK; go_simp)
            have hkS : Keeps (fun b => b < w1.heap.size) wk (sto wk w1.heap.size eb) := keeps_sto wk (by omega) eb
            have hS3 : (fun w' => Six w' b8 ⟨ok, ox, od, oy, oka, on, okc, oca, om, occ⟩ ∧ w'.cell? ⟨q, 0, none⟩ = some (.string s0) ∧ w'.cell? ⟨q, 1, none⟩ = some (.string s1) ∧ w'.cell? ⟨q, 2, none⟩ = some (.string s2) ∧ w'.cell? ⟨q, 3, none⟩ = some (.string s3)) (sto wk w1.heap.size eb) := ⟨Six.keep hkS (show b8 < _ by omega) hS2.1, hkS.cell (show q < _ by omega) hS2.2.1, hkS.cell (show q < _ by omega) hS2.2.2.1, hkS.cell (show q < _ by omega) hS2.2.2.2.1, hkS.cell (show q < _ by omega) hS2.2.2.2.2⟩
            refine hK _ _ (fun _ => hS3) ?_
            clear hK K
            (try simp only [Act.put, List.setIfInBounds_toArray, List.set_cons_zero, List.set_cons_succ])
            (apply tr_loud rfl rfl; intro K hK; go_simp)
            refine hK _ _ (fun _ => hS3) ?_
            clear hK K
            (try simp only [Act.put, List.setIfInBounds_toArray, List.set_cons_zero, List.set_cons_succ])
            refine tr_end ?_
            have hTF := TreeAt.keep (S := fun b => (fun b => (S b ∧ b < w.heap.size) ∨ (w.heap.size + 1 < b ∧ b ≠ b8)) b ∧ b < w1.heap.size) (S' := fun b => (S b ∧ b < w.heap.size) ∨ (w.heap.size + 1 < b ∧ b ≠ b8)) (fun b h _ => h.1) (keeps_sto (b := w1.heap.size) wk (fun h => by have := h.2; omega) eb) _ (hTb.ext (ext_refl _))
            have hxF := ext_sto6 (b := w1.heap.size) hxW (by omega) (.int .i64 eb.k) (.string eb.x) (.float .f64 eb.d) (.bool eb.y) (.slice eb.ka eb.n eb.kc) (.slice eb.ca eb.m eb.cc)
            have hbF := hbAc.sto eb
            go_wp2_with fail
            go_meet
            case rel => exact ⟨w1.heap.size, eb, rfl, rfl, hxF, by omega, hbF, hTF⟩
        case rest =>
          obtain ⟨bi, ei, rfl, rfl, hxd, hbil, hbi, hTi⟩ := hcut
          obtain ⟨w2x, rfl⟩ : ∃ x : World, x = wc := ⟨_, rfl⟩
          have hb82x := hb81.ext hxd
          have hq2 := hq1.ext hxd
          have hTo := Lib.hid (hTo.out.ext hxd)
          have hTb := Lib.hid (hTb.out.ext hxd)
          have hTi := Lib.hid hTi
          have hbb := hbb.ext hxd
          have hxcd := ext_trans hxc hxd
          have hb22 := hb2.ext hxcd
          have hA02 := hA0.ext hxcd
          have hA12 := hA1.ext hxcd
          have hB2 := hBB.ext hxcd
          have hxw2 := ext_trans hx hxcd
          have hw2x := hxd.sz
          have hbi1 := hbi.lt
          have hml := HML.out
          go_upto_region 13 with fail
          refine wp_region_order (fun w' => Six w' b8 ⟨ok, ox, od, oy, oka, on, okc, oca, om, occ⟩ ∧ w'.cell? ⟨q, 0, none⟩ = some (.string s0) ∧ w'.cell? ⟨q, 1, none⟩ = some (.string s1) ∧ w'.cell? ⟨q, 2, none⟩ = some (.string s2) ∧ w'.cell? ⟨q, 3, none⟩ = some (.string s3)) [0, 1, 2, 3, 5, 6, 7] [0, 1, 2, 3, 5, 6, 7, 4, 8, 9] (by kernel_rfl) (by kernel_rfl) (fun d _ _ _ _ h => by cases d <;> exact h) (by kernel_rfl) ?_
          have hS : (fun w' => Six w' b8 ⟨ok, ox, od, oy, oka, on, okc, oca, om, occ⟩ ∧ w'.cell? ⟨q, 0, none⟩ = some (.string s0) ∧ w'.cell? ⟨q, 1, none⟩ = some (.string s1) ∧ w'.cell? ⟨q, 2, none⟩ = some (.string s2) ∧ w'.cell? ⟨q, 3, none⟩ = some (.string s3)) _ := ⟨hb82x.Six, hq2.cell 0 _ rfl, hq2.cell 1 _ rfl, hq2.cell 2 _ rfl, hq2.cell 3 _ rfl⟩
          (apply ord_held rfl rfl (by assumption) rfl; (focus ((intro w' hS'); go_simp; (try with_reducible rfl))); (try simp only [Act.put, List.setIfInBounds_toArray, List.set_cons_zero, List.set_cons_succ]))
          (apply ord_held rfl rfl (by assumption) rfl; (focus ((intro w' hS'); go_simp; (try with_reducible rfl))); (try simp only [Act.put, List.setIfInBounds_toArray, List.set_cons_zero, List.set_cons_succ]))
          (apply ord_held rfl rfl (by assumption) rfl; (focus ((intro w' hS'); go_simp; (try with_reducible rfl))); (try simp only [Act.put, List.setIfInBounds_toArray, List.set_cons_zero, List.set_cons_succ]))
          (apply ord_held rfl rfl (by assumption) rfl; (focus ((intro w' hS'); go_simp; (try with_reducible rfl))); (try simp only [Act.put, List.setIfInBounds_toArray, List.set_cons_zero, List.set_cons_succ]))
          (apply ord_held rfl rfl (by assumption) rfl; (focus ((intro w' hS'); go_simp; (try with_reducible rfl))); (try simp only [Act.put, List.setIfInBounds_toArray, List.set_cons_zero, List.set_cons_succ]))
          (apply ord_held rfl rfl (by assumption) rfl; (focus ((intro w' hS'); go_simp; (try with_reducible rfl))); (try simp only [Act.put, List.setIfInBounds_toArray, List.set_cons_zero, List.set_cons_succ]))
          (apply ord_held rfl rfl (by assumption) rfl; (focus ((intro w' hS'); go_simp; (try with_reducible rfl))); (try simp only [Act.put, List.setIfInBounds_toArray, List.set_cons_zero, List.set_cons_succ]))
          (apply ord_loud rfl rfl rfl; intro K hK; go_simp)
          refine (without_any ⟨ok, ox, od, oy, oka, on, okc, oca, om, occ⟩ M s0 _ (hTo.out.ext ((ext_drew (ext_refl w2x)))) (by omega)).mono ?_
          rintro r wy ⟨ey1, rfl, hT1, hxy⟩
          have hS1 : (fun w' => Six w' b8 ⟨ok, ox, od, oy, oka, on, okc, oca, om, occ⟩ ∧ w'.cell? ⟨q, 0, none⟩ = some (.string s0) ∧ w'.cell? ⟨q, 1, none⟩ = some (.string s1) ∧ w'.cell? ⟨q, 2, none⟩ = some (.string s2) ∧ w'.cell? ⟨q, 3, none⟩ = some (.string s3)) wy := ⟨Six.ext hxy hS.1, hxy.cell hS.2.1, hxy.cell hS.2.2.1, hxy.cell hS.2.2.2.1, hxy.cell hS.2.2.2.2⟩
          refine hK _ _ (fun _ => hS1) ?_
          clear hK K
          try simp only [El.val]
          (try simp only [Act.put, List.setIfInBounds_toArray, List.set_cons_zero, List.set_cons_succ])
          (apply ord_loud rfl rfl rfl; intro K hK; go_simp)
          have hf1 := List.length_filter_le (fun p : ByteArray × T => !seq p.1 s0) M
          refine (without_any ey1 _ s1 _ hT1 (by omega)).mono ?_
          rintro r wz ⟨ez, rfl, hTz, hxz⟩
          have hS2 : (fun w' => Six w' b8 ⟨ok, ox, od, oy, oka, on, okc, oca, om, occ⟩ ∧ w'.cell? ⟨q, 0, none⟩ = some (.string s0) ∧ w'.cell? ⟨q, 1, none⟩ = some (.string s1) ∧ w'.cell? ⟨q, 2, none⟩ = some (.string s2) ∧ w'.cell? ⟨q, 3, none⟩ = some (.string s3)) wz := ⟨Six.ext hxz hS1.1, hxz.cell hS1.2.1, hxz.cell hS1.2.2.1, hxz.cell hS1.2.2.2.1, hxz.cell hS1.2.2.2.2⟩
          refine hK _ _ (fun _ => hS2) ?_
          clear hK K
          try simp only [El.val]
          (try simp only [Act.put, List.setIfInBounds_toArray, List.set_cons_zero, List.set_cons_succ])
          have hbz := hb82x.ext (ext_trans (ext_trans ((ext_drew (ext_refl w2x))) hxy) hxz)
          obtain ⟨y0, y1, y2, y3, y4, y5⟩ := hbz.six
          have f0 := hbz.free 0
          have f1 := hbz.free 1
          have f2 := hbz.free 2
          have f3 := hbz.free 3
          have f4 := hbz.free 4
          have f5 := hbz.free 5
          (apply ord_last rfl rfl rfl (by kernel_rfl); intro K hK; go_simp; refine hK _ _ ?_; clear hK K; (try simp only [Act.put, List.setIfInBounds_toArray, List.set_cons_zero, List.set_cons_succ]))
          refine ord_end ?_
          have hx3 : Ext w2x wz := (ext_trans (ext_trans ((ext_drew (ext_refl w2x))) hxy) hxz)
          have hw3 := hx3.sz
          have hwy : w2x.heap.size ≤ wy.heap.size := hxy.sz
          have hb83 := hb82x.ext hx3
          have hN : ¬ ((fun b => (S b ∧ b < w.heap.size) ∨ (w.heap.size + 1 < b ∧ b ≠ b8)) b8) := by simp; omega
          have hb84 := hb83.sto ez
          have hT4 := Lib.hid (TreeAt.keep (S' := fun b => (S b ∧ b < w.heap.size) ∨ (w.heap.size + 1 < b ∧ b ≠ b8)) (fun _ h _ => h) (keeps_sto wz hN ez) _ (hTz.to (fun b h1 _ => by
            rcases h1 with h1 | h1
            · rcases h1 with h1 | h1
              · exact h1
              · exact .inr ⟨by (try simp at h1); omega, by (try simp at h1); omega⟩
            · exact .inr ⟨by (try simp at h1); omega, by (try simp at h1); omega⟩)))
          have hTbs := Lib.hid (TreeAt.keep (S' := fun b => (S b ∧ b < w.heap.size) ∨ (w.heap.size + 1 < b ∧ b ≠ b8)) (fun _ h _ => h) (keeps_sto wz hN ez) _ (hTb.out.ext hx3))
          have hTis := Lib.hid (TreeAt.keep (S' := fun b => (S b ∧ b < w.heap.size) ∨ (w.heap.size + 1 < b ∧ b ≠ b8)) (fun _ h _ => h) (keeps_sto wz hN ez) _ (hTi.out.ext hx3))
          have hbb4 := (hbb.ext hx3).sto6' (b' := b8) (by omega) (.int .i64 ez.k) (.string ez.x) (.float .f64 ez.d) (.bool ez.y) (.slice ez.ka ez.n ez.kc) (.slice ez.ca ez.m ez.cc)
          have hbi4 := (hbi.ext hx3).sto6' (b' := b8) (by omega) (.int .i64 ez.k) (.string ez.x) (.float .f64 ez.d) (.bool ez.y) (.slice ez.ka ez.n ez.kc) (.slice ez.ca ez.m ez.cc)
          have hq4 := (hq2.ext hx3).sto6' (b' := b8) (by omega) (.int .i64 ez.k) (.string ez.x) (.float .f64 ez.d) (.bool ez.y) (.slice ez.ka ez.n ez.kc) (.slice ez.ca ez.m ez.cc)
          have hb24 := (hb22.ext hx3).sto6' (b' := b8) (by omega) (.int .i64 ez.k) (.string ez.x) (.float .f64 ez.d) (.bool ez.y) (.slice ez.ka ez.n ez.kc) (.slice ez.ca ez.m ez.cc)
          have hA04 := (hA02.ext hx3).sto6' (b' := b8) (by omega) (.int .i64 ez.k) (.string ez.x) (.float .f64 ez.d) (.bool ez.y) (.slice ez.ka ez.n ez.kc) (.slice ez.ca ez.m ez.cc)
          have hA14 := (hA12.ext hx3).sto6' (b' := b8) (by omega) (.int .i64 ez.k) (.string ez.x) (.float .f64 ez.d) (.bool ez.y) (.slice ez.ka ez.n ez.kc) (.slice ez.ca ez.m ez.cc)
          have hB4 := (hB2.ext hx3).sto6' (b' := b8) (by omega) (.int .i64 ez.k) (.string ez.x) (.float .f64 ez.d) (.bool ez.y) (.slice ez.ka ez.n ez.kc) (.slice ez.ca ez.m ez.cc)
          have hxw4 := ext_sto6 (ext_trans hxw2 hx3) (b := b8) (by omega) (.int .i64 ez.k) (.string ez.x) (.float .f64 ez.d) (.bool ez.y) (.slice ez.ka ez.n ez.kc) (.slice ez.ca ez.m ez.cc)
          generalize hWF : ((((((wz.setCell ⟨b8, 0, none⟩ (.int .i64 ez.k)).setCell ⟨b8, 1, none⟩ (.string ez.x)).setCell ⟨b8, 2, none⟩ (.float .f64 ez.d)).setCell ⟨b8, 3, none⟩ (.bool ez.y)).setCell ⟨b8, 4, none⟩ (.slice ez.ka ez.n ez.kc)).setCell ⟨b8, 5, none⟩ (.slice ez.ca ez.m ez.cc)) = w4
          have e9 : sto wz b8 ez = w4 := hWF
          have e8 : sto6 wz b8 (.int .i64 ez.k) (.string ez.x) (.float .f64 ez.d) (.bool ez.y) (.slice ez.ka ez.n ez.kc) (.slice ez.ca ez.m ez.cc) = w4 := hWF
          rw [e9] at hb84 hT4 hTbs hTis
          rw [e8] at hbb4 hbi4 hq4 hb24 hA04 hA14 hB4 hxw4
          have hw4l : w2x.heap.size ≤ w4.heap.size := Nat.le_trans hw3 (by rw [← e8]; exact (grown_sto6 _ _ _ _ _ _ _ _).size)
          clear hWF e9 e8 hTz hT1 hx3 hb83 hb82x hb81 hb8 hbb hbi hTo hTb hTi hq hq1 hq2 hb2 hb22 hA0 hA02 hA1 hA12 hBB hB2 hbn hbn2 hxw2 hxcd hxc hxd y0 y1 y2 y3 y4 y5 f0 f1 f2 f3 f4 f5 hbz
          have hQL : ((M.filter fun p => !seq p.1 s0).filter fun p => !seq p.1 s1).length ≤ 3002 := Nat.le_trans (List.length_filter_le _ _) (Nat.le_trans (List.length_filter_le _ _) hml)
          generalize hqs : ((M.filter fun p => !seq p.1 s0).filter fun p => !seq p.1 s1) = QS at hT4 hQL
          obtain ⟨n0, n1, n2, n3, n4, n5⟩ := hbb4.six
          obtain ⟨i0, i1, i2, i3, i4, i5⟩ := hbi4.six
          have hq4l := hq4.lt
          cases ho : lastOf M s0 with
          | none =>
            have hs14 : (none : Option T).isSome = false := rfl
            go_wp2_with fail
            go_roundw
            case rel => exact ⟨hxw4, hb24, hA04, hA14, hB4, j + 1, ez, by omega, by go_num, hb84, by
              rw [HST.out, rstep, ho, hqs]
              simpa using hT4.out⟩
            case measure => simp [intOf]; omega
          | some bt =>
            rw [ho] at hTbs
            have hTbs := Lib.hid (show TreeAt (fun b => (S b ∧ b < w.heap.size) ∨ (w.heap.size + 1 < b ∧ b ≠ b8)) w4 eb bt from hTbs.out)
            have HEB := Lib.hid (show eb.k = bt.kind from hTbs.out.parts.1)
            by_cases hnull : bt.kind = 0
            · have hk0 : (eb.k == 0) = true := by rw [HEB.out, hnull]; rfl
              have HNU := Lib.hid hnull
              clear hnull
              go_wp2_with fail
              go_roundw
              case rel => exact ⟨hxw4, hb24, hA04, hA14, hB4, j + 1, ez, by omega, by go_num, hb84, by
                rw [HST.out, rstep, ho, hqs]
                simp only [HNU.out, if_pos, List.append_nil]
                exact hT4.out⟩
              case measure => simp [intOf]; omega
            · have hk0 : (eb.k == 0) = false := by rw [HEB.out]; simpa using hnull
              cases hi : lastOf M s1 with
              | none =>
                have HC := Lib.hid (show ((lastOf M s1).isSome && !((lastOf M s1).getD nullT).yes) = false by rw [hi]; rfl)
                go_upto_region 17 with fail
                have hb8l4 := hb84.lt
                have hS : Six w4.drew b8 ez ∧ Six w4.drew bb eb ∧ w4.drew.cell? ⟨q, 2, none⟩ = some (.string s2) := ⟨hb84.Six, hbb4.Six, hq4.cell 2 _ rfl⟩
                refine wp_region_order (fun w' => Six w' b8 ez ∧ Six w' bb eb ∧ w'.cell? ⟨q, 2, none⟩ = some (.string s2)) [0, 1, 2, 3, 4] [0, 1, 2, 3, 4, 5, 6] (by kernel_rfl) (by kernel_rfl) (fun d _ _ _ _ h => by cases d <;> exact h) (by kernel_rfl) ?_
                iterate 5 (apply ord_held rfl rfl (by assumption) rfl; (focus ((intro w' hS'); go_simp; (try with_reducible rfl))); (try simp only [Act.put, List.setIfInBounds_toArray, List.set_cons_zero, List.set_cons_succ]))
                (apply ord_loud rfl rfl rfl; intro K hK; go_simp)
                have hlen2 := mapT_len QS
                refine (with_any (S := fun b => (S b ∧ b < w.heap.size) ∨ (w.heap.size + 1 < b ∧ b ≠ b8)) ez (mapT QS) s2 eb bt _ (hT4.out.ext (ext_drew (ext_refl _))) (hTbs.out.ext (ext_drew (ext_refl _))) (by omega) (by omega) (by omega)).mono ?_
                rintro r w8 ⟨e5, rfl, hT5, hx5⟩
                have hx6 : Ext w4 w8 := ext_trans (ext_drew (ext_refl _)) hx5
                refine hK _ _ (fun _ => ⟨Six.ext hx5 hS.1, Six.ext hx5 hS.2.1, hx5.cell hS.2.2⟩) ?_
                clear hK K hS
                simp only [El.val]
                (try simp only [Act.put, List.setIfInBounds_toArray, List.set_cons_zero, List.set_cons_succ])
                have hb85 := hb84.ext hx6
                obtain ⟨y0, y1, y2, y3, y4, y5⟩ := hb85.six
                have f0 := hb85.free 0
                have f1 := hb85.free 1
                have f2 := hb85.free 2
                have f3 := hb85.free 3
                have f4 := hb85.free 4
                have f5 := hb85.free 5
                (apply ord_last rfl rfl rfl (by kernel_rfl); intro K hK; go_simp; refine hK _ _ ?_; clear hK K; (try simp only [Act.put, List.setIfInBounds_toArray, List.set_cons_zero, List.set_cons_succ]))
                refine ord_end ?_
                have hN : ¬ ((fun b => (S b ∧ b < w.heap.size) ∨ (w.heap.size + 1 < b ∧ b ≠ b8)) b8) := by simp; omega
                have hT6 := Lib.hid (TreeAt.keep (S' := fun b => (S b ∧ b < w.heap.size) ∨ (w.heap.size + 1 < b ∧ b ≠ b8)) (fun _ h _ => h) (keeps_sto w8 hN e5) _ (hT5.to (fun q h _ => by
                  rcases h with h | h
                  · exact h
                  · exact .inr ⟨by simp at h; omega, by simp at h; omega⟩)))
                clear hT5
                go_wp2_with fail
                go_roundw
                case rel => exact ⟨ext_sto6 (ext_trans hxw4 hx6) (by omega) _ _ _ _ _ _, (hb24.ext hx6).sto6' (by omega) _ _ _ _ _ _, (hA04.ext hx6).sto6' (by omega) _ _ _ _ _ _, (hA14.ext hx6).sto6' (by omega) _ _ _ _ _ _, (hB4.ext hx6).sto6' (by omega) _ _ _ _ _ _, j + 1, e5, by omega, by go_num, hb85.sto e5, by
                  rw [HST.out, rstep, ho, hqs]
                  simp only [if_neg hnull, HC.out]
                  rw [mapT_snoc]
                  exact hT6.out⟩
                case measure => simp [intOf]; omega
              | some it =>
                rw [hi] at hTis
                have HEI := Lib.hid (show ei.y = it.yes from hTis.out.parts.2.2.2.1)
                cases hyy : ei.y with
                | true =>
                  have HC := Lib.hid (show ((lastOf M s1).isSome && !((lastOf M s1).getD nullT).yes) = false by rw [hi]; show (true && !it.yes) = false; rw [← HEI.out, hyy]; rfl)
                  rw [hyy] at i3
                  go_upto_region 17 with fail
                  have hb8l4 := hb84.lt
                  have hS : Six w4.drew b8 ez ∧ Six w4.drew bb eb ∧ w4.drew.cell? ⟨q, 2, none⟩ = some (.string s2) := ⟨hb84.Six, hbb4.Six, hq4.cell 2 _ rfl⟩
                  refine wp_region_order (fun w' => Six w' b8 ez ∧ Six w' bb eb ∧ w'.cell? ⟨q, 2, none⟩ = some (.string s2)) [0, 1, 2, 3, 4] [0, 1, 2, 3, 4, 5, 6] (by kernel_rfl) (by kernel_rfl) (fun d _ _ _ _ h => by cases d <;> exact h) (by kernel_rfl) ?_
                  iterate 5 (apply ord_held rfl rfl (by assumption) rfl; (focus ((intro w' hS'); go_simp; (try with_reducible rfl))); (try simp only [Act.put, List.setIfInBounds_toArray, List.set_cons_zero, List.set_cons_succ]))
                  (apply ord_loud rfl rfl rfl; intro K hK; go_simp)
                  have hlen2 := mapT_len QS
                  refine (with_any (S := fun b => (S b ∧ b < w.heap.size) ∨ (w.heap.size + 1 < b ∧ b ≠ b8)) ez (mapT QS) s2 eb bt _ (hT4.out.ext (ext_drew (ext_refl _))) (hTbs.out.ext (ext_drew (ext_refl _))) (by omega) (by omega) (by omega)).mono ?_
                  rintro r w8 ⟨e5, rfl, hT5, hx5⟩
                  have hx6 : Ext w4 w8 := ext_trans (ext_drew (ext_refl _)) hx5
                  refine hK _ _ (fun _ => ⟨Six.ext hx5 hS.1, Six.ext hx5 hS.2.1, hx5.cell hS.2.2⟩) ?_
                  clear hK K hS
                  simp only [El.val]
                  (try simp only [Act.put, List.setIfInBounds_toArray, List.set_cons_zero, List.set_cons_succ])
                  have hb85 := hb84.ext hx6
                  obtain ⟨y0, y1, y2, y3, y4, y5⟩ := hb85.six
                  have f0 := hb85.free 0
                  have f1 := hb85.free 1
                  have f2 := hb85.free 2
                  have f3 := hb85.free 3
                  have f4 := hb85.free 4
                  have f5 := hb85.free 5
                  (apply ord_last rfl rfl rfl (by kernel_rfl); intro K hK; go_simp; refine hK _ _ ?_; clear hK K; (try simp only [Act.put, List.setIfInBounds_toArray, List.set_cons_zero, List.set_cons_succ]))
                  refine ord_end ?_
                  have hN : ¬ ((fun b => (S b ∧ b < w.heap.size) ∨ (w.heap.size + 1 < b ∧ b ≠ b8)) b8) := by simp; omega
                  have hT6 := Lib.hid (TreeAt.keep (S' := fun b => (S b ∧ b < w.heap.size) ∨ (w.heap.size + 1 < b ∧ b ≠ b8)) (fun _ h _ => h) (keeps_sto w8 hN e5) _ (hT5.to (fun q h _ => by
                    rcases h with h | h
                    · exact h
                    · exact .inr ⟨by simp at h; omega, by simp at h; omega⟩)))
                  clear hT5
                  go_wp2_with fail
                  go_roundw
                  case rel => exact ⟨ext_sto6 (ext_trans hxw4 hx6) (by omega) _ _ _ _ _ _, (hb24.ext hx6).sto6' (by omega) _ _ _ _ _ _, (hA04.ext hx6).sto6' (by omega) _ _ _ _ _ _, (hA14.ext hx6).sto6' (by omega) _ _ _ _ _ _, (hB4.ext hx6).sto6' (by omega) _ _ _ _ _ _, j + 1, e5, by omega, by go_num, hb85.sto e5, by
                    rw [HST.out, rstep, ho, hqs]
                    simp only [if_neg hnull, HC.out]
                    rw [mapT_snoc]
                    exact hT6.out⟩
                  case measure => simp [intOf]; omega
                | false =>
                  have HC := Lib.hid (show ((lastOf M s1).isSome && !((lastOf M s1).getD nullT).yes) = true by rw [hi]; show (true && !it.yes) = true; rw [← HEI.out, hyy]; rfl)
                  rw [hyy] at i3
                  go_upto_region 16 with fail
                  have hb8l4 := hb84.lt
                  have hS : Six w4.drew b8 ez ∧ Six w4.drew bb eb ∧ w4.drew.cell? ⟨q, 3, none⟩ = some (.string s3) := ⟨hb84.Six, hbb4.Six, hq4.cell 3 _ rfl⟩
                  refine wp_region_order (fun w' => Six w' b8 ez ∧ Six w' bb eb ∧ w'.cell? ⟨q, 3, none⟩ = some (.string s3)) [0, 1, 2, 3, 4] [0, 1, 2, 3, 4, 5, 6] (by kernel_rfl) (by kernel_rfl) (fun d _ _ _ _ h => by cases d <;> exact h) (by kernel_rfl) ?_
                  iterate 5 (apply ord_held rfl rfl (by assumption) rfl; (focus ((intro w' hS'); go_simp; (try with_reducible rfl))); (try simp only [Act.put, List.setIfInBounds_toArray, List.set_cons_zero, List.set_cons_succ]))
                  (apply ord_loud rfl rfl rfl; intro K hK; go_simp)
                  have hlen2 := mapT_len QS
                  refine (with_any (S := fun b => (S b ∧ b < w.heap.size) ∨ (w.heap.size + 1 < b ∧ b ≠ b8)) ez (mapT QS) s3 eb bt _ (hT4.out.ext (ext_drew (ext_refl _))) (hTbs.out.ext (ext_drew (ext_refl _))) (by omega) (by omega) (by omega)).mono ?_
                  rintro r w8 ⟨e5, rfl, hT5, hx5⟩
                  have hx6 : Ext w4 w8 := ext_trans (ext_drew (ext_refl _)) hx5
                  refine hK _ _ (fun _ => ⟨Six.ext hx5 hS.1, Six.ext hx5 hS.2.1, hx5.cell hS.2.2⟩) ?_
                  clear hK K hS
                  simp only [El.val]
                  (try simp only [Act.put, List.setIfInBounds_toArray, List.set_cons_zero, List.set_cons_succ])
                  have hb85 := hb84.ext hx6
                  obtain ⟨y0, y1, y2, y3, y4, y5⟩ := hb85.six
                  have f0 := hb85.free 0
                  have f1 := hb85.free 1
                  have f2 := hb85.free 2
                  have f3 := hb85.free 3
                  have f4 := hb85.free 4
                  have f5 := hb85.free 5
                  (apply ord_last rfl rfl rfl (by kernel_rfl); intro K hK; go_simp; refine hK _ _ ?_; clear hK K; (try simp only [Act.put, List.setIfInBounds_toArray, List.set_cons_zero, List.set_cons_succ]))
                  refine ord_end ?_
                  have hN : ¬ ((fun b => (S b ∧ b < w.heap.size) ∨ (w.heap.size + 1 < b ∧ b ≠ b8)) b8) := by simp; omega
                  have hT6 := Lib.hid (TreeAt.keep (S' := fun b => (S b ∧ b < w.heap.size) ∨ (w.heap.size + 1 < b ∧ b ≠ b8)) (fun _ h _ => h) (keeps_sto w8 hN e5) _ (hT5.to (fun q h _ => by
                    rcases h with h | h
                    · exact h
                    · exact .inr ⟨by simp at h; omega, by simp at h; omega⟩)))
                  clear hT5
                  go_wp2_with fail
                  go_roundw
                  case rel => exact ⟨ext_sto6 (ext_trans hxw4 hx6) (by omega) _ _ _ _ _ _, (hb24.ext hx6).sto6' (by omega) _ _ _ _ _ _, (hA04.ext hx6).sto6' (by omega) _ _ _ _ _ _, (hA14.ext hx6).sto6' (by omega) _ _ _ _ _ _, (hB4.ext hx6).sto6' (by omega) _ _ _ _ _ _, j + 1, e5, by omega, by go_num, hb85.sto e5, by
                    rw [HST.out, rstep, ho, hqs]
                    simp only [if_neg hnull, HC.out]
                    rw [mapT_snoc]
                    exact hT6.out⟩
                  case measure => simp [intOf]; omega
    · have hj2 : j = 2 := by omega
      subst hj2
      have hxsz := hx.sz
      have hb2l := hb2.lt
      obtain ⟨l, hm, hR, hlo⟩ := mapT_told (rsteps 2 L)
      have hll : l.length ≤ 65536 := by have h1 := (mapT_len (rsteps 2 L)).1; have h2 := rsteps_len 2 L; have h3 := HLL.out; rw [hm] at h1; unfold mapOf at h1; simp [T.keys] at h1; omega
      have hme : mapT l = mapT (rsteps 2 L) := by rw [hm]; exact mapT_of hR fun _ => rfl
      rw [hm] at hTo
      have HME := Lib.hid hme
      have HLX := Lib.hid hll
      clear hm hme hlo hR
      have hPO := pairsOf_any ⟨ok, ox, od, oy, oka, on, okc, oca, om, occ⟩ l wr hTo hll
      clear hll
      obtain ⟨z0, z1, z2, z3, z4, z5⟩ := hb8.six
      simp only [El.val] at hPO
      go_wp2_with (first
        | (go_at_call 101; refine hPO.mono ?_; rintro r w8 ⟨v, es, rfl, hO, hPk, hx9⟩
           obtain ⟨pa, pc, rfl, hPA⟩ := hO.pairs (S := fun b => (S b ∧ b < w.heap.size) ∨ w.heap.size + 1 < b) hPk.1 (fun b hb => .inr (by have := (World.ownsRow.lt hO b hb).1; omega)) (hPk.keep (S' := fun b => (S b ∧ b < w.heap.size) ∨ w.heap.size + 1 < b) (fun b h1 _ => by
             rcases h1.1 with h | h
             · exact .inl h
             · exact .inr h.1) (fun _ _ _ => rfl)).2
           have hIF := infield_any s_range field _ _ _ _ w8 hPA (by have := HLX.out; omega)
           clear hO hPk hPA)
        | (go_at_call 64; refine hIF.mono ?_; rintro r w9 ⟨g3, rfl, hT3, hx10⟩; simp only [El.val]
           have hbr := (hb2.ext hx9).ext hx10; obtain ⟨o0, o1, o2, o3, o4, o5⟩ := hbr.six; have f0 := hbr.free 0; have f1 := hbr.free 1; have f2 := hbr.free 2; have f3 := hbr.free 3; have f4 := hbr.free 4; have f5 := hbr.free 5)
        | fail)
      have hx11 := ext_trans hx (ext_trans hx9 hx10)
      have hs8 := hx9.sz
      refine post_tree rfl rfl (hbr.sto g3) rfl ⟨g3, rfl, ?_, ext_sto6 hx11 (by omega) _ _ _ _ _ _⟩
      rw [← HME.out]
      refine TreeAt.keep (S := fun b => (S b ∧ b < w.heap.size) ∨ w.heap.size + 1 < b) (fun _ _ _ => trivial) (keeps_sto w9 (by omega) g3) _ (hT3.to fun q h1 _ => ?_)
      rcases h1 with h | h
      · exact h.1
      · exact .inr (by omega)

end Go.Proofs.YtocfoheckgdonaaGreatDoor
