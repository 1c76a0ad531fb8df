/-
  The tree under a key of a map; a query read as it stands beside its settings.
-/
import Derived.Test.YtfngaoicoecncaaGreatDoorF2
namespace Go.Proofs.YtfngaoicoecncaaGreatDoor
open Go.RowKit

theorem rising_lookup {α : Type} {l : List (ByteArray × α)} (h : Rising l) {i : Nat} {p : ByteArray × α} (hp : l[i]? = some p) : lastOf l p.1 = some p.2 := (rising_mem h).1 (List.mem_of_getElem? hp)
theorem mapOf_keys (l : List (ByteArray × T)) (i : Nat) (p : ByteArray × T) (h : l[i]? = some p) : (mapOf l).keys[i]? = some p.1 ∧ (mapOf l).kids[i]? = some p.2 := by
  unfold mapOf
  simp [T.keys, T.kids, h]

set_option maxHeartbeats 1000000 in
theorem at_map {S : Nat → Prop} (ps : List (ByteArray × T)) (e : El) (key : ByteArray) (w : World) (h : TreeAt S w e (mapT ps)) :
    Calls Tryz.prog 41 #[e.val, .string key] w fun r w' => ∃ g : El, r = .returned (.tuple #[g.val, .bool (lastOf ps key).isSome]) ∧ TreeAt S w' g ((lastOf ps key).getD nullT) ∧ Ext w w' := by
  obtain ⟨l, hm, hR, hlo⟩ := mapT_told ps
  rw [hm] at h
  rw [← hlo]
  clear hm hlo
  obtain ⟨h1, h2, h3, h4, h5, h6⟩ := h.parts
  obtain ⟨k, x, d, y, ka, n, kc, ca, m, cc⟩ := e
  simp only at h1 h2 h3 h4 h5 h6
  have hk : k = 5 := h1
  subst hk
  have hn : l.length = n := by have := h5.1; unfold mapOf at this; simpa [T.keys] using this
  have hmm : l.length = m := by have := h6.1; unfold mapOf at this; simpa [T.kids] using this
  obtain rfl : n = m := hn.symm.trans hmm
  have hkc := h5.2.1
  have hkm := h5.2.2.1
  have hcc := h6.2.1
  have hcm := h6.2.2.1
  unfold maxLen at hkm hcm
  have HN := Lib.hid hn
  have H5 := Lib.hid h5
  have H6 := Lib.hid h6
  have HRI := Lib.hid hR
  clear h h1 h2 h3 h4 h5 h6 hn hmm hR
  simp only [El.val]
  have hx0 : Ext w ((w.alloc (.cells #[.int .i64 5, .string x, .float .f64 d, .bool y, .slice ka n kc, .slice ca n cc] 26)).alloc (.cells (El.arr El0) 26)) := ext_alloc (ext_alloc (ext_refl _) _) _
  go_enter Tryz.func41, Tryz.ntmps41
  go_wp2_with fail
  go_loopw [6] (fun i wr => wr = ((w.alloc (.cells #[.int .i64 5, .string x, .float .f64 d, .bool y, .slice ka n kc, .slice ca n cc] 26)).alloc (.cells (El.arr El0) 26)) ∧ ∃ j : Nat, j ≤ n ∧ i = .int .i64 j ∧ ∀ (q : Nat) (p : ByteArray × T), q < j → l[q]? = some p → p.1 ≠ key) (fun i _ => n - (intOf i).toNat)
  case atStart => exact ⟨rfl, 0, Nat.zero_le _, rfl, fun q p h => by omega⟩
  case round =>
    obtain ⟨rfl, j, hj, rfl, hq⟩ := hrel
    have HQ := Lib.hid hq
    clear hq
    by_cases hlt : j < n
    · obtain ⟨p, hp⟩ := some_of_lt HN.out hlt
      obtain ⟨hp1, hp2⟩ := mapOf_keys l j p hp
      obtain ⟨b, off, rfl, hSb, hc⟩ := H5.out.2.2.2 j p.1 hp1
      obtain ⟨b2, off2, g, rfl, hSb2, hc6, hT⟩ := H6.out.get hp2
      have hc := hx0.cell hc
      have hc6 := CellsAt.ext hx0 hc6
      have HP := Lib.hid hp
      clear hp hp1 hp2
      cases he : p.1.toList == key.toList
      · go_wp2_with fail
        go_roundw
        case rel =>
          refine ⟨trivial, j + 1, by omega, by go_num, fun q u h1 h2 => ?_⟩
          by_cases hqj : q < j
          · exact HQ.out q u hqj h2
          · have hqe : q = j := by omega
            subst hqe
            rw [HP.out] at h2
            cases h2
            exact seq_false.1 he
        case measure => simp [intOf]; omega
      · go_wp2_with fail
        have hlast : lastOf l key = some p.2 := by rw [← seq_iff.1 he]; exact rising_lookup HRI.out HP.out
        refine post_tree2 rfl rfl (Box.at (by simp) _ _) rfl ⟨g, ?_, ?_, ext_alloc (ext_alloc (ext_refl _) _) _⟩
        · rw [hlast]; rfl
        · rw [hlast]
          exact hT.ext (ext_alloc (ext_alloc (ext_refl _) _) _)
    · have hjn : j = n := by omega
      subst hjn
      go_wp2_with fail
      have hlast : lastOf l key = none := lastOf_none fun q u h2 => HQ.out q u (by have := (List.getElem?_eq_some_iff.1 h2).1; have := HN.out; omega) h2
      refine post_tree2 rfl rfl (Box.at (by simp) _ _) rfl ⟨El0, ?_, ?_, ext_alloc (ext_alloc (ext_refl _) _) _⟩
      · rw [hlast]; rfl
      · rw [hlast]
        exact TreeAt.of rfl rfl rfl rfl (strs_none _) (kids_none _)

theorem mapT_one (k : ByteArray) (t : T) : mapT [(k, t)] = mapOf [(k, t)] := mapT_of (by simp [Rising]) fun _ => rfl
theorem mapT_kind (ps : List (ByteArray × T)) : (mapT ps).kind = 5 := by
  obtain ⟨l, h, _⟩ := mapT_told ps
  rw [h]; rfl
set_option maxHeartbeats 1000000 in
theorem within_one {S : Nat → Prop} (kind : ByteArray) (qs : List (ByteArray × T)) (e : El) (w : World) (h : TreeAt S w e (mapT [(kind, mapT qs)])) :
    Calls Tryz.prog 40 #[.string kind, e.val] w fun r w' => ∃ g : El, r = .returned (.tuple #[g.val, .bool true]) ∧ TreeAt (fun b => S b ∧ b < w.heap.size) w' g (mapT qs) ∧ Ext w w' := by
  have h := h.to (S' := fun b => S b ∧ b < w.heap.size) (fun b h1 h2 => ⟨h1, h2⟩)
  have hat := fun w' (x : Ext w w') => at_map [(kind, mapT qs)] e kind w' (h.ext x)
  have hlo : lastOf [(kind, mapT qs)] kind = some (mapT qs) := by simp [lastOf, seq_self]
  rw [hlo] at hat
  rw [mapT_one] at h
  have hn : e.n = 1 := by have := h.parts.2.2.2.2.1.1; unfold mapOf at this; simpa [T.keys] using this.symm
  clear h hlo
  obtain ⟨k, x, d, y, ka, n, kc, ca, m, cc⟩ := e
  simp only at hn
  subst hn
  simp only [El.val] at hat ⊢
  have HAT := Lib.hid hat
  clear hat
  have hx0 : Ext w ((w.alloc (.cells #[.int .i64 k, .string x, .float .f64 d, .bool y, .slice ka 1 kc, .slice ca m cc] 26)).alloc (.cells (El.arr El0) 26)) := ext_alloc (ext_alloc (ext_refl _) _) _
  have hb3 : Box ((w.alloc (.cells #[.int .i64 k, .string x, .float .f64 d, .bool y, .slice ka 1 kc, .slice ca m cc] 26)).alloc (.cells (El.arr El0) 26)) w.heap.size (El.arr ⟨k, x, d, y, ka, 1, kc, ca, m, cc⟩) 26 := (Box.at rfl _ _).alloc _
  have hb4 : Box ((w.alloc (.cells #[.int .i64 k, .string x, .float .f64 d, .bool y, .slice ka 1 kc, .slice ca m cc] 26)).alloc (.cells (El.arr El0) 26)) (w.heap.size + 1) (El.arr El0) 26 := Box.at (by simp) _ _
  go_enter Tryz.func40, Tryz.ntmps40
  go_upto_region 2 with (go_at_call 41; refine (HAT.out _ hx0).mono ?_; rintro r w2 ⟨⟨gk, gx, gd, gy, gka, gn, gkc, gca, gm, gcc⟩, rfl, hT, hx⟩; simp only; have hk : gk = 5 := hT.parts.1.trans (mapT_kind qs); subst hk)
  have hx2 : Ext w2 (w2.alloc (.cells (El.arr ⟨5, gx, gd, gy, gka, gn, gkc, gca, gm, gcc⟩) 26)) := ext_alloc (ext_refl _) _
  have hb6 : Box (w2.alloc (.cells (El.arr ⟨5, gx, gd, gy, gka, gn, gkc, gca, gm, gcc⟩) 26)) w2.heap.size (El.arr ⟨5, gx, gd, gy, gka, gn, gkc, gca, gm, gcc⟩) 26 := Box.at rfl _ _
  have hb6n : w2.heap.size ≠ w.heap.size + 1 := by have := (hb4.ext hx).lt; omega
  have hb3 := (hb3.ext hx).ext hx2
  have hb4 := (hb4.ext hx).ext hx2
  have hT3 := Lib.hid (hT.ext hx2)
  have hx3 := ext_trans hx0 (ext_trans hx hx2)
  clear hT hx0 hx hx2
  generalize w2.alloc (.cells (El.arr ⟨5, gx, gd, gy, gka, gn, gkc, gca, gm, gcc⟩) 26) = w3 at hb6 hb3 hb4 hT3 hx3 ⊢
  generalize w2.heap.size = b6 at hb6 hb6n ⊢
  have hS : Six w3.drew w.heap.size ⟨k, x, d, y, ka, 1, kc, ca, m, cc⟩ ∧ Six w3.drew b6 ⟨5, gx, gd, gy, gka, gn, gkc, gca, gm, gcc⟩ := ⟨hb3.Six, hb6.Six⟩
  refine wp_region_order (fun w' => Six w' w.heap.size ⟨k, x, d, y, ka, 1, kc, ca, m, cc⟩ ∧ Six w' b6 ⟨5, gx, gd, gy, gka, gn, gkc, gca, gm, gcc⟩) [0, 1, 2, 3, 4, 5, 6, 7, 8, 9, 10, 11, 12] [0, 1, 2, 3, 4, 5, 6, 7, 8, 9, 10, 11, 12, 13, 14] (by kernel_rfl) (by kernel_rfl) (fun d _ _ _ _ h => by cases d <;> exact h) (by kernel_rfl) ?_
  iterate 3 (apply ord_held rfl rfl (by assumption) rfl; (focus ((intro w' hS'); go_simp; (try with_reducible rfl))); (try simp only [Act.put, List.setIfInBounds_toArray, List.set_cons_zero, List.set_cons_succ]))
  iterate 4 (apply ord_guard rfl rfl (by assumption) rfl; (focus ((intro w' hS'); go_simp; (try with_reducible rfl))); (try simp only [Act.put, List.setIfInBounds_toArray, List.set_cons_zero, List.set_cons_succ]))
  iterate 2 (apply ord_held rfl rfl (by assumption) rfl; (focus ((intro w' hS'); go_simp; (try with_reducible rfl))); (try simp only [Act.put, List.setIfInBounds_toArray, List.set_cons_zero, List.set_cons_succ]))
  iterate 3 (apply ord_guard rfl rfl (by assumption) rfl; (focus ((intro w' hS'); go_simp; (try with_reducible rfl))); (try simp only [Act.put, List.setIfInBounds_toArray, List.set_cons_zero, List.set_cons_succ]))
  iterate 1 (apply ord_held rfl rfl (by assumption) rfl; (focus ((intro w' hS'); go_simp; (try with_reducible rfl))); (try simp only [Act.put, List.setIfInBounds_toArray, List.set_cons_zero, List.set_cons_succ]))
  obtain ⟨p0, p1, p2, p3, p4, p5⟩ := hb4.six
  have f0 := hb4.free 0
  have f1 := hb4.free 1
  have f2 := hb4.free 2
  have f3 := hb4.free 3
  have f4 := hb4.free 4
  have f5 := hb4.free 5
  clear hS
  have hs3 := hx3.sz
  have hne6 : b6 ≠ w.heap.size + 1 := hb6n
  have hS6 : Six (sto w3 (w.heap.size + 1) ⟨5, gx, gd, gy, gka, gn, gkc, gca, gm, gcc⟩).drew w.heap.size ⟨k, x, d, y, ka, 1, kc, ca, m, cc⟩ ∧ Six (sto w3 (w.heap.size + 1) ⟨5, gx, gd, gy, gka, gn, gkc, gca, gm, gcc⟩).drew b6 ⟨5, gx, gd, gy, gka, gn, gkc, gca, gm, gcc⟩ :=
    ⟨(hb3.sto6' (by omega) _ _ _ _ _ _).drew.Six, (hb6.sto6' hne6 _ _ _ _ _ _).drew.Six⟩
  (apply ord_loud rfl rfl rfl; intro K hK; go_simp)
  refine hK _ _ (fun _ => hS6) ?_
  clear hK K
  (try simp only [Act.put, List.setIfInBounds_toArray, List.set_cons_zero, List.set_cons_succ])
  (apply ord_loud rfl rfl rfl; intro K hK; go_simp)
  refine hK _ _ (fun _ => hS6) ?_
  clear hK K
  (try simp only [Act.put, List.setIfInBounds_toArray, List.set_cons_zero, List.set_cons_succ])
  refine ord_end ?_
  go_wp2_with fail
  refine post_tree2 rfl rfl (hb4.sto ⟨5, gx, gd, gy, gka, gn, gkc, gca, gm, gcc⟩).drew rfl ⟨⟨5, gx, gd, gy, gka, gn, gkc, gca, gm, gcc⟩, rfl, ?_, ext_drew (ext_sto6 hx3 (by omega) _ _ _ _ _ _)⟩
  have hT4 : TreeAt (fun b => S b ∧ b < w.heap.size) w3 ⟨5, gx, gd, gy, gka, gn, gkc, gca, gm, gcc⟩ (mapT qs) := hT3.out
  have hne4 : ¬ ((fun b => S b ∧ b < w.heap.size) (w.heap.size + 1)) := fun h => by have := h.2; omega
  have hT5 := TreeAt.keep (S' := fun b => S b ∧ b < w.heap.size) (fun b hb _ => hb) (keeps_sto w3 hne4 ⟨5, gx, gd, gy, gka, gn, gkc, gca, gm, gcc⟩) _ hT4
  exact TreeAt.ext (ext_drew (ext_refl (sto w3 (w.heap.size + 1) ⟨5, gx, gd, gy, gka, gn, gkc, gca, gm, gcc⟩))) hT5
end Go.Proofs.YtfngaoicoecncaaGreatDoor
