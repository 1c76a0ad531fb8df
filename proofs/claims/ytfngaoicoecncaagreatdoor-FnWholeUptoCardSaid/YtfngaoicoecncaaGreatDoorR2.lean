/-
  A query that has its settings beside, read as it stands.
-/
import Derived.Test.YtfngaoicoecncaaGreatDoorF3
namespace Go.Proofs.YtfngaoicoecncaaGreatDoor
open Go.RowKit

theorem rising_lookup {α : Type} {l : List (ByteArray × α)} (h : Rising l) {i : Nat} {p : ByteArray × α} (hp : l[i]? = some p) : lastOf l p.1 = some p.2 := (rising_mem h).1 (List.mem_of_getElem? hp)
theorem mapOf_keys (l : List (ByteArray × T)) (i : Nat) (p : ByteArray × T) (h : l[i]? = some p) : (mapOf l).keys[i]? = some p.1 ∧ (mapOf l).kids[i]? = some p.2 := by
  unfold mapOf
  simp [T.keys, T.kids, h]

set_option maxHeartbeats 1000000 in
theorem at_map {S : Nat → Prop} (ps : List (ByteArray × T)) (e : El) (key : ByteArray) (w : World) (h : TreeAt S w e (mapT ps)) :
    Calls Tryz.prog 41 #[e.val, .string key] w fun r w' => ∃ g : El, r = .returned (.tuple #[g.val, .bool (lastOf ps key).isSome]) ∧ TreeAt S w' g ((lastOf ps key).getD nullT) ∧ Ext w w' := by
  obtain ⟨l, hm, hR, hlo⟩ := mapT_told ps
  rw [hm] at h
  rw [← hlo]
  clear hm hlo
  obtain ⟨h1, h2, h3, h4, h5, h6⟩ := h.parts
  obtain ⟨k, x, d, y, ka, n, kc, ca, m, cc⟩ := e
  simp only at h1 h2 h3 h4 h5 h6
  have hk : k = 5 := h1
  subst hk
  have hn : l.length = n := by have := h5.1; unfold mapOf at this; simpa [T.keys] using this
  have hmm : l.length = m := by have := h6.1; unfold mapOf at this; simpa [T.kids] using this
  obtain rfl : n = m := hn.symm.trans hmm
  have hkc := h5.2.1
  have hkm := h5.2.2.1
  have hcc := h6.2.1
  have hcm := h6.2.2.1
  unfold maxLen at hkm hcm
  have HN := Lib.hid hn
  have H5 := Lib.hid h5
  have H6 := Lib.hid h6
  have HRI := Lib.hid hR
  clear h h1 h2 h3 h4 h5 h6 hn hmm hR
  simp only [El.val]
  have hx0 : Ext w ((w.alloc (.cells #[.int .i64 5, .string x, .float .f64 d, .bool y, .slice ka n kc, .slice ca n cc] 26)).alloc (.cells (El.arr El0) 26)) := ext_alloc (ext_alloc (ext_refl _) _) _
  go_enter Tryz.func41, Tryz.ntmps41
  go_wp2_with fail
  go_loopw [6] (fun i wr => wr = ((w.alloc (.cells #[.int .i64 5, .string x, .float .f64 d, .bool y, .slice ka n kc, .slice ca n cc] 26)).alloc (.cells (El.arr El0) 26)) ∧ ∃ j : Nat, j ≤ n ∧ i = .int .i64 j ∧ ∀ (q : Nat) (p : ByteArray × T), q < j → l[q]? = some p → p.1 ≠ key) (fun i _ => n - (intOf i).toNat)
  case atStart => exact ⟨rfl, 0, Nat.zero_le _, rfl, fun q p h => by omega⟩
  case round =>
    obtain ⟨rfl, j, hj, rfl, hq⟩ := hrel
    have HQ := Lib.hid hq
    clear hq
    by_cases hlt : j < n
    · obtain ⟨p, hp⟩ := some_of_lt HN.out hlt
      obtain ⟨hp1, hp2⟩ := mapOf_keys l j p hp
      obtain ⟨b, off, rfl, hSb, hc⟩ := H5.out.2.2.2 j p.1 hp1
      obtain ⟨b2, off2, g, rfl, hSb2, hc6, hT⟩ := H6.out.get hp2
      have hc := hx0.cell hc
      have hc6 := CellsAt.ext hx0 hc6
      have HP := Lib.hid hp
      clear hp hp1 hp2
      cases he : p.1.toList == key.toList
      · go_wp2_with fail
        go_roundw
        case rel =>
          refine ⟨trivial, j + 1, by omega, by go_num, fun q u h1 h2 => ?_⟩
          by_cases hqj : q < j
          · exact HQ.out q u hqj h2
          · have hqe : q = j := by omega
            subst hqe
            rw [HP.out] at h2
            cases h2
            exact seq_false.1 he
        case measure => simp [intOf]; omega
      · go_wp2_with fail
        have hlast : lastOf l key = some p.2 := by rw [← seq_iff.1 he]; exact rising_lookup HRI.out HP.out
        refine post_tree2 rfl rfl (Box.at (by simp) _ _) rfl ⟨g, ?_, ?_, ext_alloc (ext_alloc (ext_refl _) _) _⟩
        · rw [hlast]; rfl
        · rw [hlast]
          exact hT.ext (ext_alloc (ext_alloc (ext_refl _) _) _)
    · have hjn : j = n := by omega
      subst hjn
      go_wp2_with fail
      have hlast : lastOf l key = none := lastOf_none fun q u h2 => HQ.out q u (by have := (List.getElem?_eq_some_iff.1 h2).1; have := HN.out; omega) h2
      refine post_tree2 rfl rfl (Box.at (by simp) _ _) rfl ⟨El0, ?_, ?_, ext_alloc (ext_alloc (ext_refl _) _) _⟩
      · rw [hlast]; rfl
      · rw [hlast]
        exact TreeAt.of rfl rfl rfl rfl (strs_none _) (kids_none _)

theorem mapT_one (k : ByteArray) (t : T) : mapT [(k, t)] = mapOf [(k, t)] := mapT_of (by simp [Rising]) fun _ => rfl
theorem mapT_kind (ps : List (ByteArray × T)) : (mapT ps).kind = 5 := by
  obtain ⟨l, h, _⟩ := mapT_told ps
  rw [h]; rfl
set_option maxHeartbeats 1000000 in
theorem within_one {S : Nat → Prop} (kind : ByteArray) (qs : List (ByteArray × T)) (e : El) (w : World) (h : TreeAt S w e (mapT [(kind, mapT qs)])) :
    Calls Tryz.prog 40 #[.string kind, e.val] w fun r w' => ∃ g : El, r = .returned (.tuple #[g.val, .bool true]) ∧ TreeAt (fun b => S b ∧ b < w.heap.size) w' g (mapT qs) ∧ Ext w w' := by
  have h := h.to (S' := fun b => S b ∧ b < w.heap.size) (fun b h1 h2 => ⟨h1, h2⟩)
  have hat := fun w' (x : Ext w w') => at_map [(kind, mapT qs)] e kind w' (h.ext x)
  have hlo : lastOf [(kind, mapT qs)] kind = some (mapT qs) := by simp [lastOf, seq_self]
  rw [hlo] at hat
  rw [mapT_one] at h
  have hn : e.n = 1 := by have := h.parts.2.2.2.2.1.1; unfold mapOf at this; simpa [T.keys] using this.symm
  clear h hlo
  obtain ⟨k, x, d, y, ka, n, kc, ca, m, cc⟩ := e
  simp only at hn
  subst hn
  simp only [El.val] at hat ⊢
  have HAT := Lib.hid hat
  clear hat
  have hx0 : Ext w ((w.alloc (.cells #[.int .i64 k, .string x, .float .f64 d, .bool y, .slice ka 1 kc, .slice ca m cc] 26)).alloc (.cells (El.arr El0) 26)) := ext_alloc (ext_alloc (ext_refl _) _) _
  have hb3 : Box ((w.alloc (.cells #[.int .i64 k, .string x, .float .f64 d, .bool y, .slice ka 1 kc, .slice ca m cc] 26)).alloc (.cells (El.arr El0) 26)) w.heap.size (El.arr ⟨k, x, d, y, ka, 1, kc, ca, m, cc⟩) 26 := (Box.at rfl _ _).alloc _
  have hb4 : Box ((w.alloc (.cells #[.int .i64 k, .string x, .float .f64 d, .bool y, .slice ka 1 kc, .slice ca m cc] 26)).alloc (.cells (El.arr El0) 26)) (w.heap.size + 1) (El.arr El0) 26 := Box.at (by simp) _ _
  go_enter Tryz.func40, Tryz.ntmps40
  go_upto_region 2 with (go_at_call 41; refine (HAT.out _ hx0).mono ?_; rintro r w2 ⟨⟨gk, gx, gd, gy, gka, gn, gkc, gca, gm, gcc⟩, rfl, hT, hx⟩; simp only; have hk : gk = 5 := hT.parts.1.trans (mapT_kind qs); subst hk)
  have hx2 : Ext w2 (w2.alloc (.cells (El.arr ⟨5, gx, gd, gy, gka, gn, gkc, gca, gm, gcc⟩) 26)) := ext_alloc (ext_refl _) _
  have hb6 : Box (w2.alloc (.cells (El.arr ⟨5, gx, gd, gy, gka, gn, gkc, gca, gm, gcc⟩) 26)) w2.heap.size (El.arr ⟨5, gx, gd, gy, gka, gn, gkc, gca, gm, gcc⟩) 26 := Box.at rfl _ _
  have hb6n : w2.heap.size ≠ w.heap.size + 1 := by have := (hb4.ext hx).lt; omega
  have hb3 := (hb3.ext hx).ext hx2
  have hb4 := (hb4.ext hx).ext hx2
  have hT3 := Lib.hid (hT.ext hx2)
  have hx3 := ext_trans hx0 (ext_trans hx hx2)
  clear hT hx0 hx hx2
  generalize w2.alloc (.cells (El.arr ⟨5, gx, gd, gy, gka, gn, gkc, gca, gm, gcc⟩) 26) = w3 at hb6 hb3 hb4 hT3 hx3 ⊢
  generalize w2.heap.size = b6 at hb6 hb6n ⊢
  have hS : Six w3.drew w.heap.size ⟨k, x, d, y, ka, 1, kc, ca, m, cc⟩ ∧ Six w3.drew b6 ⟨5, gx, gd, gy, gka, gn, gkc, gca, gm, gcc⟩ := ⟨hb3.Six, hb6.Six⟩
  refine wp_region_order (fun w' => Six w' w.heap.size ⟨k, x, d, y, ka, 1, kc, ca, m, cc⟩ ∧ Six w' b6 ⟨5, gx, gd, gy, gka, gn, gkc, gca, gm, gcc⟩) [0, 1, 2, 3, 4, 5, 6, 7, 8, 9, 10, 11, 12] [0, 1, 2, 3, 4, 5, 6, 7, 8, 9, 10, 11, 12, 13, 14] (by kernel_rfl) (by kernel_rfl) (fun d _ _ _ _ h => by cases d <;> exact h) (by kernel_rfl) ?_
  iterate 3 (apply ord_held rfl rfl (by assumption) rfl; (focus ((intro w' hS'); go_simp; (try with_reducible rfl))); (try simp only [Act.put, List.setIfInBounds_toArray, List.set_cons_zero, List.set_cons_succ]))
  iterate 4 (apply ord_guard rfl rfl (by assumption) rfl; (focus ((intro w' hS'); go_simp; (try with_reducible rfl))); (try simp only [Act.put, List.setIfInBounds_toArray, List.set_cons_zero, List.set_cons_succ]))
  iterate 2 (apply ord_held rfl rfl (by assumption) rfl; (focus ((intro w' hS'); go_simp; (try with_reducible rfl))); (try simp only [Act.put, List.setIfInBounds_toArray, List.set_cons_zero, List.set_cons_succ]))
  iterate 3 (apply ord_guard rfl rfl (by assumption) rfl; (focus ((intro w' hS'); go_simp; (try with_reducible rfl))); (try simp only [Act.put, List.setIfInBounds_toArray, List.set_cons_zero, List.set_cons_succ]))
  iterate 1 (apply ord_held rfl rfl (by assumption) rfl; (focus ((intro w' hS'); go_simp; (try with_reducible rfl))); (try simp only [Act.put, List.setIfInBounds_toArray, List.set_cons_zero, List.set_cons_succ]))
  obtain ⟨p0, p1, p2, p3, p4, p5⟩ := hb4.six
  have f0 := hb4.free 0
  have f1 := hb4.free 1
  have f2 := hb4.free 2
  have f3 := hb4.free 3
  have f4 := hb4.free 4
  have f5 := hb4.free 5
  clear hS
  have hs3 := hx3.sz
  have hne6 : b6 ≠ w.heap.size + 1 := hb6n
  have hS6 : Six (sto w3 (w.heap.size + 1) ⟨5, gx, gd, gy, gka, gn, gkc, gca, gm, gcc⟩).drew w.heap.size ⟨k, x, d, y, ka, 1, kc, ca, m, cc⟩ ∧ Six (sto w3 (w.heap.size + 1) ⟨5, gx, gd, gy, gka, gn, gkc, gca, gm, gcc⟩).drew b6 ⟨5, gx, gd, gy, gka, gn, gkc, gca, gm, gcc⟩ :=
    ⟨(hb3.sto6' (by omega) _ _ _ _ _ _).drew.Six, (hb6.sto6' hne6 _ _ _ _ _ _).drew.Six⟩
  (apply ord_loud rfl rfl rfl; intro K hK; go_simp)
  refine hK _ _ (fun _ => hS6) ?_
  clear hK K
  (try simp only [Act.put, List.setIfInBounds_toArray, List.set_cons_zero, List.set_cons_succ])
  (apply ord_loud rfl rfl rfl; intro K hK; go_simp)
  refine hK _ _ (fun _ => hS6) ?_
  clear hK K
  (try simp only [Act.put, List.setIfInBounds_toArray, List.set_cons_zero, List.set_cons_succ])
  refine ord_end ?_
  go_wp2_with fail
  refine post_tree2 rfl rfl (hb4.sto ⟨5, gx, gd, gy, gka, gn, gkc, gca, gm, gcc⟩).drew rfl ⟨⟨5, gx, gd, gy, gka, gn, gkc, gca, gm, gcc⟩, rfl, ?_, ext_drew (ext_sto6 hx3 (by omega) _ _ _ _ _ _)⟩
  have hT4 : TreeAt (fun b => S b ∧ b < w.heap.size) w3 ⟨5, gx, gd, gy, gka, gn, gkc, gca, gm, gcc⟩ (mapT qs) := hT3.out
  have hne4 : ¬ ((fun b => S b ∧ b < w.heap.size) (w.heap.size + 1)) := fun h => by have := h.2; omega
  have hT5 := TreeAt.keep (S' := fun b => S b ∧ b < w.heap.size) (fun b hb _ => hb) (keeps_sto w3 hne4 ⟨5, gx, gd, gy, gka, gn, gkc, gca, gm, gcc⟩) _ hT4
  exact TreeAt.ext (ext_drew (ext_refl (sto w3 (w.heap.size + 1) ⟨5, gx, gd, gy, gka, gn, gkc, gca, gm, gcc⟩))) hT5
end Go.Proofs.YtfngaoicoecncaaGreatDoor

namespace Go.Proofs.YtfngaoicoecncaaGreatDoor
open Go.RowKit

set_option maxHeartbeats 2000000 in
theorem rb_any {S : Nat → Prop} (kind : ByteArray) (qs : List (ByteArray × T)) (e : El) (la : Option Addr) (ln lc : Nat) (lists : List ByteArray) (w : World) (h : TreeAt S w e (mapT [(kind, mapT qs)])) (hl : StrsAt S w la ln lc lists)
    (hq : ∀ k t, lastOf qs k = some t → t.kind ≠ 0 ∧ (hasS lists k = true → t.kind = 4 ∧ t.kids.length ≠ 0)) (hlen : qs.length ≤ 65536) :
    Calls Tryz.prog 65 #[.string kind, e.val, .slice la ln lc] w fun r w' => ∃ g : El, r = .returned g.val ∧ TreeAt (fun b => (S b ∧ b < w.heap.size) ∨ w.heap.size ≤ b) w' g (mapT [(kind, mapT qs)]) ∧ Ext w w' := by
  have h := h.to (S' := fun b => S b ∧ b < w.heap.size) (fun b h1 h2 => ⟨h1, h2⟩)
  have hl := hl.keep (S' := fun b => S b ∧ b < w.heap.size) (fun b h1 h2 => ⟨h1, h2⟩) (fun _ _ _ => rfl)
  obtain ⟨l, hm, hR, hlo⟩ := mapT_told qs
  have hll : l.length ≤ 65536 := by have := (mapT_len qs).1; rw [hm] at this; unfold mapOf at this; simp [T.keys] at this; omega
  have hW := fun w' (x : Ext w w') => within_one kind qs e w' (h.ext x)
  have hH := fun s w' (x : Ext w w') => has_any la ln lc lists s w' (hl.ext x)
  have hx0 : Ext w ((w.alloc (.cells e.arr 26)).alloc (.cells (El.arr El0) 26)) := ext_alloc (ext_alloc (ext_refl _) _) _
  have hb6 : Box ((w.alloc (.cells e.arr 26)).alloc (.cells (El.arr El0) 26)) (w.heap.size + 1) (El.arr El0) 26 := Box.at (by simp) _ _
  have HW := Lib.hid hW
  have HH := Lib.hid hH
  have HQ := Lib.hid hq
  have HM := Lib.hid hm
  have HRI := Lib.hid hR
  have HLO := Lib.hid hlo
  have HLL := Lib.hid hll
  have HLEN := Lib.hid hlen
  clear h hl hm hR hlo hW hH hq hll hlen
  obtain ⟨ek, ex, ed, ey, eka, en, ekc, eca, em, ecc⟩ := e
  simp only [El.val] at HW ⊢
  go_enter Tryz.func65, Tryz.ntmps65
  go_upto_region 2 with (go_at_call 40; refine (HW.out _ hx0).mono ?_; rintro r w2 ⟨⟨gk, gx, gd, gy, gka, gn, gkc, gca, gm, gcc⟩, rfl, hT, hx⟩; simp only)
  have hx2 : Ext w2 (w2.alloc (.cells (El.arr ⟨gk, gx, gd, gy, gka, gn, gkc, gca, gm, gcc⟩) 26)) := ext_alloc (ext_refl _) _
  have hb7 : Box (w2.alloc (.cells (El.arr ⟨gk, gx, gd, gy, gka, gn, gkc, gca, gm, gcc⟩) 26)) w2.heap.size (El.arr ⟨gk, gx, gd, gy, gka, gn, gkc, gca, gm, gcc⟩) 26 := Box.at rfl _ _
  have hb6 := (hb6.ext hx).ext hx2
  have hb67 : w.heap.size + 1 < w2.heap.size := ((Box.at (w := w.alloc (.cells (El.arr ⟨ek, ex, ed, ey, eka, en, ekc, eca, em, ecc⟩) 26)) (b := w.heap.size + 1) (by simp) (El.arr El0) 26).ext hx).lt
  have hT3 := Lib.hid ((hT.to (S' := fun b => S b ∧ b < w.heap.size) (fun b h1 _ => h1.1)).ext hx2)
  have hx3 := ext_trans hx0 (ext_trans hx hx2)
  clear hT hx0 hx hx2
  generalize w2.alloc (.cells (El.arr ⟨gk, gx, gd, gy, gka, gn, gkc, gca, gm, gcc⟩) 26) = w3 at hb7 hb6 hT3 hx3 ⊢
  generalize w2.heap.size = b7 at hb7 hb67 ⊢
  have hb7l := hb7.lt
  have hMp := map_any (S := fun _ => False) none 0 0 [] w3 ⟨rfl, Nat.le_refl _, by simp [maxLen], fun _ _ h => by simp at h⟩ (by decide)
  go_upto_region 5 with (go_at_call 42; refine hMp.mono ?_; rintro r w4 ⟨⟨ok, ox, od, oy, oka, on, okc, oca, om, occ⟩, rfl, hT4, hx4⟩; simp only [El.val])
  have hx5 : Ext w4 (w4.alloc (.cells (El.arr ⟨ok, ox, od, oy, oka, on, okc, oca, om, occ⟩) 26)) := ext_alloc (ext_refl _) _
  have hb9 : Box (w4.alloc (.cells (El.arr ⟨ok, ox, od, oy, oka, on, okc, oca, om, occ⟩) 26)) w4.heap.size (El.arr ⟨ok, ox, od, oy, oka, on, okc, oca, om, occ⟩) 26 := Box.at rfl _ _
  have hb97 : b7 < w4.heap.size := (hb7.ext hx4).lt
  have hb7 := (hb7.ext hx4).ext hx5
  have hb6 := (hb6.ext hx4).ext hx5
  have hT5 := Lib.hid ((hT4.to (S' := fun b => (S b ∧ b < w.heap.size) ∨ (b7 < b ∧ b < w4.heap.size) ∨ w4.heap.size < b) (fun b h1 h2 => by
    rcases h1 with h1 | h1
    · exact h1.1.elim
    · exact .inr (.inl ⟨by omega, h2⟩))).ext hx5)
  have hTX := Lib.hid (hT3.out.ext (ext_trans hx4 hx5))
  have hx6 := ext_trans hx3 (ext_trans hx4 hx5)
  clear hT4 hT3 hx3 hx4 hx5 hMp hb7l
  generalize w4.alloc (.cells (El.arr ⟨ok, ox, od, oy, oka, on, okc, oca, om, occ⟩) 26) = w5 at hb9 hb7 hb6 hT5 hTX hx6 ⊢
  generalize w4.heap.size = b9 at hb9 hb97 hT5 ⊢
  have hTX0 := hTX.out
  rw [HM.out] at hTX0
  have hk5 := hTX0.parts.2.2.2.2.1
  have hk6 := hTX0.parts.2.2.2.2.2
  have hgn : l.length = gn := by have := hk5.1; unfold mapOf at this; simpa [T.keys] using this
  have hgm : l.length = gm := by have := hk6.1; unfold mapOf at this; simpa [T.kids] using this
  obtain rfl : gn = gm := hgn.symm.trans hgm
  have hkc := hk5.2.1
  have hkm := hk5.2.2.1
  have hcc := hk6.2.1
  have hcm := hk6.2.2.1
  unfold maxLen at hkm hcm
  have HN := Lib.hid hgn
  have H5 := Lib.hid hk5
  have H6 := Lib.hid hk6
  clear hTX0 hk5 hk6 hgn hgm
  go_wp2_with fail
  go_loopw [10] (fun i wr => Ext w wr ∧ Ext w5 w5 ∧ Box wr (w.heap.size + 1) (El.arr El0) 26 ∧ Box wr b7 (El.arr ⟨gk, gx, gd, gy, gka, gn, gkc, gca, gn, gcc⟩) 26 ∧ KidsAt (fun b => S b ∧ b < w.heap.size) wr gca gn gcc (mapOf l).kids ∧ StrsAt (fun b => S b ∧ b < w.heap.size) wr gka gn gkc (mapOf l).keys ∧
    ∃ (j : Nat) (eo : El), j ≤ gn ∧ i = .int .i64 j ∧ Box wr b9 eo.arr 26 ∧ TreeAt (fun b => (S b ∧ b < w.heap.size) ∨ (b7 < b ∧ b ≠ b9)) wr eo (mapT (l.take j))) (fun i _ => gn - (intOf i).toNat)
  case atStart =>
    exact ⟨hx6, ext_refl _, hb6, hb7, H6.out, H5.out, 0, _, Nat.zero_le _, rfl, hb9, hT5.out.to fun b h1 _ => by
      rcases h1 with h1 | h1 | h1
      · exact .inl h1
      · exact .inr ⟨h1.1, by omega⟩
      · exact .inr ⟨by omega, by omega⟩⟩
  case round =>
    obtain ⟨hx, -, hb6, hb7, hKI, hKE, j, eo, hj, rfl, hb9, hTo⟩ := hrel
    obtain ⟨q0, q1, q2, q3, q4, q5⟩ := hb7.six
    have hTo := Lib.hid hTo
    have hb9l := hb9.lt
    by_cases hlt : j < gn
    · obtain ⟨p, hp⟩ := some_of_lt HN.out hlt
      obtain ⟨hp1, hp2⟩ := mapOf_keys l j p hp
      obtain ⟨b, off, rfl, hSb, hc⟩ := hKE.2.2.2 j p.1 hp1
      obtain ⟨b2, off2, g, rfl, hSb2, hc6, hTk⟩ := hKI.get hp2
      have hlast : lastOf qs p.1 = some p.2 := by rw [← HLO.out]; exact rising_lookup HRI.out hp
      obtain ⟨hk0, hk4⟩ := HQ.out p.1 p.2 hlast
      have hgk := hTk.parts.1
      have hgm := hTk.parts.2.2.2.2.2.1
      rw [← hgk] at hk0 hk4
      rw [hgm] at hk4
      have HP := Lib.hid hp
      have HTk := Lib.hid hTk
      have hKE := Lib.hid hKE
      have hKI := Lib.hid hKI
      clear hp hp1 hp2 hlast hgk hgm hTk
      obtain ⟨kk, kx, kd, ky, kka, kn, kkc, kca, km, kcc⟩ := g
      simp only at hk0 hk4
      have hx1 : Ext wr (wr.alloc (.cells (El.arr ⟨kk, kx, kd, ky, kka, kn, kkc, kca, km, kcc⟩) 26)) := ext_alloc (ext_refl _) _
      have hb11 : Box (wr.alloc (.cells (El.arr ⟨kk, kx, kd, ky, kka, kn, kkc, kca, km, kcc⟩) 26)) wr.heap.size (El.arr ⟨kk, kx, kd, ky, kka, kn, kkc, kca, km, kcc⟩) 26 := Box.at rfl _ _
      have hHs := HH.out p.1 _ (ext_trans hx hx1)
      have hblt : b < wr.heap.size := lt_of_cell hc
      go_upto_region 9 with fail
      have hb7 := hb7.ext hx1
      have hb6 := hb6.ext hx1
      have hb9 := hb9.ext hx1
      have hc := hx1.cell hc
      have hKE := Lib.hid (StrsAt.ext hx1 hKE.out)
      have hKI := Lib.hid (KidsAt.ext hx1 hKI.out)
      have hTo := Lib.hid (TreeAt.ext hx1 hTo.out)
      have HTk := Lib.hid (TreeAt.ext hx1 HTk.out)
      have hx := ext_trans hx hx1
      have hb11l := hb11.lt
      have hb119 : b9 < wr.heap.size := hb9l
      clear q0 q1 q2 q3 q4 q5 hx1 hb9l hblt hc6
      generalize wr.alloc (.cells (El.arr ⟨kk, kx, kd, ky, kka, kn, kkc, kca, km, kcc⟩) 26) = w6 at hb11 hb7 hb6 hb9 hc hKE hKI hTo HTk hx hHs hb11l ⊢
      generalize wr.heap.size = b11 at hb11 hb119 hb11l ⊢
      obtain ⟨q0, q1, q2, q3, q4, q5⟩ := hb7.six
      obtain ⟨m0, m1, m2, m3, m4, m5⟩ := hb11.six
      cases hk : hasS lists p.1 with
      | false =>
        rw [hk] at hHs
        clear hk4
        go_upto_region 12 with (go_at_call 25; refine hHs.mono ?_; rintro r w7 ⟨rfl, rfl⟩)
        have hS : Six w6.drew b9 eo ∧ Six w6.drew b7 ⟨gk, gx, gd, gy, some ⟨b, off, none⟩, gn, gkc, some ⟨b2, off2, none⟩, gn, gcc⟩ ∧ Six w6.drew b11 ⟨kk, kx, kd, ky, kka, kn, kkc, kca, km, kcc⟩ ∧ w6.drew.cell? ⟨b, off + j, none⟩ = some (.string p.1) := ⟨hb9.Six, hb7.Six, hb11.Six, hc⟩
        refine wp_region_order (fun w' => Six w' b9 eo ∧ Six w' b7 ⟨gk, gx, gd, gy, some ⟨b, off, none⟩, gn, gkc, some ⟨b2, off2, none⟩, gn, gcc⟩ ∧ Six w' b11 ⟨kk, kx, kd, ky, kka, kn, kkc, kca, km, kcc⟩ ∧ w'.cell? ⟨b, off + j, none⟩ = some (.string p.1)) [0, 1, 2, 3, 4, 5, 6] [0, 1, 2, 3, 4, 5, 6, 7, 8] (by kernel_rfl) (by kernel_rfl) (fun d _ _ _ _ h => by cases d <;> exact h) (by kernel_rfl) ?_
        iterate 7 (apply ord_held rfl rfl (by assumption) rfl; (focus ((intro w' hS'); go_simp; (try with_reducible rfl))); (try simp only [Act.put, List.setIfInBounds_toArray, List.set_cons_zero, List.set_cons_succ]))
        (apply ord_loud rfl rfl rfl; intro K hK; go_simp)
        have hlen := mapT_len (l.take j)
        have hj2 : (l.take j).length ≤ j := List.length_take_le _ _
        have hjl := HLL.out
        have hjn := HN.out
        refine (with_any (S := fun b => (S b ∧ b < w.heap.size) ∨ (b7 < b ∧ b ≠ b9)) eo (mapT (l.take j)) p.1 ⟨kk, kx, kd, ky, kka, kn, kkc, kca, km, kcc⟩ p.2 _ (hTo.out.ext (ext_drew (ext_refl _))) ((HTk.out.to (fun b h1 _ => .inl h1)).ext (ext_drew (ext_refl _))) (by omega) (by omega) (by omega)).mono ?_
        rintro r w8 ⟨e2, rfl, hT2, hx2⟩
        have hx3 : Ext w6 w8 := ext_trans (ext_drew (ext_refl _)) hx2
        refine hK _ _ (fun _ => ⟨Six.ext hx2 hS.1, Six.ext hx2 hS.2.1, Six.ext hx2 hS.2.2.1, hx2.cell hS.2.2.2⟩) ?_
        clear hK K hS
        simp only [El.val]
        (try simp only [Act.put, List.setIfInBounds_toArray, List.set_cons_zero, List.set_cons_succ])
        have hb93 := hb9.ext hx3
        obtain ⟨z0, z1, z2, z3, z4, z5⟩ := hb93.six
        have f0 := hb93.free 0
        have f1 := hb93.free 1
        have f2 := hb93.free 2
        have f3 := hb93.free 3
        have f4 := hb93.free 4
        have f5 := hb93.free 5
        clear q0 q1 q2 q3 q4 q5 m0 m1 m2 m3 m4 m5
        (apply ord_last rfl rfl rfl (by kernel_rfl); intro K hK; go_simp; refine hK _ _ ?_; clear hK K; (try simp only [Act.put, List.setIfInBounds_toArray, List.set_cons_zero, List.set_cons_succ]))
        refine ord_end ?_
        have hxx := hx.sz
        have hN : ¬ ((fun b => (S b ∧ b < w.heap.size) ∨ (b7 < b ∧ b ≠ b9)) b9) := by simp; omega
        have hN2 : ¬ ((fun b => S b ∧ b < w.heap.size) b9) := fun h => by have := h.2; omega
        have hT3 := Lib.hid (TreeAt.keep (S' := fun b => (S b ∧ b < w.heap.size) ∨ (b7 < b ∧ b ≠ b9)) (fun _ h _ => h) (keeps_sto w8 hN e2) _ (hT2.to (fun q h _ => by
          rcases h with h | h
          · exact h
          · exact .inr ⟨by simp at h; omega, by simp at h; omega⟩)))
        have hKI2 := Lib.hid (KidsAt.keep (S' := fun b => S b ∧ b < w.heap.size) (fun _ h _ => h) (keeps_sto w8 hN2 e2) (KidsAt.ext hx3 hKI.out))
        have hKE2 := Lib.hid (StrsAt.keep (S' := fun b => S b ∧ b < w.heap.size) (fun _ h _ => h) (keeps_sto w8 hN2 e2) (StrsAt.ext hx3 hKE.out))
        clear hT2
        go_wp2_with fail
        go_roundw
        case rel => exact ⟨ext_sto6 (ext_trans hx hx3) (by omega) _ _ _ _ _ _, ext_refl _, (hb6.ext hx3).sto6' (by omega) _ _ _ _ _ _, (hb7.ext hx3).sto6' (by omega) _ _ _ _ _ _, hKI2.out, hKE2.out, j + 1, e2, by omega, by go_num, hb93.sto e2, by
          rw [show mapT (l.take (j + 1)) = withT (mapT (l.take j)) p.1 p.2 from foldl_snoc _ _ HP.out]
          exact hT3.out⟩
        case measure => simp [intOf]; omega
      | true =>
        obtain ⟨rfl, hm0⟩ := hk4 hk
        rw [hk] at hHs
        clear hk4
        go_upto_region 12 with (go_at_call 25; refine hHs.mono ?_; rintro r w7 ⟨rfl, rfl⟩)
        have hS : Six w6.drew b9 eo ∧ Six w6.drew b7 ⟨gk, gx, gd, gy, some ⟨b, off, none⟩, gn, gkc, some ⟨b2, off2, none⟩, gn, gcc⟩ ∧ Six w6.drew b11 ⟨4, kx, kd, ky, kka, kn, kkc, kca, km, kcc⟩ ∧ w6.drew.cell? ⟨b, off + j, none⟩ = some (.string p.1) := ⟨hb9.Six, hb7.Six, hb11.Six, hc⟩
        refine wp_region_order (fun w' => Six w' b9 eo ∧ Six w' b7 ⟨gk, gx, gd, gy, some ⟨b, off, none⟩, gn, gkc, some ⟨b2, off2, none⟩, gn, gcc⟩ ∧ Six w' b11 ⟨4, kx, kd, ky, kka, kn, kkc, kca, km, kcc⟩ ∧ w'.cell? ⟨b, off + j, none⟩ = some (.string p.1)) [0, 1, 2, 3, 4, 5, 6] [0, 1, 2, 3, 4, 5, 6, 7, 8] (by kernel_rfl) (by kernel_rfl) (fun d _ _ _ _ h => by cases d <;> exact h) (by kernel_rfl) ?_
        iterate 7 (apply ord_held rfl rfl (by assumption) rfl; (focus ((intro w' hS'); go_simp; (try with_reducible rfl))); (try simp only [Act.put, List.setIfInBounds_toArray, List.set_cons_zero, List.set_cons_succ]))
        (apply ord_loud rfl rfl rfl; intro K hK; go_simp)
        have hlen := mapT_len (l.take j)
        have hj2 : (l.take j).length ≤ j := List.length_take_le _ _
        have hjl := HLL.out
        have hjn := HN.out
        refine (with_any (S := fun b => (S b ∧ b < w.heap.size) ∨ (b7 < b ∧ b ≠ b9)) eo (mapT (l.take j)) p.1 ⟨4, kx, kd, ky, kka, kn, kkc, kca, km, kcc⟩ p.2 _ (hTo.out.ext (ext_drew (ext_refl _))) ((HTk.out.to (fun b h1 _ => .inl h1)).ext (ext_drew (ext_refl _))) (by omega) (by omega) (by omega)).mono ?_
        rintro r w8 ⟨e2, rfl, hT2, hx2⟩
        have hx3 : Ext w6 w8 := ext_trans (ext_drew (ext_refl _)) hx2
        refine hK _ _ (fun _ => ⟨Six.ext hx2 hS.1, Six.ext hx2 hS.2.1, Six.ext hx2 hS.2.2.1, hx2.cell hS.2.2.2⟩) ?_
        clear hK K hS
        simp only [El.val]
        (try simp only [Act.put, List.setIfInBounds_toArray, List.set_cons_zero, List.set_cons_succ])
        have hb93 := hb9.ext hx3
        obtain ⟨z0, z1, z2, z3, z4, z5⟩ := hb93.six
        have f0 := hb93.free 0
        have f1 := hb93.free 1
        have f2 := hb93.free 2
        have f3 := hb93.free 3
        have f4 := hb93.free 4
        have f5 := hb93.free 5
        clear q0 q1 q2 q3 q4 q5 m0 m1 m2 m3 m4 m5
        (apply ord_last rfl rfl rfl (by kernel_rfl); intro K hK; go_simp; refine hK _ _ ?_; clear hK K; (try simp only [Act.put, List.setIfInBounds_toArray, List.set_cons_zero, List.set_cons_succ]))
        refine ord_end ?_
        have hxx := hx.sz
        have hN : ¬ ((fun b => (S b ∧ b < w.heap.size) ∨ (b7 < b ∧ b ≠ b9)) b9) := by simp; omega
        have hN2 : ¬ ((fun b => S b ∧ b < w.heap.size) b9) := fun h => by have := h.2; omega
        have hT3 := Lib.hid (TreeAt.keep (S' := fun b => (S b ∧ b < w.heap.size) ∨ (b7 < b ∧ b ≠ b9)) (fun _ h _ => h) (keeps_sto w8 hN e2) _ (hT2.to (fun q h _ => by
          rcases h with h | h
          · exact h
          · exact .inr ⟨by simp at h; omega, by simp at h; omega⟩)))
        have hKI2 := Lib.hid (KidsAt.keep (S' := fun b => S b ∧ b < w.heap.size) (fun _ h _ => h) (keeps_sto w8 hN2 e2) (KidsAt.ext hx3 hKI.out))
        have hKE2 := Lib.hid (StrsAt.keep (S' := fun b => S b ∧ b < w.heap.size) (fun _ h _ => h) (keeps_sto w8 hN2 e2) (StrsAt.ext hx3 hKE.out))
        clear hT2
        go_wp2_with fail
        go_roundw
        case rel => exact ⟨ext_sto6 (ext_trans hx hx3) (by omega) _ _ _ _ _ _, ext_refl _, (hb6.ext hx3).sto6' (by omega) _ _ _ _ _ _, (hb7.ext hx3).sto6' (by omega) _ _ _ _ _ _, hKI2.out, hKE2.out, j + 1, e2, by omega, by go_num, hb93.sto e2, by
          rw [show mapT (l.take (j + 1)) = withT (mapT (l.take j)) p.1 p.2 from foldl_snoc _ _ HP.out]
          exact hT3.out⟩
        case measure => simp [intOf]; omega
    · have hjn : j = gn := by omega
      have hfin : mapT (l.take j) = mapT qs := by
        rw [List.take_of_length_le (by have := HN.out; omega)]
        exact mapT_congr HLO.out
      rw [hfin] at hTo
      have hxx := hx.sz
      obtain ⟨eok, eox, eod, eoy, eoka, eon, eokc, eoca, eom, eocc⟩ := eo
      obtain ⟨z0, z1, z2, z3, z4, z5⟩ := hb9.six
      have hx1 : Ext wr (wr.alloc (.cells #[.string kind, .int .i64 eok, .string eox, .float .f64 eod, .bool eoy, .slice eoka eon eokc, .slice eoca eom eocc] 72)) := ext_alloc (ext_refl _) _
      have hbp : Box (wr.alloc (.cells #[.string kind, .int .i64 eok, .string eox, .float .f64 eod, .bool eoy, .slice eoka eon eokc, .slice eoca eom eocc] 72)) wr.heap.size _ _ := Box.at rfl _ _
      have hM := map_any (S := fun b => (S b ∧ b < w.heap.size) ∨ (b7 < b ∧ b ≠ b9)) (some ⟨wr.heap.size, 0, none⟩) 1 1 [(kind, mapT qs)] _ (pairs_one (e := ⟨eok, eox, eod, eoy, eoka, eon, eokc, eoca, eom, eocc⟩) hbp (.inr ⟨by omega, by omega⟩) (hTo.out.ext hx1)) (by decide)
      go_wp2_with (go_at_call 42; refine hM.mono ?_; rintro r w8 ⟨e2, rfl, hT2, hx2⟩; simp only [El.val]; have hb66 := (hb6.ext hx1).ext hx2; obtain ⟨o0, o1, o2, o3, o4, o5⟩ := hb66.six; have f0 := hb66.free 0; have f1 := hb66.free 1; have f2 := hb66.free 2; have f3 := hb66.free 3; have f4 := hb66.free 4; have f5 := hb66.free 5)
      refine post_tree rfl rfl (hb66.sto e2) rfl ⟨e2, rfl, ?_, ext_sto6 (ext_trans hx (ext_trans hx1 hx2)) (by omega) _ _ _ _ _ _⟩
      have hT3 : TreeAt (fun b => (S b ∧ b < w.heap.size) ∨ b7 < b) w8 e2 (mapT [(kind, mapT qs)]) := hT2.to fun q h1 _ => by
        rcases h1 with h | h
        · rcases h.1 with h | h
          · exact .inl h
          · exact .inr h.1
        · simp at h
          exact .inr (by omega)
      have hN : ¬ ((fun b => (S b ∧ b < w.heap.size) ∨ b7 < b) (w.heap.size + 1)) := by simp; omega
      exact TreeAt.keep (fun q h _ => by
        rcases h with h | h
        · exact .inl h
        · exact .inr (by omega)) (keeps_sto w8 hN e2) _ hT3
end Go.Proofs.YtfngaoicoecncaaGreatDoor

