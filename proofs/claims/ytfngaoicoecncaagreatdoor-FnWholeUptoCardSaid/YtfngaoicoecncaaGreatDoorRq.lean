/-
  Nodes, read: what is handed over is read as what is told.
-/
import Derived.Test.YtfngaoicoecncaaGreatDoorR2
import Derived.Test.YtfngaoicoecncaaGreatDoorVd
import Derived.Test.YtfngaoicoecncaaGreatDoorTx
import Derived.Test.YtfngaoicoecncaaGreatDoorNi
import Derived.Test.YtfngaoicoecncaaGreatDoorP5
import Derived.Test.YtfngaoicoecncaaGreatDoorVr
namespace Go.Proofs.YtfngaoicoecncaaGreatDoor
open Go.RowKit

/-- What a tree is read as under a name. -/
def wrapT (lists : List ByteArray) (k : ByteArray) (t : T) : T := if hasS lists k = true ∧ t.kind ≠ 4 then listT [t] else t
def wrapL (lists : List ByteArray) (p : ByteArray × T) : ByteArray × T := (p.1, wrapT lists p.1 p.2)
theorem wrap_last (lists : List ByteArray) (ps : List (ByteArray × T)) (k : ByteArray) : lastOf (ps.map (wrapL lists)) k = (lastOf ps k).map (wrapT lists k) := lastOf_mapk (wrapT lists) ps k
theorem wrap_get {lists : List ByteArray} {l : List (ByteArray × T)} {j : Nat} {p : ByteArray × T} (h : l[j]? = some p) : (l.map (wrapL lists))[j]? = some (p.1, wrapT lists p.1 p.2) := by
  rw [List.getElem?_map, h]
  rfl
theorem kid_one {S : Nat → Prop} {w : World} {b : Nat} {e : El} {t : T} (hb : Box w b e.arr 26) (hS : S b) (ht : TreeAt S w e t) : KidsAt S w (some ⟨b, 0, none⟩) 1 1 [t] :=
  KidsAt.of rfl (Nat.le_refl _) (by simp [maxLen]) fun i u hi => by
    cases i with
    | zero =>
      simp at hi
      subst hi
      exact ⟨b, 0, e, rfl, hS, ⟨hb.cell 0 _ rfl, hb.cell 1 _ rfl, hb.cell 2 _ rfl, hb.cell 3 _ rfl, hb.cell 4 _ rfl, hb.cell 5 _ rfl⟩, ht⟩
    | succ i => simp at hi
set_option maxHeartbeats 8000000 in
theorem rbw_any {S : Nat → Prop} (kind : ByteArray) (qs : List (ByteArray × T)) (e : El) (la : Option Addr) (ln lc : Nat) (lists : List ByteArray) (w : World) (h : TreeAt S w e (mapT [(kind, mapT qs)])) (hl : StrsAt S w la ln lc lists)
    (hq : ∀ k t, lastOf qs k = some t → t.kind ≠ 0 ∧ (hasS lists k = true → t.kind = 4 → t.kids.length ≠ 0)) (hlen : qs.length ≤ 65536) :
    Calls Tryz.prog 65 #[.string kind, e.val, .slice la ln lc] w fun r w' => ∃ g : El, r = .returned g.val ∧ TreeAt (fun b => (S b ∧ b < w.heap.size) ∨ w.heap.size ≤ b) w' g (mapT [(kind, mapT (qs.map (wrapL lists)))]) ∧ Ext w w' := by
  have h := h.to (S' := fun b => S b ∧ b < w.heap.size) (fun b h1 h2 => ⟨h1, h2⟩)
  have hl := hl.keep (S' := fun b => S b ∧ b < w.heap.size) (fun b h1 h2 => ⟨h1, h2⟩) (fun _ _ _ => rfl)
  obtain ⟨l, hm, hR, hlo⟩ := mapT_told qs
  have hll : l.length ≤ 65536 := by have := (mapT_len qs).1; rw [hm] at this; unfold mapOf at this; simp [T.keys] at this; omega
  have hW := fun w' (x : Ext w w') => within_one kind qs e w' (h.ext x)
  have hH := fun s w' (x : Ext w w') => has_any la ln lc lists s w' (hl.ext x)
  have hx0 : Ext w ((w.alloc (.cells e.arr 26)).alloc (.cells (El.arr El0) 26)) := ext_alloc (ext_alloc (ext_refl _) _) _
  have hb6 : Box ((w.alloc (.cells e.arr 26)).alloc (.cells (El.arr El0) 26)) (w.heap.size + 1) (El.arr El0) 26 := Box.at (by simp) _ _
  have HW := Lib.hid hW
  have HH := Lib.hid hH
  have HQ := Lib.hid hq
  have HM := Lib.hid hm
  have HRI := Lib.hid hR
  have HLO := Lib.hid hlo
  have HLL := Lib.hid hll
  have HLEN := Lib.hid hlen
  clear h hl hm hR hlo hW hH hq hll hlen
  obtain ⟨ek, ex, ed, ey, eka, en, ekc, eca, em, ecc⟩ := e
  simp only [El.val] at HW ⊢
  go_enter Tryz.func65, Tryz.ntmps65
  go_upto_region 2 with (go_at_call 40; refine (HW.out _ hx0).mono ?_; rintro r w2 ⟨⟨gk, gx, gd, gy, gka, gn, gkc, gca, gm, gcc⟩, rfl, hT, hx⟩; simp only)
  have hx2 : Ext w2 (w2.alloc (.cells (El.arr ⟨gk, gx, gd, gy, gka, gn, gkc, gca, gm, gcc⟩) 26)) := ext_alloc (ext_refl _) _
  have hb7 : Box (w2.alloc (.cells (El.arr ⟨gk, gx, gd, gy, gka, gn, gkc, gca, gm, gcc⟩) 26)) w2.heap.size (El.arr ⟨gk, gx, gd, gy, gka, gn, gkc, gca, gm, gcc⟩) 26 := Box.at rfl _ _
  have hb6 := (hb6.ext hx).ext hx2
  have hb67 : w.heap.size + 1 < w2.heap.size := ((Box.at (w := w.alloc (.cells (El.arr ⟨ek, ex, ed, ey, eka, en, ekc, eca, em, ecc⟩) 26)) (b := w.heap.size + 1) (by simp) (El.arr El0) 26).ext hx).lt
  have hT3 := Lib.hid ((hT.to (S' := fun b => S b ∧ b < w.heap.size) (fun b h1 _ => h1.1)).ext hx2)
  have hx3 := ext_trans hx0 (ext_trans hx hx2)
  clear hT hx0 hx hx2
  generalize w2.alloc (.cells (El.arr ⟨gk, gx, gd, gy, gka, gn, gkc, gca, gm, gcc⟩) 26) = w3 at hb7 hb6 hT3 hx3 ⊢
  generalize w2.heap.size = b7 at hb7 hb67 ⊢
  have hb7l := hb7.lt
  have hMp := map_any (S := fun _ => False) none 0 0 [] w3 ⟨rfl, Nat.le_refl _, by simp [maxLen], fun _ _ h => by simp at h⟩ (by decide)
  go_upto_region 5 with (go_at_call 42; refine hMp.mono ?_; rintro r w4 ⟨⟨ok, ox, od, oy, oka, on, okc, oca, om, occ⟩, rfl, hT4, hx4⟩; simp only [El.val])
  have hx5 : Ext w4 (w4.alloc (.cells (El.arr ⟨ok, ox, od, oy, oka, on, okc, oca, om, occ⟩) 26)) := ext_alloc (ext_refl _) _
  have hb9 : Box (w4.alloc (.cells (El.arr ⟨ok, ox, od, oy, oka, on, okc, oca, om, occ⟩) 26)) w4.heap.size (El.arr ⟨ok, ox, od, oy, oka, on, okc, oca, om, occ⟩) 26 := Box.at rfl _ _
  have hb97 : b7 < w4.heap.size := (hb7.ext hx4).lt
  have hb7 := (hb7.ext hx4).ext hx5
  have hb6 := (hb6.ext hx4).ext hx5
  have hT5 := Lib.hid ((hT4.to (S' := fun b => (S b ∧ b < w.heap.size) ∨ (b7 < b ∧ b < w4.heap.size) ∨ w4.heap.size < b) (fun b h1 h2 => by
    rcases h1 with h1 | h1
    · exact h1.1.elim
    · exact .inr (.inl ⟨by omega, h2⟩))).ext hx5)
  have hTX := Lib.hid (hT3.out.ext (ext_trans hx4 hx5))
  have hx6 := ext_trans hx3 (ext_trans hx4 hx5)
  clear hT4 hT3 hx3 hx4 hx5 hMp hb7l
  generalize w4.alloc (.cells (El.arr ⟨ok, ox, od, oy, oka, on, okc, oca, om, occ⟩) 26) = w5 at hb9 hb7 hb6 hT5 hTX hx6 ⊢
  generalize w4.heap.size = b9 at hb9 hb97 hT5 ⊢
  have hTX0 := hTX.out
  rw [HM.out] at hTX0
  have hk5 := hTX0.parts.2.2.2.2.1
  have hk6 := hTX0.parts.2.2.2.2.2
  have hgn : l.length = gn := by have := hk5.1; unfold mapOf at this; simpa [T.keys] using this
  have hgm : l.length = gm := by have := hk6.1; unfold mapOf at this; simpa [T.kids] using this
  obtain rfl : gn = gm := hgn.symm.trans hgm
  have hkc := hk5.2.1
  have hkm := hk5.2.2.1
  have hcc := hk6.2.1
  have hcm := hk6.2.2.1
  unfold maxLen at hkm hcm
  have HN := Lib.hid hgn
  have H5 := Lib.hid hk5
  have H6 := Lib.hid hk6
  clear hTX0 hk5 hk6 hgn hgm
  go_wp2_with fail
  go_loopw [10] (fun i wr => Ext w wr ∧ Ext w5 w5 ∧ Box wr (w.heap.size + 1) (El.arr El0) 26 ∧ Box wr b7 (El.arr ⟨gk, gx, gd, gy, gka, gn, gkc, gca, gn, gcc⟩) 26 ∧ KidsAt (fun b => S b ∧ b < w.heap.size) wr gca gn gcc (mapOf l).kids ∧ StrsAt (fun b => S b ∧ b < w.heap.size) wr gka gn gkc (mapOf l).keys ∧
    ∃ (j : Nat) (eo : El), j ≤ gn ∧ i = .int .i64 j ∧ Box wr b9 eo.arr 26 ∧ TreeAt (fun b => (S b ∧ b < w.heap.size) ∨ (b7 < b ∧ b ≠ b9)) wr eo (mapT ((l.map (wrapL lists)).take j))) (fun i _ => gn - (intOf i).toNat)
  case atStart =>
    exact ⟨hx6, ext_refl _, hb6, hb7, H6.out, H5.out, 0, _, Nat.zero_le _, rfl, hb9, hT5.out.to fun b h1 _ => by
      rcases h1 with h1 | h1 | h1
      · exact .inl h1
      · exact .inr ⟨h1.1, by omega⟩
      · exact .inr ⟨by omega, by omega⟩⟩
  case round =>
    obtain ⟨hx, -, hb6, hb7, hKI, hKE, j, eo, hj, rfl, hb9, hTo⟩ := hrel
    obtain ⟨q0, q1, q2, q3, q4, q5⟩ := hb7.six
    have hTo := Lib.hid hTo
    have hb9l := hb9.lt
    by_cases hlt : j < gn
    · obtain ⟨p, hp⟩ := some_of_lt HN.out hlt
      obtain ⟨hp1, hp2⟩ := mapOf_keys l j p hp
      obtain ⟨b, off, rfl, hSb, hc⟩ := hKE.2.2.2 j p.1 hp1
      obtain ⟨b2, off2, g, rfl, hSb2, hc6, hTk⟩ := hKI.get hp2
      have hlast : lastOf qs p.1 = some p.2 := by rw [← HLO.out]; exact rising_lookup HRI.out hp
      obtain ⟨hk0, hk4⟩ := HQ.out p.1 p.2 hlast
      have hgk := hTk.parts.1
      have hgm := hTk.parts.2.2.2.2.2.1
      rw [← hgk] at hk0 hk4
      rw [hgm] at hk4
      have HP := Lib.hid hp
      have HTk := Lib.hid hTk
      have hKE := Lib.hid hKE
      have hKI := Lib.hid hKI
      clear hp hp1 hp2 hlast hgk hgm hTk
      obtain ⟨kk, kx, kd, ky, kka, kn, kkc, kca, km, kcc⟩ := g
      simp only at hk0 hk4
      have hx1 : Ext wr (wr.alloc (.cells (El.arr ⟨kk, kx, kd, ky, kka, kn, kkc, kca, km, kcc⟩) 26)) := ext_alloc (ext_refl _) _
      have hb11 : Box (wr.alloc (.cells (El.arr ⟨kk, kx, kd, ky, kka, kn, kkc, kca, km, kcc⟩) 26)) wr.heap.size (El.arr ⟨kk, kx, kd, ky, kka, kn, kkc, kca, km, kcc⟩) 26 := Box.at rfl _ _
      have hHs := HH.out p.1 _ (ext_trans hx hx1)
      have hblt : b < wr.heap.size := lt_of_cell hc
      go_upto_region 9 with fail
      have hb7 := hb7.ext hx1
      have hb6 := hb6.ext hx1
      have hb9 := hb9.ext hx1
      have hc := hx1.cell hc
      have hKE := Lib.hid (StrsAt.ext hx1 hKE.out)
      have hKI := Lib.hid (KidsAt.ext hx1 hKI.out)
      have hTN := Lib.hid (TreeAt.ext hx1 (hTo.out.to (S' := fun b => (S b ∧ b < w.heap.size) ∨ (b7 < b ∧ b ≠ b9 ∧ b ≠ wr.heap.size)) (fun b h hl => by
        rcases h with h | h
        · exact .inl h
        · exact .inr ⟨h.1, h.2, by omega⟩)))
      have hTo := Lib.hid (TreeAt.ext hx1 hTo.out)
      have HTk := Lib.hid (TreeAt.ext hx1 HTk.out)
      have hx := ext_trans hx hx1
      have hb11l := hb11.lt
      have hb119 : b9 < wr.heap.size := hb9l
      clear q0 q1 q2 q3 q4 q5 hx1 hb9l hblt hc6
      generalize wr.alloc (.cells (El.arr ⟨kk, kx, kd, ky, kka, kn, kkc, kca, km, kcc⟩) 26) = w6 at hb11 hb7 hb6 hb9 hc hKE hKI hTo hTN HTk hx hHs hb11l ⊢
      generalize wr.heap.size = b11 at hb11 hb119 hb11l hTN ⊢
      obtain ⟨q0, q1, q2, q3, q4, q5⟩ := hb7.six
      obtain ⟨m0, m1, m2, m3, m4, m5⟩ := hb11.six
      cases hk : hasS lists p.1 with
      | false =>
        have HPW := Lib.hid (show (l.map (wrapL lists))[j]? = some (p.1, p.2) by rw [wrap_get HP.out, wrapT, if_neg (by simp [hk])])
        rw [hk] at hHs
        clear hk4
        go_upto_region 12 with (go_at_call 25; refine hHs.mono ?_; rintro r w7 ⟨rfl, rfl⟩)
        have hS : Six w6.drew b9 eo ∧ Six w6.drew b7 ⟨gk, gx, gd, gy, some ⟨b, off, none⟩, gn, gkc, some ⟨b2, off2, none⟩, gn, gcc⟩ ∧ Six w6.drew b11 ⟨kk, kx, kd, ky, kka, kn, kkc, kca, km, kcc⟩ ∧ w6.drew.cell? ⟨b, off + j, none⟩ = some (.string p.1) := ⟨hb9.Six, hb7.Six, hb11.Six, hc⟩
        refine wp_region_order (fun w' => Six w' b9 eo ∧ Six w' b7 ⟨gk, gx, gd, gy, some ⟨b, off, none⟩, gn, gkc, some ⟨b2, off2, none⟩, gn, gcc⟩ ∧ Six w' b11 ⟨kk, kx, kd, ky, kka, kn, kkc, kca, km, kcc⟩ ∧ w'.cell? ⟨b, off + j, none⟩ = some (.string p.1)) [0, 1, 2, 3, 4, 5, 6] [0, 1, 2, 3, 4, 5, 6, 7, 8] (by kernel_rfl) (by kernel_rfl) (fun d _ _ _ _ h => by cases d <;> exact h) (by kernel_rfl) ?_
        iterate 7 (apply ord_held rfl rfl (by assumption) rfl; (focus ((intro w' hS'); go_simp; (try with_reducible rfl))); (try simp only [Act.put, List.setIfInBounds_toArray, List.set_cons_zero, List.set_cons_succ]))
        (apply ord_loud rfl rfl rfl; intro K hK; go_simp)
        have hlen := mapT_len ((l.map (wrapL lists)).take j)
        have hj2 : ((l.map (wrapL lists)).take j).length ≤ j := List.length_take_le _ _
        have hjl := HLL.out
        have hjn := HN.out
        refine (with_any (S := fun b => (S b ∧ b < w.heap.size) ∨ (b7 < b ∧ b ≠ b9)) eo (mapT ((l.map (wrapL lists)).take j)) p.1 ⟨kk, kx, kd, ky, kka, kn, kkc, kca, km, kcc⟩ p.2 _ (hTo.out.ext (ext_drew (ext_refl _))) ((HTk.out.to (fun b h1 _ => .inl h1)).ext (ext_drew (ext_refl _))) (by omega) (by omega) (by omega)).mono ?_
        rintro r w8 ⟨e2, rfl, hT2, hx2⟩
        have hx3 : Ext w6 w8 := ext_trans (ext_drew (ext_refl _)) hx2
        refine hK _ _ (fun _ => ⟨Six.ext hx2 hS.1, Six.ext hx2 hS.2.1, Six.ext hx2 hS.2.2.1, hx2.cell hS.2.2.2⟩) ?_
        clear hK K hS
        simp only [El.val]
        (try simp only [Act.put, List.setIfInBounds_toArray, List.set_cons_zero, List.set_cons_succ])
        have hb93 := hb9.ext hx3
        obtain ⟨z0, z1, z2, z3, z4, z5⟩ := hb93.six
        have f0 := hb93.free 0
        have f1 := hb93.free 1
        have f2 := hb93.free 2
        have f3 := hb93.free 3
        have f4 := hb93.free 4
        have f5 := hb93.free 5
        clear q0 q1 q2 q3 q4 q5 m0 m1 m2 m3 m4 m5
        (apply ord_last rfl rfl rfl (by kernel_rfl); intro K hK; go_simp; refine hK _ _ ?_; clear hK K; (try simp only [Act.put, List.setIfInBounds_toArray, List.set_cons_zero, List.set_cons_succ]))
        refine ord_end ?_
        have hxx := hx.sz
        have hN : ¬ ((fun b => (S b ∧ b < w.heap.size) ∨ (b7 < b ∧ b ≠ b9)) b9) := by simp; omega
        have hN2 : ¬ ((fun b => S b ∧ b < w.heap.size) b9) := fun h => by have := h.2; omega
        have hT3 := Lib.hid (TreeAt.keep (S' := fun b => (S b ∧ b < w.heap.size) ∨ (b7 < b ∧ b ≠ b9)) (fun _ h _ => h) (keeps_sto w8 hN e2) _ (hT2.to (fun q h _ => by
          rcases h with h | h
          · exact h
          · exact .inr ⟨by simp at h; omega, by simp at h; omega⟩)))
        have hKI2 := Lib.hid (KidsAt.keep (S' := fun b => S b ∧ b < w.heap.size) (fun _ h _ => h) (keeps_sto w8 hN2 e2) (KidsAt.ext hx3 hKI.out))
        have hKE2 := Lib.hid (StrsAt.keep (S' := fun b => S b ∧ b < w.heap.size) (fun _ h _ => h) (keeps_sto w8 hN2 e2) (StrsAt.ext hx3 hKE.out))
        clear hT2
        go_wp2_with fail
        go_roundw
        case rel => exact ⟨ext_sto6 (ext_trans hx hx3) (by omega) _ _ _ _ _ _, ext_refl _, (hb6.ext hx3).sto6' (by omega) _ _ _ _ _ _, (hb7.ext hx3).sto6' (by omega) _ _ _ _ _ _, hKI2.out, hKE2.out, j + 1, e2, by omega, by go_num, hb93.sto e2, by
          rw [show mapT ((l.map (wrapL lists)).take (j + 1)) = withT (mapT ((l.map (wrapL lists)).take j)) p.1 p.2 from foldl_snoc _ _ HPW.out]
          exact hT3.out⟩
        case measure => simp [intOf]; omega
      | true =>
        by_cases hke : kk = 4
        case pos =>
          obtain rfl := hke
          have hm0 := hk4 hk rfl
          have HPW := Lib.hid (show (l.map (wrapL lists))[j]? = some (p.1, p.2) by rw [wrap_get HP.out, wrapT, if_neg (by rw [← HTk.out.parts.1]; simp)])
          rw [hk] at hHs
          clear hk4
          go_upto_region 12 with (go_at_call 25; refine hHs.mono ?_; rintro r w7 ⟨rfl, rfl⟩)
          have hS : Six w6.drew b9 eo ∧ Six w6.drew b7 ⟨gk, gx, gd, gy, some ⟨b, off, none⟩, gn, gkc, some ⟨b2, off2, none⟩, gn, gcc⟩ ∧ Six w6.drew b11 ⟨4, kx, kd, ky, kka, kn, kkc, kca, km, kcc⟩ ∧ w6.drew.cell? ⟨b, off + j, none⟩ = some (.string p.1) := ⟨hb9.Six, hb7.Six, hb11.Six, hc⟩
          refine wp_region_order (fun w' => Six w' b9 eo ∧ Six w' b7 ⟨gk, gx, gd, gy, some ⟨b, off, none⟩, gn, gkc, some ⟨b2, off2, none⟩, gn, gcc⟩ ∧ Six w' b11 ⟨4, kx, kd, ky, kka, kn, kkc, kca, km, kcc⟩ ∧ w'.cell? ⟨b, off + j, none⟩ = some (.string p.1)) [0, 1, 2, 3, 4, 5, 6] [0, 1, 2, 3, 4, 5, 6, 7, 8] (by kernel_rfl) (by kernel_rfl) (fun d _ _ _ _ h => by cases d <;> exact h) (by kernel_rfl) ?_
          iterate 7 (apply ord_held rfl rfl (by assumption) rfl; (focus ((intro w' hS'); go_simp; (try with_reducible rfl))); (try simp only [Act.put, List.setIfInBounds_toArray, List.set_cons_zero, List.set_cons_succ]))
          (apply ord_loud rfl rfl rfl; intro K hK; go_simp)
          have hlen := mapT_len ((l.map (wrapL lists)).take j)
          have hj2 : ((l.map (wrapL lists)).take j).length ≤ j := List.length_take_le _ _
          have hjl := HLL.out
          have hjn := HN.out
          refine (with_any (S := fun b => (S b ∧ b < w.heap.size) ∨ (b7 < b ∧ b ≠ b9)) eo (mapT ((l.map (wrapL lists)).take j)) p.1 ⟨4, kx, kd, ky, kka, kn, kkc, kca, km, kcc⟩ p.2 _ (hTo.out.ext (ext_drew (ext_refl _))) ((HTk.out.to (fun b h1 _ => .inl h1)).ext (ext_drew (ext_refl _))) (by omega) (by omega) (by omega)).mono ?_
          rintro r w8 ⟨e2, rfl, hT2, hx2⟩
          have hx3 : Ext w6 w8 := ext_trans (ext_drew (ext_refl _)) hx2
          refine hK _ _ (fun _ => ⟨Six.ext hx2 hS.1, Six.ext hx2 hS.2.1, Six.ext hx2 hS.2.2.1, hx2.cell hS.2.2.2⟩) ?_
          clear hK K hS
          simp only [El.val]
          (try simp only [Act.put, List.setIfInBounds_toArray, List.set_cons_zero, List.set_cons_succ])
          have hb93 := hb9.ext hx3
          obtain ⟨z0, z1, z2, z3, z4, z5⟩ := hb93.six
          have f0 := hb93.free 0
          have f1 := hb93.free 1
          have f2 := hb93.free 2
          have f3 := hb93.free 3
          have f4 := hb93.free 4
          have f5 := hb93.free 5
          clear q0 q1 q2 q3 q4 q5 m0 m1 m2 m3 m4 m5
          (apply ord_last rfl rfl rfl (by kernel_rfl); intro K hK; go_simp; refine hK _ _ ?_; clear hK K; (try simp only [Act.put, List.setIfInBounds_toArray, List.set_cons_zero, List.set_cons_succ]))
          refine ord_end ?_
          have hxx := hx.sz
          have hN : ¬ ((fun b => (S b ∧ b < w.heap.size) ∨ (b7 < b ∧ b ≠ b9)) b9) := by simp; omega
          have hN2 : ¬ ((fun b => S b ∧ b < w.heap.size) b9) := fun h => by have := h.2; omega
          have hT3 := Lib.hid (TreeAt.keep (S' := fun b => (S b ∧ b < w.heap.size) ∨ (b7 < b ∧ b ≠ b9)) (fun _ h _ => h) (keeps_sto w8 hN e2) _ (hT2.to (fun q h _ => by
            rcases h with h | h
            · exact h
            · exact .inr ⟨by simp at h; omega, by simp at h; omega⟩)))
          have hKI2 := Lib.hid (KidsAt.keep (S' := fun b => S b ∧ b < w.heap.size) (fun _ h _ => h) (keeps_sto w8 hN2 e2) (KidsAt.ext hx3 hKI.out))
          have hKE2 := Lib.hid (StrsAt.keep (S' := fun b => S b ∧ b < w.heap.size) (fun _ h _ => h) (keeps_sto w8 hN2 e2) (StrsAt.ext hx3 hKE.out))
          clear hT2
          go_wp2_with fail
          go_roundw
          case rel => exact ⟨ext_sto6 (ext_trans hx hx3) (by omega) _ _ _ _ _ _, ext_refl _, (hb6.ext hx3).sto6' (by omega) _ _ _ _ _ _, (hb7.ext hx3).sto6' (by omega) _ _ _ _ _ _, hKI2.out, hKE2.out, j + 1, e2, by omega, by go_num, hb93.sto e2, by
            rw [show mapT ((l.map (wrapL lists)).take (j + 1)) = withT (mapT ((l.map (wrapL lists)).take j)) p.1 p.2 from foldl_snoc _ _ HPW.out]
            exact hT3.out⟩
          case measure => simp [intOf]; omega
        case neg =>
          have HPW := Lib.hid (show (l.map (wrapL lists))[j]? = some (p.1, listT [p.2]) by rw [wrap_get HP.out, wrapT, if_pos ⟨hk, by rw [← HTk.out.parts.1]; exact hke⟩])
          have hHq := Lib.hid fun w' (x : Ext w w') => HH.out p.1 w' x
          rw [hk] at hHs
          rw [hk] at hHq
          clear hk4
          have tokH := trivial
          have hk4n : (kk != 4) = true := by simpa using hke
          have hk0n : (kk != 0) = true := by simpa using hk0
          have hk0e : (kk == 0) = false := by simpa using hk0
          have hTo := Lib.hid hTN.out
          go_upto_region 11 with (first
            | (go_at_call 25; have _t := tokH; clear _t tokH; refine hHs.mono ?_; rintro r w7 ⟨rfl, rfl⟩)
            | (go_at_call 66; refine (list_exact _ 1 1 _).mono ?_; rintro r w8 ⟨rfl, hx8⟩; simp only [El.val]
               have hx9 : Ext w6 w8 := ext_trans (ext_alloc (ext_refl _) _) hx8
               have hb118 := hb11.ext hx9
               obtain ⟨m0, m1, m2, m3, m4, m5⟩ := hb118.six
               have f0 := hb118.free 0; have f1 := hb118.free 1; have f2 := hb118.free 2; have f3 := hb118.free 3; have f4 := hb118.free 4; have f5 := hb118.free 5)
            | fail)
          have hbs : Box (w6.alloc (.cells #[.int .i64 kk, .string kx, .float .f64 kd, .bool ky, .slice kka kn kkc, .slice kca km kcc] 26)) w6.heap.size (El.arr ⟨kk, kx, kd, ky, kka, kn, kkc, kca, km, kcc⟩) 26 := Box.at rfl _ _
          have hbsl : b11 < w6.heap.size := hb11.lt
          generalize w6.heap.size = bs at hbs hbsl ⊢
          have hbs8 := hbs.ext hx8
          have hbsl8 := hbs8.lt
          have hTk8 := TreeAt.ext hx9 HTk.out
          have hTo8 := TreeAt.ext hx9 hTo.out
          have hKE8 := StrsAt.ext hx9 hKE.out
          have hKI8 := KidsAt.ext hx9 hKI.out
          have hc8 := hx9.cell hc
          have hx68 := ext_trans hx hx9
          have hxx0 := hx.sz
          have hkp : Keeps (fun q => q ≠ b11) w8 (sto w8 b11 (⟨4, ⟨#[]⟩, 0, false, none, 0, 0, some ⟨bs, 0, none⟩, 1, 1⟩ : El)) := keeps_sto w8 (by simp) (⟨4, ⟨#[]⟩, 0, false, none, 0, 0, some ⟨bs, 0, none⟩, 1, 1⟩ : El)
          have hT11 : TreeAt (fun b => (S b ∧ b < w.heap.size) ∨ (b7 < b ∧ b ≠ b9 ∧ b ≠ b11)) w8 (⟨4, ⟨#[]⟩, 0, false, none, 0, 0, some ⟨bs, 0, none⟩, 1, 1⟩ : El) (listT [p.2]) := TreeAt.of rfl rfl rfl rfl (strs_none _) (kid_one hbs8 (.inr ⟨by omega, by omega, by omega⟩) (hTk8.to fun b hb _ => .inl hb))
          have hT12 := Lib.hid (TreeAt.keep (fun _ h _ => h) (fun q hq hl => hkp q (by rcases hq with hq | hq; exact (by have := hq.2; omega : q ≠ b11); exact hq.2.2) hl) _ hT11)
          have hTo2 := Lib.hid (TreeAt.keep (fun _ h _ => h) (fun q hq hl => hkp q (by rcases hq with hq | hq; exact (by have := hq.2; omega : q ≠ b11); exact hq.2.2) hl) _ hTo8)
          have hKE2 := Lib.hid (StrsAt.keep (fun _ h _ => h) (fun q hq hl => hkp q (by have := hq.2; omega) hl) hKE8)
          have hKI2 := Lib.hid (KidsAt.keep (fun _ h _ => h) (fun q hq hl => hkp q (by have := hq.2; omega) hl) hKI8)
          have hcn : (sto w8 b11 (⟨4, ⟨#[]⟩, 0, false, none, 0, 0, some ⟨bs, 0, none⟩, 1, 1⟩ : El)).cell? ⟨b, off + j, none⟩ = some (.string p.1) := hkp.cell (by show b ≠ b11; omega) hc8
          have hb7n := (hb7.ext hx9).sto6' (show b7 ≠ b11 by omega) (.int .i64 4) (.string ⟨#[]⟩) (.float .f64 0) (.bool false) (.slice none 0 0) (.slice (some ⟨bs, 0, none⟩) 1 1)
          have hb6n := (hb6.ext hx9).sto6' (show w.heap.size + 1 ≠ b11 by omega) (.int .i64 4) (.string ⟨#[]⟩) (.float .f64 0) (.bool false) (.slice none 0 0) (.slice (some ⟨bs, 0, none⟩) 1 1)
          have hb9n := (hb9.ext hx9).sto6' (show b9 ≠ b11 by omega) (.int .i64 4) (.string ⟨#[]⟩) (.float .f64 0) (.bool false) (.slice none 0 0) (.slice (some ⟨bs, 0, none⟩) 1 1)
          have hb11n := hb118.sto (⟨4, ⟨#[]⟩, 0, false, none, 0, 0, some ⟨bs, 0, none⟩, 1, 1⟩ : El)
          have hxn : Ext w (sto w8 b11 (⟨4, ⟨#[]⟩, 0, false, none, 0, 0, some ⟨bs, 0, none⟩, 1, 1⟩ : El)) := ext_sto6 hx68 (by omega) _ _ _ _ _ _
          clear hbs hbs8 hTk8 hTo8 hKE8 hKI8 hc8 hx68 hkp hT11 hb118 m0 m1 m2 m3 m4 m5 f0 f1 f2 f3 f4 f5 hTo hHs hKE hKI hb7 hb6 hb9 hb11 hc hx hx9 hx8 hTN hb11l hb119 q0 q1 q2 q3 q4 q5
          have hsw : (sto w8 b11 (⟨4, ⟨#[]⟩, 0, false, none, 0, 0, some ⟨bs, 0, none⟩, 1, 1⟩ : El)) = sto6 w8 b11 (.int .i64 4) (.string ⟨#[]⟩) (.float .f64 0) (.bool false) (.slice none 0 0) (.slice (some ⟨bs, 0, none⟩) 1 1) := rfl
          rw [hsw] at hT12 hTo2 hKE2 hKI2 hcn hb11n hxn
          unfold sto6 at hT12 hTo2 hKE2 hKI2 hcn hb7n hb6n hb9n hb11n hxn
          clear hsw
          generalize hWW : (((((w8.setCell ⟨b11, 0, none⟩ (.int .i64 4)).setCell ⟨b11, 1, none⟩ (.string ⟨#[]⟩)).setCell ⟨b11, 2, none⟩ (.float .f64 0)).setCell ⟨b11, 3, none⟩ (.bool false)).setCell ⟨b11, 4, none⟩ (.slice none 0 0)).setCell ⟨b11, 5, none⟩ (.slice (some ⟨bs, 0, none⟩) 1 1) = wn at hT12 hTo2 hKE2 hKI2 hcn hb7n hb6n hb9n hb11n hxn ⊢
          clear hWW
          have hb9 := hb9n
          have hb7 := hb7n
          have hb6 := hb6n
          have hb11 := hb11n
          have hc := hcn
          have hx := hxn
          clear hb9n hb7n hb6n hb11n hcn hxn
          obtain ⟨q0, q1, q2, q3, q4, q5⟩ := hb7.six
          obtain ⟨m0, m1, m2, m3, m4, m5⟩ := hb11.six
          have hblt : b < wn.heap.size := lt_of_cell hc
          have hl9 := hb9.lt
          have hl7 := hb7.lt
          have hHs := hHq.out _ hx
          go_upto_region 12 with (go_at_call 25; refine hHs.mono ?_; rintro r w7 ⟨rfl, rfl⟩)
          have hS : Six wn.drew b9 eo ∧ Six wn.drew b7 ⟨gk, gx, gd, gy, some ⟨b, off, none⟩, gn, gkc, some ⟨b2, off2, none⟩, gn, gcc⟩ ∧ Six wn.drew b11 ⟨4, ⟨#[]⟩, 0, false, none, 0, 0, some ⟨bs, 0, none⟩, 1, 1⟩ ∧ wn.drew.cell? ⟨b, off + j, none⟩ = some (.string p.1) := ⟨hb9.Six, hb7.Six, hb11.Six, hc⟩
          refine wp_region_order (fun w' => Six w' b9 eo ∧ Six w' b7 ⟨gk, gx, gd, gy, some ⟨b, off, none⟩, gn, gkc, some ⟨b2, off2, none⟩, gn, gcc⟩ ∧ Six w' b11 ⟨4, ⟨#[]⟩, 0, false, none, 0, 0, some ⟨bs, 0, none⟩, 1, 1⟩ ∧ w'.cell? ⟨b, off + j, none⟩ = some (.string p.1)) [0, 1, 2, 3, 4, 5, 6] [0, 1, 2, 3, 4, 5, 6, 7, 8] (by kernel_rfl) (by kernel_rfl) (fun d _ _ _ _ h => by cases d <;> exact h) (by kernel_rfl) ?_
          iterate 7 (apply ord_held rfl rfl (by assumption) rfl; (focus ((intro w' hS'); go_simp; (try with_reducible rfl))); (try simp only [Act.put, List.setIfInBounds_toArray, List.set_cons_zero, List.set_cons_succ]))
          (apply ord_loud rfl rfl rfl; intro K hK; go_simp)
          have hlen := mapT_len ((l.map (wrapL lists)).take j)
          have hj2 : ((l.map (wrapL lists)).take j).length ≤ j := List.length_take_le _ _
          have hjl := HLL.out
          have hjn := HN.out
          refine (with_any (S := fun b => (S b ∧ b < w.heap.size) ∨ (b7 < b ∧ b ≠ b9 ∧ b ≠ b11)) eo (mapT ((l.map (wrapL lists)).take j)) p.1 ⟨4, ⟨#[]⟩, 0, false, none, 0, 0, some ⟨bs, 0, none⟩, 1, 1⟩ (listT [p.2]) _ (hTo2.out.ext (ext_drew (ext_refl _))) (hT12.out.ext (ext_drew (ext_refl _))) (by omega) (by omega) (by omega)).mono ?_
          rintro r w8 ⟨e2, rfl, hT2, hx2⟩
          have hx3 : Ext wn w8 := ext_trans (ext_drew (ext_refl _)) hx2
          refine hK _ _ (fun _ => ⟨Six.ext hx2 hS.1, Six.ext hx2 hS.2.1, Six.ext hx2 hS.2.2.1, hx2.cell hS.2.2.2⟩) ?_
          clear hK K hS
          simp only [El.val]
          (try simp only [Act.put, List.setIfInBounds_toArray, List.set_cons_zero, List.set_cons_succ])
          have hb93 := hb9.ext hx3
          obtain ⟨z0, z1, z2, z3, z4, z5⟩ := hb93.six
          have f0 := hb93.free 0
          have f1 := hb93.free 1
          have f2 := hb93.free 2
          have f3 := hb93.free 3
          have f4 := hb93.free 4
          have f5 := hb93.free 5
          clear q0 q1 q2 q3 q4 q5 m0 m1 m2 m3 m4 m5
          (apply ord_last rfl rfl rfl (by kernel_rfl); intro K hK; go_simp; refine hK _ _ ?_; clear hK K; (try simp only [Act.put, List.setIfInBounds_toArray, List.set_cons_zero, List.set_cons_succ]))
          refine ord_end ?_
          have hxx := hx.sz
          have hN : ¬ ((fun b => (S b ∧ b < w.heap.size) ∨ (b7 < b ∧ b ≠ b9)) b9) := by simp; omega
          have hN2 : ¬ ((fun b => S b ∧ b < w.heap.size) b9) := fun h => by have := h.2; omega
          have hT3 := Lib.hid (TreeAt.keep (S' := fun b => (S b ∧ b < w.heap.size) ∨ (b7 < b ∧ b ≠ b9)) (fun _ h _ => h) (keeps_sto w8 hN e2) _ (hT2.to (fun q h _ => by
            rcases h with h | h
            · rcases h with h | h
              · exact .inl h
              · exact .inr ⟨h.1, h.2.1⟩
            · exact .inr ⟨by simp at h; omega, by simp at h; omega⟩)))
          have hKI2 := Lib.hid (KidsAt.keep (S' := fun b => S b ∧ b < w.heap.size) (fun _ h _ => h) (keeps_sto w8 hN2 e2) (KidsAt.ext hx3 hKI2.out))
          have hKE2 := Lib.hid (StrsAt.keep (S' := fun b => S b ∧ b < w.heap.size) (fun _ h _ => h) (keeps_sto w8 hN2 e2) (StrsAt.ext hx3 hKE2.out))
          clear hT2
          go_wp2_with fail
          go_roundw
          case rel => exact ⟨ext_sto6 (ext_trans hx hx3) (by omega) _ _ _ _ _ _, ext_refl _, (hb6.ext hx3).sto6' (by omega) _ _ _ _ _ _, (hb7.ext hx3).sto6' (by omega) _ _ _ _ _ _, hKI2.out, hKE2.out, j + 1, e2, by omega, by go_num, hb93.sto e2, by
            rw [show mapT ((l.map (wrapL lists)).take (j + 1)) = withT (mapT ((l.map (wrapL lists)).take j)) p.1 (listT [p.2]) from foldl_snoc _ _ HPW.out]
            exact hT3.out⟩
          case measure => simp [intOf]; omega
    · have hjn : j = gn := by omega
      have hfin : mapT ((l.map (wrapL lists)).take j) = mapT (qs.map (wrapL lists)) := by
        rw [List.take_of_length_le (by have := HN.out; rw [List.length_map]; omega)]
        exact mapT_congr fun k => by rw [wrap_last, wrap_last, HLO.out]
      rw [hfin] at hTo
      have hxx := hx.sz
      obtain ⟨eok, eox, eod, eoy, eoka, eon, eokc, eoca, eom, eocc⟩ := eo
      obtain ⟨z0, z1, z2, z3, z4, z5⟩ := hb9.six
      have hx1 : Ext wr (wr.alloc (.cells #[.string kind, .int .i64 eok, .string eox, .float .f64 eod, .bool eoy, .slice eoka eon eokc, .slice eoca eom eocc] 72)) := ext_alloc (ext_refl _) _
      have hbp : Box (wr.alloc (.cells #[.string kind, .int .i64 eok, .string eox, .float .f64 eod, .bool eoy, .slice eoka eon eokc, .slice eoca eom eocc] 72)) wr.heap.size _ _ := Box.at rfl _ _
      have hM := map_any (S := fun b => (S b ∧ b < w.heap.size) ∨ (b7 < b ∧ b ≠ b9)) (some ⟨wr.heap.size, 0, none⟩) 1 1 [(kind, mapT (qs.map (wrapL lists)))] _ (pairs_one (e := ⟨eok, eox, eod, eoy, eoka, eon, eokc, eoca, eom, eocc⟩) hbp (.inr ⟨by omega, by omega⟩) (hTo.out.ext hx1)) (by decide)
      go_wp2_with (go_at_call 42; refine hM.mono ?_; rintro r w8 ⟨e2, rfl, hT2, hx2⟩; simp only [El.val]; have hb66 := (hb6.ext hx1).ext hx2; obtain ⟨o0, o1, o2, o3, o4, o5⟩ := hb66.six; have f0 := hb66.free 0; have f1 := hb66.free 1; have f2 := hb66.free 2; have f3 := hb66.free 3; have f4 := hb66.free 4; have f5 := hb66.free 5)
      refine post_tree rfl rfl (hb66.sto e2) rfl ⟨e2, rfl, ?_, ext_sto6 (ext_trans hx (ext_trans hx1 hx2)) (by omega) _ _ _ _ _ _⟩
      have hT3 : TreeAt (fun b => (S b ∧ b < w.heap.size) ∨ b7 < b) w8 e2 (mapT [(kind, mapT (qs.map (wrapL lists)))]) := hT2.to fun q h1 _ => by
        rcases h1 with h | h
        · rcases h.1 with h | h
          · exact .inl h
          · exact .inr h.1
        · simp at h
          exact .inr (by omega)
      have hN : ¬ ((fun b => (S b ∧ b < w.heap.size) ∨ b7 < b) (w.heap.size + 1)) := by simp; omega
      exact TreeAt.keep (fun q h _ => by
        rcases h with h | h
        · exact .inl h
        · exact .inr (by omega)) (keeps_sto w8 hN e2) _ hT3
end Go.Proofs.YtfngaoicoecncaaGreatDoor

namespace Go.Proofs.YtfngaoicoecncaaGreatDoor
open Go.RowKit

theorem placesB_any (w : World) : Calls Tryz.prog 64 #[] w fun r w' => r = .returned (.slice (some ⟨w.heap.size, 0, none⟩) 4 4) ∧ w' = w.alloc (.cells #[.string s_must, .string s_must_not, .string s_should, .string s_filter] 9) := by
  go_enter Tryz.func64, Tryz.ntmps64
  go_wp2_with fail
  go_ret
  exact ⟨rfl, rfl⟩
theorem place_cell {w : World} {b : Nat} (h : Box w b #[.string s_must, .string s_must_not, .string s_should, .string s_filter] 9) {p : Nat} (hp : p < 4) : w.cell? ⟨b, p, none⟩ = some (.string (placeName (p : Int))) := by
  match p, hp with
  | 0, _ => exact h.cell 0 _ rfl
  | 1, _ => exact h.cell 1 _ rfl
  | 2, _ => exact h.cell 2 _ rfl
  | 3, _ => exact h.cell 3 _ rfl
/-- Names with trees to which one more is appended. -/
theorem pkn_snoc {w w' : World} {base g cap n : Nat} {v : Value} {es : List (ByteArray × El)} {ps : List (ByteArray × T)} {k : ByteArray} {e : El} {t : T} (hP : Pk (fun b => base ≤ b ∧ v.ownBlock ≠ some b) w es ps) (ht : TreeAt (fun b => base ≤ b ∧ v.ownBlock ≠ some b) w e t)
    (hg : w.grownBy w' v.ownBlock) (hl : Lies w v g) : Pk (fun b => base ≤ b ∧ (Value.slice (some ⟨g, 0, none⟩) n cap).ownBlock ≠ some b) w' (es ++ [(k, e)]) (ps ++ [(k, t)]) := by
  have hk : Keeps (fun b => base ≤ b ∧ v.ownBlock ≠ some b) w w' := keeps_grown hg (fun b hb e => hb.2 e.symm)
  have hS : ∀ b, (base ≤ b ∧ v.ownBlock ≠ some b) → b < w.heap.size → base ≤ b ∧ (Value.slice (some ⟨g, 0, none⟩) n cap).ownBlock ≠ some b := fun b hb hlt => by
    refine ⟨hb.1, fun e => ?_⟩
    simp only [Value.ownBlock, Option.some.injEq] at e
    rcases hl with hl | hl
    · exact hb.2 (by rw [hl, e])
    · omega
  exact Pk.append (hP.keep hS hk) (Pk.one (TreeAt.keep hS hk _ ht))
end Go.Proofs.YtfngaoicoecncaaGreatDoor

namespace Go.Proofs.YtfngaoicoecncaaGreatDoor
open Go.RowKit

/-- What a tree is read as. -/
def Reads (x y : T) : Prop := ∀ (S : Nat → Prop) (e : El) (w : World), TreeAt S w e x → Calls Tryz.prog 20 #[e.val] w fun r w' => ∃ g : El, r = .returned g.val ∧ TreeAt (fun b => (S b ∧ b < w.heap.size) ∨ w.heap.size ≤ b) w' g y ∧ Ext w w'
set_option maxRecDepth 20000 in
set_option maxHeartbeats 2000000 in
theorem reads_flat {x : T} (hx : x.kind ≠ 5) : Reads x x := by
  intro S e w h
  have hk := h.parts.1
  obtain ⟨ek, ex, ed, ey, eka, en, ekc, eca, em, ecc⟩ := e
  simp only at hk
  have hne : (ek != 5) = true := by rw [hk]; simpa using hx
  have HT := Lib.hid (h.to (S' := fun b => S b ∧ b < w.heap.size) (fun b h1 h2 => ⟨h1, h2⟩))
  clear h hk
  simp only [El.val]
  go_enter Tryz.func20, Tryz.ntmps20
  go_wp2_with fail
  refine post_tree rfl rfl (Box.at (by simp) _ _) rfl ⟨(⟨ek, ex, ed, ey, eka, en, ekc, eca, em, ecc⟩ : El), rfl, ?_, by (repeat (first | exact ext_refl _ | assumption | refine ext_alloc ?_ _ | refine ext_drew ?_ | refine ext_set ?_ (by simp) _ | refine ext_trans ?_ (by assumption)))⟩
  exact TreeAt.to (TreeAt.ext (by (repeat (first | exact ext_refl _ | assumption | refine ext_alloc ?_ _ | refine ext_drew ?_ | refine ext_set ?_ (by simp) _ | refine ext_trans ?_ (by assumption)))) HT.out) (fun b hb _ => .inl hb)
set_option maxRecDepth 20000 in
set_option maxHeartbeats 4000000 in
theorem reads_term (f v : ByteArray) (o : T) (hown : FieldOwn s_value o [(s_value, textT v)]) (hf1 : f ≠ s_name) (hf2 : f ≠ s_boost) (hfs : f.size ≤ 2147483647) : Reads (mapT [(s_term, mapT [(f, o)])]) (mapT [(s_term, mapT [(f, mapT [(s_value, textT v)])])]) := by
  intro S e w h
  have HH := Lib.hid h
  have hm := h
  rw [mapT_one] at hm
  unfold mapOf at hm
  obtain ⟨h1, -, -, -, h5, h6⟩ := hm.parts
  obtain ⟨ek, ex, ed, ey, eka, en, ekc, eca, em, ecc⟩ := e
  simp only at h1 h5 h6
  obtain rfl : ek = 5 := h1
  have hen : en = 1 := h5.1.symm
  have hem : em = 1 := h6.1.symm
  subst hen hem
  obtain ⟨kb, ko, rfl, hSk, hck⟩ := h5.2.2.2 0 _ rfl
  obtain ⟨xb, xo, ⟨gk, gx, gd, gy, gka, gn, gkc, gca, gm, gcc⟩, rfl, hSx, hcx, hTx⟩ := h6.get (j := 0) rfl
  have hck : w.cell? ⟨kb, ko, none⟩ = some (.string s_term) := by simpa using hck
  have hTx : TreeAt S w _ (mapT [(f, o)]) := hTx
  have hcx : CellsAt w xb xo (⟨gk, gx, gd, gy, gka, gn, gkc, gca, gm, gcc⟩ : El) := by simpa using hcx
  obtain rfl : gk = 5 := by have h9 := hTx.parts.1; rw [mapT_kind] at h9; exact h9
  have HTX := Lib.hid (hTx.to (S' := fun b => S b ∧ b < w.heap.size) (fun b h1 h2 => ⟨h1, h2⟩))
  clear h hm h5 h6 hTx hSk hSx
  simp only [El.val] at HH ⊢
  go_enter Tryz.func20, Tryz.ntmps20
  go_upto_region 3 with fail
  have hx0 : Ext w ((w.alloc (.cells #[.int .i64 5, .string ex, .float .f64 ed, .bool ey, .slice (some ⟨kb, ko, none⟩) 1 ekc, .slice (some ⟨xb, xo, none⟩) 1 ecc] 26)).alloc (.cells (El.arr El0) 26)) := ext_alloc (ext_alloc (ext_refl _) _) _
  have hb1 : Box ((w.alloc (.cells #[.int .i64 5, .string ex, .float .f64 ed, .bool ey, .slice (some ⟨kb, ko, none⟩) 1 ekc, .slice (some ⟨xb, xo, none⟩) 1 ecc] 26)).alloc (.cells (El.arr El0) 26)) w.heap.size ((⟨5, ex, ed, ey, some ⟨kb, ko, none⟩, 1, ekc, some ⟨xb, xo, none⟩, 1, ecc⟩ : El)).arr 26 := (Box.at rfl _ _).alloc _
  have hb2 : Box ((w.alloc (.cells #[.int .i64 5, .string ex, .float .f64 ed, .bool ey, .slice (some ⟨kb, ko, none⟩) 1 ekc, .slice (some ⟨xb, xo, none⟩) 1 ecc] 26)).alloc (.cells (El.arr El0) 26)) (w.heap.size + 1) (El.arr El0) 26 := Box.at (by simp) _ _
  have hsz0 : ((w.alloc (.cells #[.int .i64 5, .string ex, .float .f64 ed, .bool ey, .slice (some ⟨kb, ko, none⟩) 1 ekc, .slice (some ⟨xb, xo, none⟩) 1 ecc] 26)).alloc (.cells (El.arr El0) 26)).heap.size = w.heap.size + 2 := by simp
  generalize hWW : ((w.alloc (.cells #[.int .i64 5, .string ex, .float .f64 ed, .bool ey, .slice (some ⟨kb, ko, none⟩) 1 ekc, .slice (some ⟨xb, xo, none⟩) 1 ecc] 26)).alloc (.cells (#[.int .i64 0, .string ⟨#[]⟩, .float .f64 0, .bool false, .slice none 0 0, .slice none 0 0]) 26)) = w0
  have hWW2 : ((w.alloc (.cells #[.int .i64 5, .string ex, .float .f64 ed, .bool ey, .slice (some ⟨kb, ko, none⟩) 1 ekc, .slice (some ⟨xb, xo, none⟩) 1 ecc] 26)).alloc (.cells (El.arr El0) 26)) = w0 := hWW
  rw [hWW2] at hx0 hb1 hb2 hsz0
  clear hWW hWW2
  have hck0 := hx0.cell hck
  have hcx0 := CellsAt.ext hx0 hcx
  refine wp_region_order (fun (w' : World) => Six w' w.heap.size (⟨5, ex, ed, ey, some ⟨kb, ko, none⟩, 1, ekc, some ⟨xb, xo, none⟩, 1, ecc⟩ : El) ∧ w'.cell? ⟨kb, ko, none⟩ = some (.string s_term) ∧ CellsAt w' xb xo (⟨5, gx, gd, gy, gka, gn, gkc, gca, gm, gcc⟩ : El)) [0, 1, 2, 3, 4, 5, 6, 7, 9] [0, 1, 2, 3, 4, 5, 6, 7, 8, 9, 10] (by kernel_rfl) (by kernel_rfl) (fun d _ _ _ _ h => by cases d <;> exact h) (by kernel_rfl) ?_
  have hS : (fun (w' : World) => Six w' w.heap.size (⟨5, ex, ed, ey, some ⟨kb, ko, none⟩, 1, ekc, some ⟨xb, xo, none⟩, 1, ecc⟩ : El) ∧ w'.cell? ⟨kb, ko, none⟩ = some (.string s_term) ∧ CellsAt w' xb xo (⟨5, gx, gd, gy, gka, gn, gkc, gca, gm, gcc⟩ : El)) w0.drew := ⟨hb1.Six, hck0, hcx0⟩
  iterate 8 (apply ord_held rfl rfl (by assumption) rfl; (focus ((intro w' hS'); go_simp; (try with_reducible rfl))); (try simp only [Act.put, List.setIfInBounds_toArray, List.set_cons_zero, List.set_cons_succ]))
  (apply ord_loud rfl rfl rfl; intro K hK; go_simp)
  have x1 : Ext w0 (w0.alloc (.cells (El.arr El0) 26)).drew := ext_drew (ext_alloc (ext_refl _) _)
  have hS1 : (fun (w' : World) => Six w' w.heap.size (⟨5, ex, ed, ey, some ⟨kb, ko, none⟩, 1, ekc, some ⟨xb, xo, none⟩, 1, ecc⟩ : El) ∧ w'.cell? ⟨kb, ko, none⟩ = some (.string s_term) ∧ CellsAt w' xb xo (⟨5, gx, gd, gy, gka, gn, gkc, gca, gm, gcc⟩ : El)) (w0.alloc (.cells (El.arr El0) 26)).drew := ⟨(hb1.ext x1).Six, x1.cell hck0, CellsAt.ext x1 hcx0⟩
  refine hK _ _ (fun _ => hS1) ?_
  clear hK K
  (try simp only [Act.put, List.setIfInBounds_toArray, List.set_cons_zero, List.set_cons_succ])
  (apply ord_held rfl rfl (by assumption) rfl; (focus ((intro w' hS'); go_simp; (try with_reducible rfl))); (try simp only [Act.put, List.setIfInBounds_toArray, List.set_cons_zero, List.set_cons_succ]))
  (apply ord_last rfl rfl rfl (by kernel_rfl); intro K hK; go_simp; refine hK _ _ ?_; clear hK K; (try simp only [Act.put, List.setIfInBounds_toArray, List.set_cons_zero, List.set_cons_succ]))
  refine ord_end ?_
  have x4 : Ext w0 (w0.alloc (.cells ((⟨5, gx, gd, gy, gka, gn, gkc, gca, gm, gcc⟩ : El)).arr 26)).drew := ext_drew (ext_alloc (ext_refl _) _)
  have hb4 : Box (w0.alloc (.cells ((⟨5, gx, gd, gy, gka, gn, gkc, gca, gm, gcc⟩ : El)).arr 26)).drew (w.heap.size + 2) ((⟨5, gx, gd, gy, gka, gn, gkc, gca, gm, gcc⟩ : El)).arr 26 := (Box.at hsz0 _ _).drew
  have hb1 := hb1.ext x4
  have hb2 := hb2.ext x4
  have hxw4 := ext_trans hx0 x4
  generalize hWW : (w0.alloc (.cells #[.int .i64 5, .string gx, .float .f64 gd, .bool gy, .slice gka gn gkc, .slice gca gm gcc] 26)).drew = w4
  have hWW2 : (w0.alloc (.cells ((⟨5, gx, gd, gy, gka, gn, gkc, gca, gm, gcc⟩ : El)).arr 26)).drew = w4 := hWW
  rw [hWW2] at hb4 hb1 hb2 hxw4
  clear hWW hWW2 x4 x1 hS hS1 hck0 hcx0 hx0 hsz0
  obtain ⟨s0, s1, s2, s3, s4, s5⟩ := hb4.six
  have hb4l := hb4.lt
  have hpx := HTX.out
  rw [mapT_one] at hpx
  unfold mapOf at hpx
  obtain ⟨-, -, -, -, h5, -⟩ := hpx.parts
  simp only at h5
  have hgn : gn = 1 := h5.1.symm
  subst hgn
  obtain ⟨fb, fo, rfl, -, hcf⟩ := h5.2.2.2 0 _ rfl
  have hcf : w.cell? ⟨fb, fo, none⟩ = some (.string f) := by simpa using hcf
  have hcf4 := hxw4.cell hcf
  have hRV := Lib.hid fun w' (x : Ext w w') => readValued_moreF (S := fun b => S b ∧ b < w.heap.size) (fun s => s) s_term f s_value s_term o [(s_value, textT v)] [] (⟨5, ex, ed, ey, some ⟨kb, ko, none⟩, 1, ekc, some ⟨xb, xo, none⟩, 1, ecc⟩ : El) w' (TreeAt.ext x (HH.out.to (fun b h1 h2 => ⟨h1, h2⟩))) hown (by rw [lastOf_cons]; simp [lastOf_nil, seq_false.2 (show s_value ≠ s_term by decide)]) hf1 hf2 (fun p hp => by simp at hp) (by decide) hfs (fun p hp => by simp at hp; subst hp; exact ⟨by dsimp only; decide, okF_id (by simp [textT, T.kind])⟩) (by simp) (fun s hs => (readV_no s_term f (ps := [(s_value, textT v)] ++ []) (fun p hp => by simp at hp; subst hp; exact ⟨by dsimp only; rw [opKey_eq]; decide, by simp [textT, T.kind]⟩) s hs).elim)
  have hRE : readV (fun s => s) s_term f ([(s_value, textT v)] ++ []) = mapT [(s_term, mapT [(f, mapT [(s_value, textT v)])])] := by
    rw [readV_eq, List.append_nil, foldP_flat]
    exact fun p hp => by simp at hp; subst hp; exact ⟨by dsimp only; rw [opKey_eq]; decide, by simp [textT, T.kind]⟩
  rw [hRE] at hRV
  clear hpx h5 hRE hcf
  go_upto_region 7 with fail
  refine wp_region_order (fun (w' : World) => w'.cell? ⟨w.heap.size + 2, 4, none⟩ = some (.slice (some ⟨fb, fo, none⟩) 1 gkc) ∧ w'.cell? ⟨fb, fo, none⟩ = some (.string f) ∧ Six w' w.heap.size (⟨5, ex, ed, ey, some ⟨kb, ko, none⟩, 1, ekc, some ⟨xb, xo, none⟩, 1, ecc⟩ : El)) [0, 1, 2, 3, 4] [0, 1, 2, 3, 4, 5, 6] (by kernel_rfl) (by kernel_rfl) (fun d _ _ _ _ h => by cases d <;> exact h) (by kernel_rfl) ?_
  have hS : (fun (w' : World) => w'.cell? ⟨w.heap.size + 2, 4, none⟩ = some (.slice (some ⟨fb, fo, none⟩) 1 gkc) ∧ w'.cell? ⟨fb, fo, none⟩ = some (.string f) ∧ Six w' w.heap.size (⟨5, ex, ed, ey, some ⟨kb, ko, none⟩, 1, ekc, some ⟨xb, xo, none⟩, 1, ecc⟩ : El)) w4.drew := ⟨s4, hcf4, hb1.Six⟩
  iterate 5 (apply ord_held rfl rfl (by assumption) rfl; (focus ((intro w' hS'); go_simp; (try with_reducible rfl))); (try simp only [Act.put, List.setIfInBounds_toArray, List.set_cons_zero, List.set_cons_succ]))
  (apply ord_loud rfl rfl rfl; intro K hK; go_simp)
  refine (hRV.out _ (ext_drew hxw4)).mono ?_
  rintro r w5 ⟨g2, rfl, hT5, hx5⟩
  have x5 : Ext w4 w5 := ext_trans (ext_drew (ext_refl _)) hx5
  have hS5 : (fun (w' : World) => w'.cell? ⟨w.heap.size + 2, 4, none⟩ = some (.slice (some ⟨fb, fo, none⟩) 1 gkc) ∧ w'.cell? ⟨fb, fo, none⟩ = some (.string f) ∧ Six w' w.heap.size (⟨5, ex, ed, ey, some ⟨kb, ko, none⟩, 1, ekc, some ⟨xb, xo, none⟩, 1, ecc⟩ : El)) w5 := ⟨x5.cell s4, x5.cell hcf4, (hb1.ext x5).Six⟩
  refine hK _ _ (fun _ => hS5) ?_
  clear hK K
  try simp only [El.val]
  (try simp only [Act.put, List.setIfInBounds_toArray, List.set_cons_zero, List.set_cons_succ])
  have hb25 := hb2.ext x5
  obtain ⟨o0, o1, o2, o3, o4, o5⟩ := hb25.six
  have f0 := hb25.free 0; have f1 := hb25.free 1; have f2 := hb25.free 2; have f3 := hb25.free 3; have f4 := hb25.free 4; have f5 := hb25.free 5
  have hxw5 := ext_trans hxw4 x5
  have hs45 := hxw4.sz
  (apply ord_last rfl rfl rfl (by kernel_rfl); intro K hK; go_simp; refine hK _ _ ?_; clear hK K; (try simp only [Act.put, List.setIfInBounds_toArray, List.set_cons_zero, List.set_cons_succ]))
  refine ord_end ?_
  go_wp2_with fail
  refine post_tree rfl rfl (hb25.sto g2) rfl ⟨g2, rfl, ?_, ext_sto6 hxw5 (by omega) _ _ _ _ _ _⟩
  have hs4d : w.heap.size + 2 ≤ w4.heap.size := by omega
  refine TreeAt.keep (S := fun b => (S b ∧ b < w.heap.size) ∨ w.heap.size + 2 ≤ b) (fun b hb _ => ?_) (keeps_sto w5 (by omega) g2) _ (hT5.to fun q hq _ => ?_)
  · rcases hb with hb | hb
    · exact .inl hb
    · exact .inr (by omega)
  · rcases hq with hq | hq
    · exact .inl hq.1
    · exact .inr (Nat.le_trans hs4d hq)
/-- Trees under a list that grows: some of them lie where they lay. -/
def KinO (P : Nat → Prop) (w : World) (base : Nat) (v : Value) (es : List El) (ts : List T) : Prop := ts.length = es.length ∧ ∀ (i : Nat) (e : El) (t : T), es[i]? = some e → ts[i]? = some t → TreeAt (fun b => P b ∨ (base ≤ b ∧ v.ownBlock ≠ some b)) w e t
theorem KinO.nil (P : Nat → Prop) (w : World) (base : Nat) (v : Value) : KinO P w base v [] [] := ⟨rfl, fun _ _ _ h => by simp at h⟩
theorem KinO.ext {P : Nat → Prop} {w w' : World} {base : Nat} {v : Value} {es : List El} {ts : List T} (h : KinO P w base v es ts) (x : Ext w w') : KinO P w' base v es ts := ⟨h.1, fun i e t h1 h2 => (h.2 i e t h1 h2).ext x⟩
theorem KinO.step {P : Nat → Prop} {w w1 : World} {base bo g : Nat} {v : Value} {es : List El} {ts : List T} (h : KinO P w base v es ts) {e : El} {t : T} (ht : TreeAt (fun b => P b ∨ (base ≤ b ∧ v.ownBlock ≠ some b)) w e t)
    (hP : ∀ b, P b → b < bo) (hv : ∀ b, v.ownBlock = some b → base ≤ b) (hg : w.grownBy w1 v.ownBlock) (hl : Lies w v g) (hbo : bo < base) (i : Nat) (u : Value) (n cap : Nat) : KinO P (w1.setCell ⟨bo, i, none⟩ u) base (.slice (some ⟨g, 0, none⟩) n cap) (es ++ [e]) (ts ++ [t]) := by
  have hk : Keeps (fun b => P b ∨ (base ≤ b ∧ v.ownBlock ≠ some b)) w (w1.setCell ⟨bo, i, none⟩ u) := fun b hs hb =>
    (Below.heap_setCell _ _ _ _ (by
      show b ≠ bo
      rcases hs with hs | hs
      · have := hP b hs; omega
      · have := hs.1; omega)).trans (hg.block b hb (fun e => by
      rcases hs with hs | hs
      · have h1 := hP b hs
        have h2 := hv b e.symm
        omega
      · exact hs.2 e.symm))
  have hS : ∀ b, (P b ∨ (base ≤ b ∧ v.ownBlock ≠ some b)) → b < w.heap.size → P b ∨ (base ≤ b ∧ (Value.slice (some ⟨g, 0, none⟩) n cap).ownBlock ≠ some b) := fun b hb hlt => by
    rcases hb with hb | hb
    · exact .inl hb
    refine .inr ⟨hb.1, fun e => ?_⟩
    simp only [Value.ownBlock, Option.some.injEq] at e
    rcases hl with hl | hl
    · exact hb.2 (by rw [hl, e])
    · omega
  refine ⟨by simp [h.1], fun j e' t' h1 h2 => ?_⟩
  by_cases hj : j < es.length
  · rw [List.getElem?_append_left hj] at h1
    rw [List.getElem?_append_left (by rw [h.1]; exact hj)] at h2
    exact TreeAt.keep hS hk _ (h.2 j e' t' h1 h2)
  · have hjl := (List.getElem?_eq_some_iff.1 h1).1
    simp only [List.length_append, List.length_cons, List.length_nil] at hjl
    obtain rfl : j = es.length := by omega
    rw [List.getElem?_append_right (Nat.le_refl _)] at h1
    rw [List.getElem?_append_right (by rw [h.1]; exact Nat.le_refl _), h.1] at h2
    simp at h1 h2
    subst h1 h2
    exact TreeAt.keep hS hk _ ht
theorem Making.klen2 {w : World} {base bo : Nat} {kind : Int} {ss : List ByteArray} {es : List El} {ka : Option Addr} {kn kc : Nat} {ca : Option Addr} {cn cc : Nat} (h : Making w base bo kind ss es ka kn kc ca cn cc) : cn = es.length := by
  obtain ⟨h1, h2⟩ := h.kids
  rcases h2 with ⟨e, h0⟩ | ⟨g, cap, cur, e, -⟩
  · cases e; exact h0.symm
  · cases e; rfl
/-- What stands under a name, read. -/
def RD (t y : T) : Prop := (t.kind = 4 ∧ t.kids.length ≤ 1048576 ∧ ∃ ys, y = listT ys ∧ ys.length = t.kids.length ∧ ∀ (i : Nat) (x z : T), t.kids[i]? = some x → ys[i]? = some z → Reads x z) ∨ (t.kind ≠ 4 ∧ Reads t y)
theorem strs_four {S : Nat → Prop} {w : World} {b : Nat} {x1 x2 x3 x4 : ByteArray} (h : Box w b #[.string x1, .string x2, .string x3, .string x4] 9) (hS : S b) : StrsAt S w (some ⟨b, 0, none⟩) 4 4 [x1, x2, x3, x4] :=
  ⟨rfl, Nat.le_refl _, by simp [maxLen], fun i s hi => by
    match i with
    | 0 => simp at hi; subst hi; exact ⟨b, 0, rfl, hS, h.cell 0 _ rfl⟩
    | 1 => simp at hi; subst hi; exact ⟨b, 0, rfl, hS, h.cell 1 _ rfl⟩
    | 2 => simp at hi; subst hi; exact ⟨b, 0, rfl, hS, h.cell 2 _ rfl⟩
    | 3 => simp at hi; subst hi; exact ⟨b, 0, rfl, hS, h.cell 3 _ rfl⟩
    | i + 4 => simp at hi⟩
theorem strs_just {S : Nat → Prop} {w : World} {b : Nat} {x : ByteArray} (h : Box w b #[.string x] 9) (hS : S b) : StrsAt S w (some ⟨b, 0, none⟩) 1 1 [x] :=
  ⟨rfl, Nat.le_refl _, by simp [maxLen], fun i s hi => by
    match i with
    | 0 => simp at hi; subst hi; exact ⟨b, 0, rfl, hS, h.cell 0 _ rfl⟩
    | i + 1 => simp at hi⟩
theorem lastOf_one {α : Type} (k : ByteArray) (v : α) : lastOf [(k, v)] k = some v := by
  rw [lastOf_cons]
  simp [lastOf_nil, seq_self]
set_option maxRecDepth 20000 in
set_option maxHeartbeats 16000000 in
theorem reads_bool (qs : List (ByteArray × T)) (y : ByteArray → T) (hq : ∀ k t, lastOf qs k = some t → t.kind ≠ 0 ∧ (hasS [s_must, s_must_not, s_should, s_filter] k = true → t.kind = 4 → t.kids.length ≠ 0)) (hlen : qs.length ≤ 65536) (hR : ∀ k t, lastOf qs k = some t → RD (wrapT [s_must, s_must_not, s_should, s_filter] k t) (y k)) : Reads (mapT [(s_bool, mapT qs)]) (mapT [(s_bool, mapT (qs.map fun p => (p.1, y p.1)))]) := by
  obtain ⟨l, hm, hRi, hlo⟩ := mapT_told (qs.map (wrapL [s_must, s_must_not, s_should, s_filter]))
  have hll : l.length ≤ 65536 := by
    have := (mapT_len (qs.map (wrapL [s_must, s_must_not, s_should, s_filter]))).1
    rw [hm] at this
    unfold mapOf at this
    simp [T.keys] at this
    omega
  have hms : mapT (qs.map fun p => (p.1, y p.1)) = mapT (l.map fun p => (p.1, y p.1)) := mapT_congr fun k => by
    rw [show lastOf (qs.map fun p => (p.1, y p.1)) k = (lastOf qs k).map (fun _ => y k) from lastOf_mapk (fun k _ => y k) qs k, show lastOf (l.map fun p => (p.1, y p.1)) k = (lastOf l k).map (fun _ => y k) from lastOf_mapk (fun k _ => y k) l k, hlo, wrap_last]
    cases lastOf qs k <;> rfl
  rw [hms]
  have HRD := Lib.hid (show ∀ k t, lastOf l k = some t → RD t (y k) from fun k t h => by
    rw [hlo, wrap_last] at h
    obtain ⟨t0, h0, rfl⟩ := Option.map_eq_some_iff.1 h
    exact hR k t0 h0)
  have HM := Lib.hid hm
  have HRI := Lib.hid hRi
  have HLL := Lib.hid hll
  clear hm hRi hlo hll hms hR
  intro S e w h
  have HH := Lib.hid h
  have hm := h
  rw [mapT_one] at hm
  unfold mapOf at hm
  obtain ⟨h1, -, -, -, h5, h6⟩ := hm.parts
  obtain ⟨ek, ex, ed, ey, eka, en, ekc, eca, em, ecc⟩ := e
  simp only at h1 h5 h6
  obtain rfl : ek = 5 := h1
  have hen : en = 1 := h5.1.symm
  have hem : em = 1 := h6.1.symm
  subst hen hem
  obtain ⟨kb, ko, rfl, hSk, hck⟩ := h5.2.2.2 0 _ rfl
  obtain ⟨xb, xo, ⟨gk, gx, gd, gy, gka, gn, gkc, gca, gm, gcc⟩, rfl, hSx, hcx, hTx⟩ := h6.get (j := 0) rfl
  have hck : w.cell? ⟨kb, ko, none⟩ = some (.string s_bool) := by simpa using hck
  have hTx : TreeAt S w _ (mapT qs) := hTx
  have hcx : CellsAt w xb xo (⟨gk, gx, gd, gy, gka, gn, gkc, gca, gm, gcc⟩ : El) := by simpa using hcx
  obtain rfl : gk = 5 := by have h9 := hTx.parts.1; rw [mapT_kind] at h9; exact h9
  have HTX := Lib.hid (hTx.to (S' := fun b => S b ∧ b < w.heap.size) (fun b h1 h2 => ⟨h1, h2⟩))
  clear h hm h5 h6 hTx hSk hSx
  simp only [El.val] at HH ⊢
  go_enter Tryz.func20, Tryz.ntmps20
  go_upto_region 3 with fail
  have hx0 : Ext w ((w.alloc (.cells #[.int .i64 5, .string ex, .float .f64 ed, .bool ey, .slice (some ⟨kb, ko, none⟩) 1 ekc, .slice (some ⟨xb, xo, none⟩) 1 ecc] 26)).alloc (.cells (El.arr El0) 26)) := ext_alloc (ext_alloc (ext_refl _) _) _
  have hb1 : Box ((w.alloc (.cells #[.int .i64 5, .string ex, .float .f64 ed, .bool ey, .slice (some ⟨kb, ko, none⟩) 1 ekc, .slice (some ⟨xb, xo, none⟩) 1 ecc] 26)).alloc (.cells (El.arr El0) 26)) w.heap.size ((⟨5, ex, ed, ey, some ⟨kb, ko, none⟩, 1, ekc, some ⟨xb, xo, none⟩, 1, ecc⟩ : El)).arr 26 := (Box.at rfl _ _).alloc _
  have hb2 : Box ((w.alloc (.cells #[.int .i64 5, .string ex, .float .f64 ed, .bool ey, .slice (some ⟨kb, ko, none⟩) 1 ekc, .slice (some ⟨xb, xo, none⟩) 1 ecc] 26)).alloc (.cells (El.arr El0) 26)) (w.heap.size + 1) (El.arr El0) 26 := Box.at (by simp) _ _
  have hsz0 : ((w.alloc (.cells #[.int .i64 5, .string ex, .float .f64 ed, .bool ey, .slice (some ⟨kb, ko, none⟩) 1 ekc, .slice (some ⟨xb, xo, none⟩) 1 ecc] 26)).alloc (.cells (El.arr El0) 26)).heap.size = w.heap.size + 2 := by simp
  generalize hWW : ((w.alloc (.cells #[.int .i64 5, .string ex, .float .f64 ed, .bool ey, .slice (some ⟨kb, ko, none⟩) 1 ekc, .slice (some ⟨xb, xo, none⟩) 1 ecc] 26)).alloc (.cells (#[.int .i64 0, .string ⟨#[]⟩, .float .f64 0, .bool false, .slice none 0 0, .slice none 0 0]) 26)) = w0
  have hWW2 : ((w.alloc (.cells #[.int .i64 5, .string ex, .float .f64 ed, .bool ey, .slice (some ⟨kb, ko, none⟩) 1 ekc, .slice (some ⟨xb, xo, none⟩) 1 ecc] 26)).alloc (.cells (El.arr El0) 26)) = w0 := hWW
  rw [hWW2] at hx0 hb1 hb2 hsz0
  clear hWW hWW2
  have hck0 := hx0.cell hck
  have hcx0 := CellsAt.ext hx0 hcx
  refine wp_region_order (fun (w' : World) => Six w' w.heap.size (⟨5, ex, ed, ey, some ⟨kb, ko, none⟩, 1, ekc, some ⟨xb, xo, none⟩, 1, ecc⟩ : El) ∧ w'.cell? ⟨kb, ko, none⟩ = some (.string s_bool) ∧ CellsAt w' xb xo (⟨5, gx, gd, gy, gka, gn, gkc, gca, gm, gcc⟩ : El)) [0, 1, 2, 3, 4, 5, 6, 7, 9] [0, 1, 2, 3, 4, 5, 6, 7, 8, 9, 10] (by kernel_rfl) (by kernel_rfl) (fun d _ _ _ _ h => by cases d <;> exact h) (by kernel_rfl) ?_
  have hS : (fun (w' : World) => Six w' w.heap.size (⟨5, ex, ed, ey, some ⟨kb, ko, none⟩, 1, ekc, some ⟨xb, xo, none⟩, 1, ecc⟩ : El) ∧ w'.cell? ⟨kb, ko, none⟩ = some (.string s_bool) ∧ CellsAt w' xb xo (⟨5, gx, gd, gy, gka, gn, gkc, gca, gm, gcc⟩ : El)) w0.drew := ⟨hb1.Six, hck0, hcx0⟩
  iterate 8 (apply ord_held rfl rfl (by assumption) rfl; (focus ((intro w' hS'); go_simp; (try with_reducible rfl))); (try simp only [Act.put, List.setIfInBounds_toArray, List.set_cons_zero, List.set_cons_succ]))
  (apply ord_loud rfl rfl rfl; intro K hK; go_simp)
  have x1 : Ext w0 (w0.alloc (.cells (El.arr El0) 26)).drew := ext_drew (ext_alloc (ext_refl _) _)
  have hS1 : (fun (w' : World) => Six w' w.heap.size (⟨5, ex, ed, ey, some ⟨kb, ko, none⟩, 1, ekc, some ⟨xb, xo, none⟩, 1, ecc⟩ : El) ∧ w'.cell? ⟨kb, ko, none⟩ = some (.string s_bool) ∧ CellsAt w' xb xo (⟨5, gx, gd, gy, gka, gn, gkc, gca, gm, gcc⟩ : El)) (w0.alloc (.cells (El.arr El0) 26)).drew := ⟨(hb1.ext x1).Six, x1.cell hck0, CellsAt.ext x1 hcx0⟩
  refine hK _ _ (fun _ => hS1) ?_
  clear hK K
  (try simp only [Act.put, List.setIfInBounds_toArray, List.set_cons_zero, List.set_cons_succ])
  (apply ord_held rfl rfl (by assumption) rfl; (focus ((intro w' hS'); go_simp; (try with_reducible rfl))); (try simp only [Act.put, List.setIfInBounds_toArray, List.set_cons_zero, List.set_cons_succ]))
  (apply ord_last rfl rfl rfl (by kernel_rfl); intro K hK; go_simp; refine hK _ _ ?_; clear hK K; (try simp only [Act.put, List.setIfInBounds_toArray, List.set_cons_zero, List.set_cons_succ]))
  refine ord_end ?_
  have x4 : Ext w0 (w0.alloc (.cells ((⟨5, gx, gd, gy, gka, gn, gkc, gca, gm, gcc⟩ : El)).arr 26)).drew := ext_drew (ext_alloc (ext_refl _) _)
  have hb4 : Box (w0.alloc (.cells ((⟨5, gx, gd, gy, gka, gn, gkc, gca, gm, gcc⟩ : El)).arr 26)).drew (w.heap.size + 2) ((⟨5, gx, gd, gy, gka, gn, gkc, gca, gm, gcc⟩ : El)).arr 26 := (Box.at hsz0 _ _).drew
  have hb1 := hb1.ext x4
  have hb2 := hb2.ext x4
  have hxw4 := ext_trans hx0 x4
  generalize hWW : (w0.alloc (.cells #[.int .i64 5, .string gx, .float .f64 gd, .bool gy, .slice gka gn gkc, .slice gca gm gcc] 26)).drew = w4
  have hWW2 : (w0.alloc (.cells ((⟨5, gx, gd, gy, gka, gn, gkc, gca, gm, gcc⟩ : El)).arr 26)).drew = w4 := hWW
  rw [hWW2] at hb4 hb1 hb2 hxw4
  clear hWW hWW2 x4 x1 hS hS1 hck0 hcx0 hx0 hsz0
  obtain ⟨s0, s1, s2, s3, s4, s5⟩ := hb4.six
  have hb4l := hb4.lt
  have HRB := Lib.hid fun w' (x : Ext w w') a n c (h : StrsAt (fun b => (S b ∧ b < w.heap.size) ∨ w.heap.size + 3 ≤ b) w' a n c [s_must, s_must_not, s_should, s_filter]) => rbw_any (S := (fun b => (S b ∧ b < w.heap.size) ∨ w.heap.size + 3 ≤ b)) s_bool qs (⟨5, ex, ed, ey, some ⟨kb, ko, none⟩, 1, ekc, some ⟨xb, xo, none⟩, 1, ecc⟩ : El) a n c [s_must, s_must_not, s_should, s_filter] w' (TreeAt.ext x (HH.out.to (fun b h1 h2 => .inl ⟨h1, h2⟩))) h hq hlen
  clear hq HH HTX
  go_upto_region 13 with (first
    | (go_at_call 64; refine (placesB_any _).mono ?_; rintro r wp ⟨rfl, rfl⟩; simp only)
    | fail)
  have x5 : Ext w4 ((w4.alloc (.cells #[] 9)).alloc (.cells #[.string s_must, .string s_must_not, .string s_should, .string s_filter] 9)) := by (repeat (first | exact ext_refl _ | assumption | refine ext_alloc ?_ _ | refine ext_drew ?_ | refine ext_set ?_ (by simp) _ | refine ext_trans ?_ (by assumption)))
  have hsl : StrsAt (fun b => (S b ∧ b < w.heap.size) ∨ w.heap.size + 3 ≤ b) ((w4.alloc (.cells #[] 9)).alloc (.cells #[.string s_must, .string s_must_not, .string s_should, .string s_filter] 9)) (some ⟨w4.heap.size + 1, 0, none⟩) 4 4 [s_must, s_must_not, s_should, s_filter] := strs_four (Box.at (by simp) _ _) (.inr (by omega))
  have hb1 := hb1.ext x5
  have hb2 := hb2.ext x5
  have hb4 := hb4.ext x5
  generalize hWW : ((w4.alloc (.cells #[] 9)).alloc (.cells #[.string s_must, .string s_must_not, .string s_should, .string s_filter] 9)) = wp at x5 hsl hb1 hb2 hb4 ⊢
  clear hWW
  obtain ⟨a0, a1, a2, a3, a4, a5⟩ := hb1.six
  go_upto_region 14 with (first
    | (go_at_call 65; refine (HRB.out _ (ext_trans hxw4 x5) _ _ _ hsl).mono ?_; rintro r w5 ⟨⟨rk, rx, rd, ry, rka, rn, rkc, rca, rm, rcc⟩, rfl, hT5, hx5⟩; simp only [El.val])
    | fail)
  have x6 : Ext w5 (w5.alloc (.cells #[.int .i64 rk, .string rx, .float .f64 rd, .bool ry, .slice rka rn rkc, .slice rca rm rcc] 26)) := ext_alloc (ext_refl _) _
  have hx56 := ext_trans hx5 x6
  have hs5 := x5.sz
  have hxw4 := ext_trans hxw4 x5
  have hb62 := hb2.ext hx56
  have hb64 := hb4.ext hx56
  have hxw6 := ext_trans hxw4 hx56
  have hb4w := (hb4.ext hx5).lt
  have hT6 : TreeAt (fun b => (S b ∧ b < w.heap.size) ∨ (w.heap.size + 3 ≤ b ∧ b < w5.heap.size)) (w5.alloc (.cells #[.int .i64 rk, .string rx, .float .f64 rd, .bool ry, .slice rka rn rkc, .slice rca rm rcc] 26)) (⟨rk, rx, rd, ry, rka, rn, rkc, rca, rm, rcc⟩ : El) (mapT [(s_bool, mapT (qs.map (wrapL [s_must, s_must_not, s_should, s_filter])))]) := (hT5.to (fun b h1 h2 => by
    rcases h1 with h1 | h1
    · rcases h1.1 with h | h
      · exact .inl h
      · exact .inr ⟨h, h2⟩
    · have h1 : wp.heap.size ≤ b := h1
      exact .inr ⟨by omega, h2⟩)).ext x6
  have hb6 : Box (w5.alloc (.cells #[.int .i64 rk, .string rx, .float .f64 rd, .bool ry, .slice rka rn rkc, .slice rca rm rcc] 26)) w5.heap.size #[.int .i64 rk, .string rx, .float .f64 rd, .bool ry, .slice rka rn rkc, .slice rca rm rcc] 26 := Box.at rfl _ _
  have hs6 : w5.heap.size < (w5.alloc (.cells #[.int .i64 rk, .string rx, .float .f64 rd, .bool ry, .slice rka rn rkc, .slice rca rm rcc] 26)).heap.size := by simp
  have hAt := Lib.hid (at_map [(s_bool, mapT (qs.map (wrapL [s_must, s_must_not, s_should, s_filter])))] (⟨rk, rx, rd, ry, rka, rn, rkc, rca, rm, rcc⟩ : El) s_bool _ hT6)
  clear hT6 hT5 hx56 hx5 x5 hb2 hb4 hb1 hsl hxw4 hb4l hs5 a0 a1 a2 a3 a4 a5
  generalize hWW : w5.alloc (.cells #[.int .i64 rk, .string rx, .float .f64 rd, .bool ry, .slice rka rn rkc, .slice rca rm rcc] 26) = w6 at x6 hb62 hb64 hxw6 hAt hs6 hb6 ⊢
  clear hWW x6
  generalize w5.heap.size = b6 at hb4w hAt hs6 hb6 ⊢
  obtain ⟨z0, z1, z2, z3, z4, z5⟩ := hb6.six
  go_upto_region 15 with (first
    | (go_at_call 41; refine hAt.out.mono ?_; rintro r w7 ⟨⟨vk, vx, vd, vy, vka, vn, vkc, vca, vm, vcc⟩, rfl, hT7, hx7⟩; simp only [El.val]
       have hb74 := hb64.ext hx7; obtain ⟨s0, s1, s2, s3, s4, s5⟩ := hb74.six; have f0 := hb74.free 0; have f1 := hb74.free 1; have f2 := hb74.free 2; have f3 := hb74.free 3; have f4 := hb74.free 4; have f5 := hb74.free 5)
    | fail)
  rw [show (lastOf [(s_bool, mapT (qs.map (wrapL [s_must, s_must_not, s_should, s_filter])))] s_bool).getD nullT = mapOf l by rw [lastOf_one]; exact HM.out] at hT7
  have hk5 := Lib.hid hT7.parts.2.2.2.2.1
  have hk6 := Lib.hid hT7.parts.2.2.2.2.2
  have hN4 : ¬ ((fun b => (S b ∧ b < w.heap.size) ∨ (w.heap.size + 3 ≤ b ∧ b < b6)) (w.heap.size + 2)) := fun h => by rcases h with h | h <;> omega
  have hgn : l.length = vn := by have := hk5.out.1; unfold mapOf at this; simpa [T.keys] using this
  have hgm : l.length = vm := by have := hk6.out.1; unfold mapOf at this; simpa [T.kids] using this
  obtain rfl : vn = vm := hgn.symm.trans hgm
  have hkc := hk5.out.2.1
  have hkm := hk5.out.2.2.1
  have hcc := hk6.out.2.1
  have hcm := hk6.out.2.2.1
  unfold maxLen at hkm hcm
  have HN := Lib.hid hgn
  have H5 := Lib.hid (StrsAt.keep (S' := (fun b => (S b ∧ b < w.heap.size) ∨ (w.heap.size + 3 ≤ b ∧ b < b6))) (fun _ h _ => h) (keeps_sto w7 hN4 (⟨vk, vx, vd, vy, vka, vn, vkc, vca, vn, vcc⟩ : El)) hk5.out)
  have H6 := Lib.hid (KidsAt.keep (S' := (fun b => (S b ∧ b < w.heap.size) ∨ (w.heap.size + 3 ≤ b ∧ b < b6))) (fun _ h _ => h) (keeps_sto w7 hN4 (⟨vk, vx, vd, vy, vka, vn, vkc, vca, vn, vcc⟩ : El)) hk6.out)
  clear hk5 hk6 hgn hgm hT7 hAt
  have hb84 : Box (sto w7 (w.heap.size + 2) (⟨vk, vx, vd, vy, vka, vn, vkc, vca, vn, vcc⟩ : El)) (w.heap.size + 2) (El.arr (⟨vk, vx, vd, vy, vka, vn, vkc, vca, vn, vcc⟩ : El)) 26 := hb74.sto (⟨vk, vx, vd, vy, vka, vn, vkc, vca, vn, vcc⟩ : El)
  have hb82 : Box (sto w7 (w.heap.size + 2) (⟨vk, vx, vd, vy, vka, vn, vkc, vca, vn, vcc⟩ : El)) (w.heap.size + 1) (El.arr El0) 26 := (hb62.ext hx7).sto6' (by omega) _ _ _ _ _ _
  have hxw8 : Ext w (sto w7 (w.heap.size + 2) (⟨vk, vx, vd, vy, vka, vn, vkc, vca, vn, vcc⟩ : El)) := ext_sto6 (ext_trans hxw6 hx7) (by omega) _ _ _ _ _ _
  have hb6s : b6 < (sto w7 (w.heap.size + 2) (⟨vk, vx, vd, vy, vka, vn, vkc, vca, vn, vcc⟩ : El)).heap.size := Nat.lt_of_lt_of_le (show b6 < w7.heap.size by have := hx7.sz; omega) (grown_sto6 w7 (w.heap.size + 2) (.int .i64 vk) (.string vx) (.float .f64 vd) (.bool vy) (.slice vka vn vkc) (.slice vca vn vcc)).size
  clear hb6 z0 z1 z2 z3 z4 z5 hb74 hb62 hb64 hx7 hxw6 hs6 f0 f1 f2 f3 f4 f5 s0 s1 s2 s3 s4 s5 hN4
  have hsw : (sto w7 (w.heap.size + 2) (⟨vk, vx, vd, vy, vka, vn, vkc, vca, vn, vcc⟩ : El)) = sto6 w7 (w.heap.size + 2) (.int .i64 vk) (.string vx) (.float .f64 vd) (.bool vy) (.slice vka vn vkc) (.slice vca vn vcc) := rfl
  rw [hsw] at hb84 hb82 hxw8 hb6s H5 H6
  unfold sto6 at hb84 hb82 hxw8 hb6s H5 H6
  clear hsw
  generalize hWW : (((((w7.setCell ⟨w.heap.size + 2, 0, none⟩ (.int .i64 vk)).setCell ⟨w.heap.size + 2, 1, none⟩ (.string vx)).setCell ⟨w.heap.size + 2, 2, none⟩ (.float .f64 vd)).setCell ⟨w.heap.size + 2, 3, none⟩ (.bool vy)).setCell ⟨w.heap.size + 2, 4, none⟩ (.slice vka vn vkc)).setCell ⟨w.heap.size + 2, 5, none⟩ (.slice vca vn vcc) = w8 at hb84 hb82 hxw8 hb6s H5 H6 ⊢
  clear hWW
  have hMp := map_any (S := fun _ => False) none 0 0 [] w8 ⟨rfl, Nat.le_refl _, by simp [maxLen], fun _ _ h => by simp at h⟩ (by decide)
  go_upto_region 16 with (first | (go_at_call 42; refine hMp.mono ?_; rintro r w9 ⟨(⟨ok, ox, od, oy, oka, on, okc, oca, om, occ⟩ : El), rfl, hT9, hx9⟩; simp only [El.val]) | fail)
  have hx10 : Ext w9 (w9.alloc (.cells (El.arr (⟨ok, ox, od, oy, oka, on, okc, oca, om, occ⟩ : El)) 26)) := ext_alloc (ext_refl _) _
  have hb7 : Box (w9.alloc (.cells (El.arr (⟨ok, ox, od, oy, oka, on, okc, oca, om, occ⟩ : El)) 26)) w9.heap.size (El.arr (⟨ok, ox, od, oy, oka, on, okc, oca, om, occ⟩ : El)) 26 := Box.at rfl _ _
  have hb67 : b6 < w9.heap.size := by have := hx9.sz; omega
  have hxx := ext_trans hx9 hx10
  have hb4 := hb84.ext hxx
  have hb2 := hb82.ext hxx
  have hxr := ext_trans hxw8 hxx
  have H5 := Lib.hid (StrsAt.ext hxx H5.out)
  have H6 := Lib.hid (KidsAt.ext hxx H6.out)
  have hTo := Lib.hid ((hT9.to (S' := fun b => ((S b ∧ b < w.heap.size) ∨ (w.heap.size + 3 ≤ b ∧ b < b6)) ∨ (b6 < b ∧ b ≠ w9.heap.size)) (fun b h1 h2 => by
    rcases h1 with h1 | h1
    · exact h1.1.elim
    · exact .inr ⟨by omega, by omega⟩)).ext hx10)
  clear hT9 hb84 hb82 hxw8 hMp hxx hx9 hx10 hb6s
  generalize w9.alloc (.cells (El.arr (⟨ok, ox, od, oy, oka, on, okc, oca, om, occ⟩ : El)) 26) = w10 at hb7 hb4 hb2 hxr H5 H6 hTo ⊢
  generalize w9.heap.size = b7 at hb7 hb67 hTo ⊢
  go_wp2_with fail
  go_loopw [8] (fun i wr => Ext w wr ∧ Ext w10 w10 ∧ Box wr (w.heap.size + 1) (El.arr El0) 26 ∧ Box wr (w.heap.size + 2) (El.arr (⟨vk, vx, vd, vy, vka, vn, vkc, vca, vn, vcc⟩ : El)) 26 ∧ KidsAt (fun b => (S b ∧ b < w.heap.size) ∨ (w.heap.size + 3 ≤ b ∧ b < b6)) wr vca vn vcc (mapOf l).kids ∧ StrsAt (fun b => (S b ∧ b < w.heap.size) ∨ (w.heap.size + 3 ≤ b ∧ b < b6)) wr vka vn vkc (mapOf l).keys ∧
    ∃ (j : Nat) (eo : El), j ≤ vn ∧ i = .int .i64 j ∧ Box wr b7 eo.arr 26 ∧ TreeAt (fun b => ((S b ∧ b < w.heap.size) ∨ (w.heap.size + 3 ≤ b ∧ b < b6)) ∨ (b6 < b ∧ b ≠ b7)) wr eo (mapT ((l.map fun p => (p.1, y p.1)).take j))) (fun i _ => vn - (intOf i).toNat)
  case atStart =>
    exact ⟨hxr, ext_refl _, hb2, hb4, H6.out, H5.out, 0, _, Nat.zero_le _, rfl, hb7, hTo.out⟩
  case round =>
    rename World => wq
    obtain ⟨hx, -, hb2, hb4, hKI, hKE, j, eo, hj, rfl, hb7, hTo⟩ := hrel
    obtain ⟨q0, q1, q2, q3, q4, q5⟩ := hb4.six
    have hTo := Lib.hid hTo
    have hb7l := hb7.lt
    by_cases hlt : j < vn
    case pos =>
      obtain ⟨p, hp⟩ := some_of_lt HN.out hlt
      obtain ⟨hp1, hp2⟩ := mapOf_keys l j p hp
      obtain ⟨b, off, rfl, hSb, hc⟩ := hKE.2.2.2 j p.1 hp1
      obtain ⟨b2, off2, ⟨kk, kx, kd, ky, kka, kn, kkc, kca, km, kcc⟩, rfl, hSb2, hc6, hTk⟩ := hKI.get hp2
      have hRD := Lib.hid (HRD.out p.1 p.2 (rising_lookup HRI.out hp))
      have HPW := Lib.hid (show (l.map fun p => (p.1, y p.1))[j]? = some (p.1, y p.1) by rw [List.getElem?_map, hp]; rfl)
      have HKE4 := Lib.hid (show kk = p.2.kind from hTk.parts.1)
      have HTk := Lib.hid hTk
      have hKE := Lib.hid hKE
      have hKI := Lib.hid hKI
      clear hp hp1 hp2 hTk
      have hx1 : Ext wq (wq.alloc (.cells #[.int .i64 kk, .string kx, .float .f64 kd, .bool ky, .slice kka kn kkc, .slice kca km kcc] 26)) := ext_alloc (ext_refl _) _
      have hb9 : Box (wq.alloc (.cells #[.int .i64 kk, .string kx, .float .f64 kd, .bool ky, .slice kka kn kkc, .slice kca km kcc] 26)) wq.heap.size #[.int .i64 kk, .string kx, .float .f64 kd, .bool ky, .slice kka kn kkc, .slice kca km kcc] 26 := Box.at rfl _ _
      have hblt : b < wq.heap.size := lt_of_cell hc
      go_upto_region 20 with fail
      have hb4 := hb4.ext hx1
      have hb2 := hb2.ext hx1
      have hb7 := hb7.ext hx1
      have hc := hx1.cell hc
      have hKE := Lib.hid (StrsAt.ext hx1 hKE.out)
      have hKI := Lib.hid (KidsAt.ext hx1 hKI.out)
      have hTo := Lib.hid (TreeAt.ext hx1 (hTo.out.to (S' := fun b => ((S b ∧ b < w.heap.size) ∨ (w.heap.size + 3 ≤ b ∧ b < b6)) ∨ (b6 < b ∧ b ≠ b7 ∧ b ≠ wq.heap.size)) (fun b h hl => by
        rcases h with h | h
        · exact .inl h
        · exact .inr ⟨h.1, h.2, by omega⟩)))
      have HTk := Lib.hid (TreeAt.ext hx1 HTk.out)
      have hx := ext_trans hx hx1
      have hb9l := hb9.lt
      have hb79 : b7 < wq.heap.size := hb7l
      clear q0 q1 q2 q3 q4 q5 hx1 hb7l hblt hc6
      generalize wq.alloc (.cells #[.int .i64 kk, .string kx, .float .f64 kd, .bool ky, .slice kka kn kkc, .slice kca km kcc] 26) = w6 at hb9 hb4 hb2 hb7 hc hKE hKI hTo HTk hx hb9l ⊢
      generalize wq.heap.size = b9 at hb9 hb79 hb9l hTo ⊢
      by_cases hke : kk = 4
      case pos =>
        obtain rfl := hke
        obtain ⟨h4, hkl, ys, hys, hyl, hyR⟩ : p.2.kind = 4 ∧ p.2.kids.length ≤ 1048576 ∧ ∃ ys, y p.1 = listT ys ∧ ys.length = p.2.kids.length ∧ ∀ (i : Nat) (x z : T), p.2.kids[i]? = some x → ys[i]? = some z → Reads x z := by
          rcases hRD.out with h | h
          · exact h
          · exact absurd HKE4.out.symm h.1
        have hKL := Lib.hid HTk.out.parts.2.2.2.2.2
        have hkm : p.2.kids.length = km := hKL.out.1
        have HYR := Lib.hid hyR
        have HYS := Lib.hid hys
        have HYL := Lib.hid (show ys.length = km by omega)
        have hkmb : km ≤ 1048576 := by omega
        clear hyR hys hyl hkl hkm h4 HKE4 hRD
        obtain ⟨m0, m1, m2, m3, m4, m5⟩ := hb9.six
        go_wp2_with (first
          | (go_at_call 66; refine (list_exact none 0 0 _).mono ?_; rintro r wl ⟨rfl, hxl⟩; simp only [El.val])
          | fail)
        have hsl := hxl.sz
        clear m0 m1 m2 m3 m4 m5
        go_loopw [11] (fun i wr => Ext w6 wr ∧ wl.heap.size + 1 ≤ wr.heap.size ∧ ∃ (jj : Nat) (kes : List El) (ca : Option Addr) (cn cc : Nat), jj ≤ km ∧ i = .int .i64 jj ∧ kes.length = jj ∧ Making wr (wl.heap.size + 1) wl.heap.size 4 [] kes none 0 0 ca cn cc ∧ KinO (fun b => ((S b ∧ b < w.heap.size) ∨ (w.heap.size + 3 ≤ b ∧ b < b6))) wr (wl.heap.size + 1) (.slice ca cn cc) kes (ys.take jj)) (fun i _ => km - (intOf i).toNat)
        case atStart => exact ⟨ext_alloc hxl _, by simp, 0, [], none, 0, 0, Nat.zero_le _, rfl, rfl, ⟨Box.at rfl _ _, World.ownsRow_nil _ _ _ _, World.ownsRow_nil _ _ _ _, by omega, fun _ h => by cases h⟩, KinO.nil _ _ _ _⟩
        case round =>
          rename World => wi
          obtain ⟨hxi, hsi, jj, kes, ca, cn, cc, hjj, rfl, hes, M, HK⟩ := hrel
          have HES := Lib.hid hes
          have HK := Lib.hid HK
          clear hes
          have hb9i := hb9.ext hxi
          have m5 := hb9i.cell 5 _ rfl
          by_cases hlj : jj < km
          case pos =>
            obtain ⟨t0, ht0⟩ := some_of_lt hKL.out.1 hlj
            obtain ⟨z0, hz0⟩ := some_of_lt HYL.out hlj
            obtain ⟨lb, lo, ⟨zk, zx, zd, zy, zka, zn, zkc, zca, zm, zcc⟩, rfl, -, hcz, hTz⟩ := hKL.out.get ht0
            have hRu := Lib.hid (fun (w1 : World) (x : Ext w6 w1) => HYR.out jj t0 z0 ht0 hz0 (fun b => (S b ∧ b < w.heap.size) ∨ (w.heap.size + 3 ≤ b ∧ b < b6)) _ w1 (TreeAt.ext x hTz))
            have hlbw : lb < w6.heap.size := lt_of_cell hcz.1
            have hcz := CellsAt.ext hxi hcz
            have HZ := Lib.hid hz0
            clear ht0 hz0 hTz
            obtain ⟨o0, o1, o2, o3, o4, o5⟩ := M.box.six
            go_upto_region 25 with fail
            refine wp_region_order (fun (w' : World) => w'.cell? ⟨wl.heap.size, 5, none⟩ = some (.slice ca cn cc) ∧ w'.cell? ⟨b9, 5, none⟩ = some (.slice (some ⟨lb, lo, none⟩) km kcc) ∧ CellsAt w' lb (lo + jj * 6) (⟨zk, zx, zd, zy, zka, zn, zkc, zca, zm, zcc⟩ : El)) [0, 1, 2, 3, 4, 5, 6, 10] [0, 1, 2, 3, 4, 5, 6, 7, 8, 9, 10, 11] (by kernel_rfl) (by kernel_rfl) (fun d _ _ _ _ h => by cases d <;> exact h) (by kernel_rfl) ?_
            have hS : (fun (w' : World) => w'.cell? ⟨wl.heap.size, 5, none⟩ = some (.slice ca cn cc) ∧ w'.cell? ⟨b9, 5, none⟩ = some (.slice (some ⟨lb, lo, none⟩) km kcc) ∧ CellsAt w' lb (lo + jj * 6) (⟨zk, zx, zd, zy, zka, zn, zkc, zca, zm, zcc⟩ : El)) _ := ⟨o5, m5, hcz⟩
            iterate 7 (apply ord_held rfl rfl (by assumption) rfl; (focus ((intro w' hS'); go_simp; (try with_reducible rfl))); (try simp only [Act.put, List.setIfInBounds_toArray, List.set_cons_zero, List.set_cons_succ]))
            (apply ord_loud rfl rfl rfl; intro K hK; go_simp)
            refine (hRu.out _ (ext_drew hxi)).mono ?_
            rintro r w2 ⟨e2, rfl, hT2, hx2⟩
            have x2 : Ext wi w2 := ext_trans (ext_drew (ext_refl _)) hx2
            have hS2 : (fun (w' : World) => w'.cell? ⟨wl.heap.size, 5, none⟩ = some (.slice ca cn cc) ∧ w'.cell? ⟨b9, 5, none⟩ = some (.slice (some ⟨lb, lo, none⟩) km kcc) ∧ CellsAt w' lb (lo + jj * 6) (⟨zk, zx, zd, zy, zka, zn, zkc, zca, zm, zcc⟩ : El)) w2 := ⟨x2.cell o5, x2.cell m5, CellsAt.ext x2 hcz⟩
            refine hK _ _ (fun _ => hS2) ?_
            clear hK K
            simp only [El.val]
            (try simp only [Act.put, List.setIfInBounds_toArray, List.set_cons_zero, List.set_cons_succ])
            (apply ord_loud rfl rfl rfl; intro K hK; go_simp)
            have x3 : Ext wi (w2.alloc (.cells #[.int .i64 e2.k, .string e2.x, .float .f64 e2.d, .bool e2.y, .slice e2.ka e2.n e2.kc, .slice e2.ca e2.m e2.cc] 26)) := ext_alloc x2 _
            have hbz : Box (w2.alloc (.cells #[.int .i64 e2.k, .string e2.x, .float .f64 e2.d, .bool e2.y, .slice e2.ka e2.n e2.kc, .slice e2.ca e2.m e2.cc] 26)) w2.heap.size e2.arr 26 := Box.new _ _ _
            have hT3 := hT2.ext (ext_alloc (ext_refl w2) (.cells #[.int .i64 e2.k, .string e2.x, .float .f64 e2.d, .bool e2.y, .slice e2.ka e2.n e2.kc, .slice e2.ca e2.m e2.cc] 26))
            have hS3 : (fun (w' : World) => w'.cell? ⟨wl.heap.size, 5, none⟩ = some (.slice ca cn cc) ∧ w'.cell? ⟨b9, 5, none⟩ = some (.slice (some ⟨lb, lo, none⟩) km kcc) ∧ CellsAt w' lb (lo + jj * 6) (⟨zk, zx, zd, zy, zka, zn, zkc, zca, zm, zcc⟩ : El)) (w2.alloc (.cells #[.int .i64 e2.k, .string e2.x, .float .f64 e2.d, .bool e2.y, .slice e2.ka e2.n e2.kc, .slice e2.ca e2.m e2.cc] 26)) := ⟨x3.cell o5, x3.cell m5, CellsAt.ext x3 hcz⟩
            refine hK _ _ (fun _ => hS3) ?_
            clear hK K
            have M1 := M.ext x3
            have hs2 := x2.sz
            have hbd : ∀ q, (Value.slice ca cn cc).ownBlock = some q → wl.heap.size + 1 ≤ q ∧ q < wi.heap.size := fun q h => M.kids.block h
            (try simp only [Act.put, List.setIfInBounds_toArray, List.set_cons_zero, List.set_cons_succ])
            apply ord_loud rfl rfl rfl
            intro K hK
            refine wp_append_tree _ _ _ rfl (wl.heap.size + 1) _ kes rfl M1.kids w2.heap.size e2 rfl (boxCells hbz) (by have := HES.out; omega) (by simp; omega) ?_
            intro g1 cap1 w4' hown hgrow hlies hglt
            have hS4 : (fun (w' : World) => w'.cell? ⟨wl.heap.size, 5, none⟩ = some (.slice ca cn cc) ∧ w'.cell? ⟨b9, 5, none⟩ = some (.slice (some ⟨lb, lo, none⟩) km kcc) ∧ CellsAt w' lb (lo + jj * 6) (⟨zk, zx, zd, zy, zka, zn, zkc, zca, zm, zcc⟩ : El)) w4' := ⟨hgrow.cell (x3.cell o5) (fun e => by have := hbd _ e.symm; simp at this; omega), hgrow.cell (x3.cell m5) (fun e => by have := hbd _ e.symm; simp at this; omega), ?_⟩
            rotate_left
            · obtain ⟨c0, c1, c2, c3, c4, c5⟩ := hcz
              have hq : ∀ (p : Addr) (u : Value), p.block = lb → wi.cell? p = some u → w4'.cell? p = some u := fun p u hp hc => hgrow.cell (x3.cell hc) (fun e => by have := hbd _ e.symm; omega)
              exact ⟨hq _ _ rfl c0, hq _ _ rfl c1, hq _ _ rfl c2, hq _ _ rfl c3, hq _ _ rfl c4, hq _ _ rfl c5⟩
            have q5 := (M1.boxMid' hgrow).free 5
            refine hK _ _ (fun _ => hS4) ?_
            clear hK K
            (try simp only [Act.put, List.setIfInBounds_toArray, List.set_cons_zero, List.set_cons_succ])
            have o5 := hS4.1
            (apply ord_held rfl rfl (by assumption) rfl; (focus ((intro w' hS'); go_simp; (try with_reducible rfl))); (try simp only [Act.put, List.setIfInBounds_toArray, List.set_cons_zero, List.set_cons_succ]))
            (apply ord_last rfl rfl rfl (by kernel_rfl); intro K hK; go_simp; refine hK _ _ ?_; clear hK K; (try simp only [Act.put, List.setIfInBounds_toArray, List.set_cons_zero, List.set_cons_succ]))
            refine ord_end ?_
            have M2 := M1.kid hown hgrow hlies
            have x4 := M1.extKid (ext_trans hxi x3) (by omega) hgrow 5 (.slice (some ⟨g1, 0, none⟩) (kes.length + 1) cap1)
            have hhw := hx.sz
            have hPl : ∀ b, (fun b => ((S b ∧ b < w.heap.size) ∨ (w.heap.size + 3 ≤ b ∧ b < b6))) b → b < wl.heap.size := fun b h => by
              rcases h with h | h
              · have := h.2; omega
              · have := h.2; omega
            have HK2 := Lib.hid ((HK.out.ext x3).step (hT3.to fun q h1 h2 => by
              rcases h1 with h1 | h1
              · exact .inl h1.1
              · have h3 : wi.heap.size ≤ q := h1
                exact .inr ⟨by omega, fun e => by have := (hbd q e).2; omega⟩) hPl (fun b h => (hbd b h).1) hgrow hlies (by omega : wl.heap.size < wl.heap.size + 1) 5 (.slice (some ⟨g1, 0, none⟩) (kes.length + 1) cap1) (kes.length + 1) cap1)
            have hszz : wl.heap.size + 1 ≤ (w4'.setCell ⟨wl.heap.size, 5, none⟩ (.slice (some ⟨g1, 0, none⟩) (kes.length + 1) cap1)).heap.size := by have h1 := hgrow.size; have h2 := x3.sz; simp; omega
            clear hown hgrow hlies hglt hS q5 M1 M o0 o1 o2 o3 o4 o5 hT2 hT3 hbz HK hS4 hS3 hS2 hbd
            generalize w4'.setCell ⟨wl.heap.size, 5, none⟩ (.slice (some ⟨g1, 0, none⟩) (kes.length + 1) cap1) = w7' at M2 x4 HK2 hszz ⊢
            go_wp2_with fail
            go_roundw
            case rel =>
              first
                | exact ⟨x4, hszz, jj + 1, kes ++ [e2], _, _, _, by omega, by go_num, by simp [HES.out], M2, by rw [take_snoc HZ.out]; exact HK2.out⟩
                | (repeat apply Exists.intro
                   refine And.intro ?_ rfl
                   exact ⟨x4, hszz, jj + 1, kes ++ [e2], _, _, _, by omega, by go_num, by simp [HES.out], M2, by rw [take_snoc HZ.out]; exact HK2.out⟩)
            case measure => simp [intOf]; omega
          have hjn : jj = km := by omega
          have hfull : ys.take jj = ys := List.take_of_length_le (by have h1 := HYL.out; omega)
          have hK := HK.out
          rw [hfull] at hK
          have hTK : TreeAt (fun b => ((S b ∧ b < w.heap.size) ∨ (w.heap.size + 3 ≤ b ∧ b < b6)) ∨ wl.heap.size + 1 ≤ b) wi ⟨4, ⟨#[]⟩, 0, false, none, 0, 0, ca, cn, cc⟩ (listT ys) := M.tree (ss := []) hK.1 (fun b hb => by cases hb) (fun b hb => .inr (M.kids.block hb).1) fun i e t h1 h2 => TreeAt.to (hK.2 i e t h1 h2) (fun b hb _ => hb.imp id (fun h => h.1))
          obtain ⟨o0, o1, o2, o3, o4, o5⟩ := M.box.six
          have hlb := M.box.lt
          clear m5
          obtain ⟨m0, m1, m2, m3, m4, m5⟩ := hb9i.six
          have f0 := hb9i.free 0; have f1 := hb9i.free 1; have f2 := hb9i.free 2; have f3 := hb9i.free 3; have f4 := hb9i.free 4; have f5 := hb9i.free 5
          clear hK HK hfull
          go_upto_region 28 with fail
          have hNs : ∀ q, (((S q ∧ q < w.heap.size) ∨ (w.heap.size + 3 ≤ q ∧ q < b6)) ∨ (b6 < q ∧ q ≠ b7 ∧ q ≠ b9)) → q ≠ b9 := fun q h e => by
            rcases h with h | h
            · rcases h with h | h
              · have := h.2; omega
              · have := h.2; omega
            · exact h.2.2 e
          have hww := hx.sz
          have hTK2 := Lib.hid (TreeAt.keep (S' := (fun b => ((S b ∧ b < w.heap.size) ∨ (w.heap.size + 3 ≤ b ∧ b < b6)) ∨ (b6 < b ∧ b ≠ b7 ∧ b ≠ b9))) (fun _ h _ => h) (keeps_sto wi (fun h => hNs b9 h rfl) (⟨4, ⟨#[]⟩, 0, false, none, 0, 0, ca, cn, cc⟩ : El)) _ (hTK.to (S' := (fun b => ((S b ∧ b < w.heap.size) ∨ (w.heap.size + 3 ≤ b ∧ b < b6)) ∨ (b6 < b ∧ b ≠ b7 ∧ b ≠ b9))) (fun q h _ => by
            rcases h with h | h
            · exact .inl h
            · exact .inr ⟨by omega, by omega, by omega⟩)))
          have hTo2 := Lib.hid (TreeAt.keep (S' := (fun b => ((S b ∧ b < w.heap.size) ∨ (w.heap.size + 3 ≤ b ∧ b < b6)) ∨ (b6 < b ∧ b ≠ b7 ∧ b ≠ b9))) (fun _ h _ => h) (keeps_sto wi (fun h => hNs b9 h rfl) (⟨4, ⟨#[]⟩, 0, false, none, 0, 0, ca, cn, cc⟩ : El)) _ (TreeAt.ext hxi hTo.out))
          have hKE2 := Lib.hid (StrsAt.keep (S' := (fun b => (S b ∧ b < w.heap.size) ∨ (w.heap.size + 3 ≤ b ∧ b < b6))) (fun _ h _ => h) (keeps_sto wi (fun h => hNs b9 (.inl h) rfl) (⟨4, ⟨#[]⟩, 0, false, none, 0, 0, ca, cn, cc⟩ : El)) (StrsAt.ext hxi hKE.out))
          have hKI2 := Lib.hid (KidsAt.keep (S' := (fun b => (S b ∧ b < w.heap.size) ∨ (w.heap.size + 3 ≤ b ∧ b < b6))) (fun _ h _ => h) (keeps_sto wi (fun h => hNs b9 (.inl h) rfl) (⟨4, ⟨#[]⟩, 0, false, none, 0, 0, ca, cn, cc⟩ : El)) (KidsAt.ext hxi hKI.out))
          have hSb9 : b ≠ b9 := fun e => hNs b (.inl hSb) e
          have hcn : (sto wi b9 (⟨4, ⟨#[]⟩, 0, false, none, 0, 0, ca, cn, cc⟩ : El)).cell? ⟨b, off + j, none⟩ = some (.string p.1) := (keeps_sto (S := fun q => q ≠ b9) wi (by simp) (⟨4, ⟨#[]⟩, 0, false, none, 0, 0, ca, cn, cc⟩ : El)).cell hSb9 (hxi.cell hc)
          have hb4n : Box (sto wi b9 (⟨4, ⟨#[]⟩, 0, false, none, 0, 0, ca, cn, cc⟩ : El)) (w.heap.size + 2) (El.arr (⟨vk, vx, vd, vy, some ⟨b, off, none⟩, vn, vkc, some ⟨b2, off2, none⟩, vn, vcc⟩ : El)) 26 := (hb4.ext hxi).sto6' (by omega) _ _ _ _ _ _
          have hb2n : Box (sto wi b9 (⟨4, ⟨#[]⟩, 0, false, none, 0, 0, ca, cn, cc⟩ : El)) (w.heap.size + 1) (El.arr El0) 26 := (hb2.ext hxi).sto6' (by omega) _ _ _ _ _ _
          have hb7n : Box (sto wi b9 (⟨4, ⟨#[]⟩, 0, false, none, 0, 0, ca, cn, cc⟩ : El)) b7 eo.arr 26 := (hb7.ext hxi).sto6' (by omega) _ _ _ _ _ _
          have hb9n : Box (sto wi b9 (⟨4, ⟨#[]⟩, 0, false, none, 0, 0, ca, cn, cc⟩ : El)) b9 (El.arr (⟨4, ⟨#[]⟩, 0, false, none, 0, 0, ca, cn, cc⟩ : El)) 26 := (show Box wi b9 (El.arr (⟨4, kx, kd, ky, kka, kn, kkc, kca, km, kcc⟩ : El)) 26 from hb9i).sto (⟨4, ⟨#[]⟩, 0, false, none, 0, 0, ca, cn, cc⟩ : El)
          have hxn : Ext w (sto wi b9 (⟨4, ⟨#[]⟩, 0, false, none, 0, 0, ca, cn, cc⟩ : El)) := ext_sto6 (ext_trans hx hxi) (by omega) _ _ _ _ _ _
          have hsw : (sto wi b9 (⟨4, ⟨#[]⟩, 0, false, none, 0, 0, ca, cn, cc⟩ : El)) = sto6 wi b9 (.int .i64 4) (.string ⟨#[]⟩) (.float .f64 0) (.bool false) (.slice none 0 0) (.slice ca cn cc) := rfl
          rw [hsw] at hTK2 hTo2 hKE2 hKI2 hcn hb4n hb2n hb7n hb9n hxn
          unfold sto6 at hTK2 hTo2 hKE2 hKI2 hcn hb4n hb2n hb7n hb9n hxn
          clear hsw
          generalize hWW : (((((wi.setCell ⟨b9, 0, none⟩ (.int .i64 4)).setCell ⟨b9, 1, none⟩ (.string ⟨#[]⟩)).setCell ⟨b9, 2, none⟩ (.float .f64 0)).setCell ⟨b9, 3, none⟩ (.bool false)).setCell ⟨b9, 4, none⟩ (.slice none 0 0)).setCell ⟨b9, 5, none⟩ (.slice ca cn cc) = wn at hTK2 hTo2 hKE2 hKI2 hcn hb4n hb2n hb7n hb9n hxn ⊢
          clear hWW
          clear hNs hTo hKE hKI hc hb4 hb2 hb7 hb9 hx
          obtain ⟨n0, n1, n2, n3, n4, n5⟩ := hb9n.six
          have hl7 := hb7n.lt
          have hS : (fun (w' : World) => Six w' b7 eo ∧ Six w' (w.heap.size + 2) (⟨vk, vx, vd, vy, some ⟨b, off, none⟩, vn, vkc, some ⟨b2, off2, none⟩, vn, vcc⟩ : El) ∧ Six w' b9 (⟨4, ⟨#[]⟩, 0, false, none, 0, 0, ca, cn, cc⟩ : El) ∧ w'.cell? ⟨b, off + j, none⟩ = some (.string p.1)) wn.drew := ⟨hb7n.Six, hb4n.Six, hb9n.Six, hcn⟩
          refine wp_region_order (fun (w' : World) => Six w' b7 eo ∧ Six w' (w.heap.size + 2) (⟨vk, vx, vd, vy, some ⟨b, off, none⟩, vn, vkc, some ⟨b2, off2, none⟩, vn, vcc⟩ : El) ∧ Six w' b9 (⟨4, ⟨#[]⟩, 0, false, none, 0, 0, ca, cn, cc⟩ : El) ∧ w'.cell? ⟨b, off + j, none⟩ = some (.string p.1)) [0, 1, 2, 3, 4, 5, 6] [0, 1, 2, 3, 4, 5, 6, 7, 8] (by kernel_rfl) (by kernel_rfl) (fun d _ _ _ _ h => by cases d <;> exact h) (by kernel_rfl) ?_
          iterate 7 (apply ord_held rfl rfl (by assumption) rfl; (focus ((intro w' hS'); go_simp; (try with_reducible rfl))); (try simp only [Act.put, List.setIfInBounds_toArray, List.set_cons_zero, List.set_cons_succ]))
          (apply ord_loud rfl rfl rfl; intro K hK; go_simp)
          have hlen := mapT_len ((l.map fun p => (p.1, y p.1)).take j)
          have hj2 : ((l.map fun p => (p.1, y p.1)).take j).length ≤ j := List.length_take_le _ _
          have hjl := HLL.out
          have hjn := HN.out
          refine (with_any (S := (fun b => ((S b ∧ b < w.heap.size) ∨ (w.heap.size + 3 ≤ b ∧ b < b6)) ∨ (b6 < b ∧ b ≠ b7 ∧ b ≠ b9))) eo (mapT ((l.map fun p => (p.1, y p.1)).take j)) p.1 (⟨4, ⟨#[]⟩, 0, false, none, 0, 0, ca, cn, cc⟩ : El) (listT ys) _ (hTo2.out.ext (ext_drew (ext_refl _))) (hTK2.out.ext (ext_drew (ext_refl _))) (by omega) (by omega) (by omega)).mono ?_
          rintro r w8' ⟨e3, rfl, hT4, hx4⟩
          have hx3 : Ext wn w8' := ext_trans (ext_drew (ext_refl _)) hx4
          refine hK _ _ (fun _ => ⟨Six.ext hx4 hS.1, Six.ext hx4 hS.2.1, Six.ext hx4 hS.2.2.1, hx4.cell hS.2.2.2⟩) ?_
          clear hK K hS
          simp only [El.val]
          (try simp only [Act.put, List.setIfInBounds_toArray, List.set_cons_zero, List.set_cons_succ])
          have hb93 := hb7n.ext hx3
          obtain ⟨u0, u1, u2, u3, u4, u5⟩ := hb93.six
          have f0 := hb93.free 0; have f1 := hb93.free 1; have f2 := hb93.free 2; have f3 := hb93.free 3; have f4 := hb93.free 4; have f5 := hb93.free 5
          clear n0 n1 n2 n3 n4 n5
          (apply ord_last rfl rfl rfl (by kernel_rfl); intro K hK; go_simp; refine hK _ _ ?_; clear hK K; (try simp only [Act.put, List.setIfInBounds_toArray, List.set_cons_zero, List.set_cons_succ]))
          refine ord_end ?_
          have hxx := hxn.sz
          have hNo : ¬ ((fun b => ((S b ∧ b < w.heap.size) ∨ (w.heap.size + 3 ≤ b ∧ b < b6)) ∨ (b6 < b ∧ b ≠ b7)) b7) := fun h => by
            rcases h with h | h
            · rcases h with h | h
              · have := h.2; omega
              · have := h.2; omega
            · exact h.2 rfl
          have hT5 := Lib.hid (TreeAt.keep (S' := (fun b => ((S b ∧ b < w.heap.size) ∨ (w.heap.size + 3 ≤ b ∧ b < b6)) ∨ (b6 < b ∧ b ≠ b7))) (fun _ h _ => h) (keeps_sto w8' hNo e3) _ (hT4.to (fun q h _ => by
            rcases h with h | h
            · rcases h with h | h
              · exact .inl h
              · exact .inr ⟨h.1, h.2.1⟩
            · have h : wn.heap.size ≤ q := by simpa using h
              exact .inr ⟨by omega, by omega⟩)))
          have hKI3 := Lib.hid (KidsAt.keep (S' := (fun b => (S b ∧ b < w.heap.size) ∨ (w.heap.size + 3 ≤ b ∧ b < b6))) (fun _ h _ => h) (keeps_sto w8' (fun h => hNo (.inl h)) e3) (KidsAt.ext hx3 hKI2.out))
          have hKE3 := Lib.hid (StrsAt.keep (S' := (fun b => (S b ∧ b < w.heap.size) ∨ (w.heap.size + 3 ≤ b ∧ b < b6))) (fun _ h _ => h) (keeps_sto w8' (fun h => hNo (.inl h)) e3) (StrsAt.ext hx3 hKE2.out))
          clear hT4 hNo
          go_wp2_with fail
          go_roundw
          case rel => exact ⟨ext_sto6 (ext_trans hxn hx3) (by omega) _ _ _ _ _ _, ext_refl _, (hb2n.ext hx3).sto6' (by omega) _ _ _ _ _ _, (hb4n.ext hx3).sto6' (by omega) _ _ _ _ _ _, hKI3.out, hKE3.out, j + 1, e3, by omega, by go_num, hb93.sto e3, by
            rw [show mapT ((l.map fun p => (p.1, y p.1)).take (j + 1)) = withT (mapT ((l.map fun p => (p.1, y p.1)).take j)) p.1 (y p.1) from foldl_snoc _ _ HPW.out]
            have h9 := hT5.out
            rw [HYS.out]
            exact h9⟩
          case measure => simp [intOf]; omega
      case neg =>
        have hRu : Reads p.2 (y p.1) := by
          rcases hRD.out with h | h
          · exact absurd (HKE4.out.trans h.1) hke
          · exact h.2
        have hk4n : (kk == 4) = false := by simpa using hke
        have HRu := Lib.hid (hRu (fun b => (S b ∧ b < w.heap.size) ∨ (w.heap.size + 3 ≤ b ∧ b < b6)) _ w6 HTk.out)
        clear hRu hRD HKE4
        obtain ⟨m0, m1, m2, m3, m4, m5⟩ := hb9.six
        go_upto_region 28 with (first
          | (go_at_call 20; refine HRu.out.mono ?_; rintro r w2 ⟨⟨zk, zx, zd, zy, zka, zn, zkc, zca, zm, zcc⟩, rfl, hT2, hx2⟩; simp only [El.val]
             have hb92 := hb9.ext hx2; obtain ⟨o0, o1, o2, o3, o4, o5⟩ := hb92.six; have f0 := hb92.free 0; have f1 := hb92.free 1; have f2 := hb92.free 2; have f3 := hb92.free 3; have f4 := hb92.free 4; have f5 := hb92.free 5)
          | fail)
        clear m0 m1 m2 m3 m4 m5
        have hNs : ∀ q, (((S q ∧ q < w.heap.size) ∨ (w.heap.size + 3 ≤ q ∧ q < b6)) ∨ (b6 < q ∧ q ≠ b7 ∧ q ≠ b9)) → q ≠ b9 := fun q h e => by
          have hww := hx.sz
          rcases h with h | h
          · rcases h with h | h
            · have := h.2; omega
            · have := h.2; omega
          · exact h.2.2 e
        have hww := hx.sz
        have hTK2 := Lib.hid (TreeAt.keep (S' := (fun b => ((S b ∧ b < w.heap.size) ∨ (w.heap.size + 3 ≤ b ∧ b < b6)) ∨ (b6 < b ∧ b ≠ b7 ∧ b ≠ b9))) (fun _ h _ => h) (keeps_sto w2 (fun h => hNs b9 h rfl) (⟨zk, zx, zd, zy, zka, zn, zkc, zca, zm, zcc⟩ : El)) _ (hT2.to (S' := (fun b => ((S b ∧ b < w.heap.size) ∨ (w.heap.size + 3 ≤ b ∧ b < b6)) ∨ (b6 < b ∧ b ≠ b7 ∧ b ≠ b9))) (fun q h _ => by
          rcases h with h | h
          · exact .inl h.1
          · exact .inr ⟨by omega, by omega, by omega⟩)))
        clear hT2
        have hTo2 := Lib.hid (TreeAt.keep (S' := (fun b => ((S b ∧ b < w.heap.size) ∨ (w.heap.size + 3 ≤ b ∧ b < b6)) ∨ (b6 < b ∧ b ≠ b7 ∧ b ≠ b9))) (fun _ h _ => h) (keeps_sto w2 (fun h => hNs b9 h rfl) (⟨zk, zx, zd, zy, zka, zn, zkc, zca, zm, zcc⟩ : El)) _ (TreeAt.ext hx2 hTo.out))
        have hKE2 := Lib.hid (StrsAt.keep (S' := (fun b => (S b ∧ b < w.heap.size) ∨ (w.heap.size + 3 ≤ b ∧ b < b6))) (fun _ h _ => h) (keeps_sto w2 (fun h => hNs b9 (.inl h) rfl) (⟨zk, zx, zd, zy, zka, zn, zkc, zca, zm, zcc⟩ : El)) (StrsAt.ext hx2 hKE.out))
        have hKI2 := Lib.hid (KidsAt.keep (S' := (fun b => (S b ∧ b < w.heap.size) ∨ (w.heap.size + 3 ≤ b ∧ b < b6))) (fun _ h _ => h) (keeps_sto w2 (fun h => hNs b9 (.inl h) rfl) (⟨zk, zx, zd, zy, zka, zn, zkc, zca, zm, zcc⟩ : El)) (KidsAt.ext hx2 hKI.out))
        have hSb9 : b ≠ b9 := fun e => hNs b (.inl hSb) e
        have hcn : (sto w2 b9 (⟨zk, zx, zd, zy, zka, zn, zkc, zca, zm, zcc⟩ : El)).cell? ⟨b, off + j, none⟩ = some (.string p.1) := (keeps_sto (S := fun q => q ≠ b9) w2 (by simp) (⟨zk, zx, zd, zy, zka, zn, zkc, zca, zm, zcc⟩ : El)).cell hSb9 (hx2.cell hc)
        have hb4n : Box (sto w2 b9 (⟨zk, zx, zd, zy, zka, zn, zkc, zca, zm, zcc⟩ : El)) (w.heap.size + 2) (El.arr (⟨vk, vx, vd, vy, some ⟨b, off, none⟩, vn, vkc, some ⟨b2, off2, none⟩, vn, vcc⟩ : El)) 26 := (hb4.ext hx2).sto6' (by omega) _ _ _ _ _ _
        have hb2n : Box (sto w2 b9 (⟨zk, zx, zd, zy, zka, zn, zkc, zca, zm, zcc⟩ : El)) (w.heap.size + 1) (El.arr El0) 26 := (hb2.ext hx2).sto6' (by omega) _ _ _ _ _ _
        have hb7n : Box (sto w2 b9 (⟨zk, zx, zd, zy, zka, zn, zkc, zca, zm, zcc⟩ : El)) b7 eo.arr 26 := (hb7.ext hx2).sto6' (by omega) _ _ _ _ _ _
        have hb9n : Box (sto w2 b9 (⟨zk, zx, zd, zy, zka, zn, zkc, zca, zm, zcc⟩ : El)) b9 (El.arr (⟨zk, zx, zd, zy, zka, zn, zkc, zca, zm, zcc⟩ : El)) 26 := (show Box w2 b9 (El.arr (⟨kk, kx, kd, ky, kka, kn, kkc, kca, km, kcc⟩ : El)) 26 from hb92).sto (⟨zk, zx, zd, zy, zka, zn, zkc, zca, zm, zcc⟩ : El)
        have hxn : Ext w (sto w2 b9 (⟨zk, zx, zd, zy, zka, zn, zkc, zca, zm, zcc⟩ : El)) := ext_sto6 (ext_trans hx hx2) (by omega) _ _ _ _ _ _
        have hsw : (sto w2 b9 (⟨zk, zx, zd, zy, zka, zn, zkc, zca, zm, zcc⟩ : El)) = sto6 w2 b9 (.int .i64 zk) (.string zx) (.float .f64 zd) (.bool zy) (.slice zka zn zkc) (.slice zca zm zcc) := rfl
        rw [hsw] at hTK2 hTo2 hKE2 hKI2 hcn hb4n hb2n hb7n hb9n hxn
        unfold sto6 at hTK2 hTo2 hKE2 hKI2 hcn hb4n hb2n hb7n hb9n hxn
        clear hsw
        generalize hWW : (((((w2.setCell ⟨b9, 0, none⟩ (.int .i64 zk)).setCell ⟨b9, 1, none⟩ (.string zx)).setCell ⟨b9, 2, none⟩ (.float .f64 zd)).setCell ⟨b9, 3, none⟩ (.bool zy)).setCell ⟨b9, 4, none⟩ (.slice zka zn zkc)).setCell ⟨b9, 5, none⟩ (.slice zca zm zcc) = wn at hTK2 hTo2 hKE2 hKI2 hcn hb4n hb2n hb7n hb9n hxn ⊢
        clear hWW
        clear hNs hTo hKE hKI hc hb4 hb2 hb7 hb9 hx
        obtain ⟨n0, n1, n2, n3, n4, n5⟩ := hb9n.six
        have hl7 := hb7n.lt
        have hS : (fun (w' : World) => Six w' b7 eo ∧ Six w' (w.heap.size + 2) (⟨vk, vx, vd, vy, some ⟨b, off, none⟩, vn, vkc, some ⟨b2, off2, none⟩, vn, vcc⟩ : El) ∧ Six w' b9 (⟨zk, zx, zd, zy, zka, zn, zkc, zca, zm, zcc⟩ : El) ∧ w'.cell? ⟨b, off + j, none⟩ = some (.string p.1)) wn.drew := ⟨hb7n.Six, hb4n.Six, hb9n.Six, hcn⟩
        refine wp_region_order (fun (w' : World) => Six w' b7 eo ∧ Six w' (w.heap.size + 2) (⟨vk, vx, vd, vy, some ⟨b, off, none⟩, vn, vkc, some ⟨b2, off2, none⟩, vn, vcc⟩ : El) ∧ Six w' b9 (⟨zk, zx, zd, zy, zka, zn, zkc, zca, zm, zcc⟩ : El) ∧ w'.cell? ⟨b, off + j, none⟩ = some (.string p.1)) [0, 1, 2, 3, 4, 5, 6] [0, 1, 2, 3, 4, 5, 6, 7, 8] (by kernel_rfl) (by kernel_rfl) (fun d _ _ _ _ h => by cases d <;> exact h) (by kernel_rfl) ?_
        iterate 7 (apply ord_held rfl rfl (by assumption) rfl; (focus ((intro w' hS'); go_simp; (try with_reducible rfl))); (try simp only [Act.put, List.setIfInBounds_toArray, List.set_cons_zero, List.set_cons_succ]))
        (apply ord_loud rfl rfl rfl; intro K hK; go_simp)
        have hlen := mapT_len ((l.map fun p => (p.1, y p.1)).take j)
        have hj2 : ((l.map fun p => (p.1, y p.1)).take j).length ≤ j := List.length_take_le _ _
        have hjl := HLL.out
        have hjn := HN.out
        refine (with_any (S := (fun b => ((S b ∧ b < w.heap.size) ∨ (w.heap.size + 3 ≤ b ∧ b < b6)) ∨ (b6 < b ∧ b ≠ b7 ∧ b ≠ b9))) eo (mapT ((l.map fun p => (p.1, y p.1)).take j)) p.1 (⟨zk, zx, zd, zy, zka, zn, zkc, zca, zm, zcc⟩ : El) (y p.1) _ (hTo2.out.ext (ext_drew (ext_refl _))) (hTK2.out.ext (ext_drew (ext_refl _))) (by omega) (by omega) (by omega)).mono ?_
        rintro r w8' ⟨e3, rfl, hT4, hx4⟩
        have hx3 : Ext wn w8' := ext_trans (ext_drew (ext_refl _)) hx4
        refine hK _ _ (fun _ => ⟨Six.ext hx4 hS.1, Six.ext hx4 hS.2.1, Six.ext hx4 hS.2.2.1, hx4.cell hS.2.2.2⟩) ?_
        clear hK K hS
        simp only [El.val]
        (try simp only [Act.put, List.setIfInBounds_toArray, List.set_cons_zero, List.set_cons_succ])
        have hb93 := hb7n.ext hx3
        obtain ⟨u0, u1, u2, u3, u4, u5⟩ := hb93.six
        have f0 := hb93.free 0; have f1 := hb93.free 1; have f2 := hb93.free 2; have f3 := hb93.free 3; have f4 := hb93.free 4; have f5 := hb93.free 5
        clear n0 n1 n2 n3 n4 n5
        (apply ord_last rfl rfl rfl (by kernel_rfl); intro K hK; go_simp; refine hK _ _ ?_; clear hK K; (try simp only [Act.put, List.setIfInBounds_toArray, List.set_cons_zero, List.set_cons_succ]))
        refine ord_end ?_
        have hxx := hxn.sz
        have hNo : ¬ ((fun b => ((S b ∧ b < w.heap.size) ∨ (w.heap.size + 3 ≤ b ∧ b < b6)) ∨ (b6 < b ∧ b ≠ b7)) b7) := fun h => by
          rcases h with h | h
          · rcases h with h | h
            · have := h.2; omega
            · have := h.2; omega
          · exact h.2 rfl
        have hT5 := Lib.hid (TreeAt.keep (S' := (fun b => ((S b ∧ b < w.heap.size) ∨ (w.heap.size + 3 ≤ b ∧ b < b6)) ∨ (b6 < b ∧ b ≠ b7))) (fun _ h _ => h) (keeps_sto w8' hNo e3) _ (hT4.to (fun q h _ => by
          rcases h with h | h
          · rcases h with h | h
            · exact .inl h
            · exact .inr ⟨h.1, h.2.1⟩
          · have h : wn.heap.size ≤ q := by simpa using h
            exact .inr ⟨by omega, by omega⟩)))
        have hKI3 := Lib.hid (KidsAt.keep (S' := (fun b => (S b ∧ b < w.heap.size) ∨ (w.heap.size + 3 ≤ b ∧ b < b6))) (fun _ h _ => h) (keeps_sto w8' (fun h => hNo (.inl h)) e3) (KidsAt.ext hx3 hKI2.out))
        have hKE3 := Lib.hid (StrsAt.keep (S' := (fun b => (S b ∧ b < w.heap.size) ∨ (w.heap.size + 3 ≤ b ∧ b < b6))) (fun _ h _ => h) (keeps_sto w8' (fun h => hNo (.inl h)) e3) (StrsAt.ext hx3 hKE2.out))
        clear hT4 hNo
        go_wp2_with fail
        go_roundw
        case rel => exact ⟨ext_sto6 (ext_trans hxn hx3) (by omega) _ _ _ _ _ _, ext_refl _, (hb2n.ext hx3).sto6' (by omega) _ _ _ _ _ _, (hb4n.ext hx3).sto6' (by omega) _ _ _ _ _ _, hKI3.out, hKE3.out, j + 1, e3, by omega, by go_num, hb93.sto e3, by
          rw [show mapT ((l.map fun p => (p.1, y p.1)).take (j + 1)) = withT (mapT ((l.map fun p => (p.1, y p.1)).take j)) p.1 (y p.1) from foldl_snoc _ _ HPW.out]
          have h9 := hT5.out
          skip
          exact h9⟩
        case measure => simp [intOf]; omega
    case neg =>
      have hjn : j = vn := by omega
      have hfin : mapT ((l.map fun p => (p.1, y p.1)).take j) = mapT (l.map fun p => (p.1, y p.1)) := by rw [List.take_of_length_le (by have := HN.out; rw [List.length_map]; omega)]
      rw [hfin] at hTo
      have hxx := hx.sz
      obtain ⟨eok, eox, eod, eoy, eoka, eon, eokc, eoca, eom, eocc⟩ := eo
      obtain ⟨z0, z1, z2, z3, z4, z5⟩ := hb7.six
      have hx1 : Ext wq (wq.alloc (.cells #[.string s_bool, .int .i64 eok, .string eox, .float .f64 eod, .bool eoy, .slice eoka eon eokc, .slice eoca eom eocc] 72)) := ext_alloc (ext_refl _) _
      have hbp : Box (wq.alloc (.cells #[.string s_bool, .int .i64 eok, .string eox, .float .f64 eod, .bool eoy, .slice eoka eon eokc, .slice eoca eom eocc] 72)) wq.heap.size _ _ := Box.at rfl _ _
      have hM := map_any (S := fun b => (fun b => ((S b ∧ b < w.heap.size) ∨ (w.heap.size + 3 ≤ b ∧ b < b6)) ∨ (b6 < b ∧ b ≠ b7)) b ∨ wq.heap.size ≤ b) (some ⟨wq.heap.size, 0, none⟩) 1 1 [(s_bool, mapT (l.map fun p => (p.1, y p.1)))] _ (pairs_one (e := ⟨eok, eox, eod, eoy, eoka, eon, eokc, eoca, eom, eocc⟩) hbp (.inr (Nat.le_refl _)) ((hTo.out.to fun b h _ => .inl h).ext hx1)) (by decide)
      go_wp2_with (first
        | (go_at_call 42; refine hM.mono ?_; rintro r w8' ⟨e2, rfl, hT2, hx2⟩; simp only [El.val]; have hb66 := (hb2.ext hx1).ext hx2; obtain ⟨o0, o1, o2, o3, o4, o5⟩ := hb66.six; have f0 := hb66.free 0; have f1 := hb66.free 1; have f2 := hb66.free 2; have f3 := hb66.free 3; have f4 := hb66.free 4; have f5 := hb66.free 5)
        | fail)
      refine post_tree rfl rfl (hb66.sto e2) rfl ⟨e2, rfl, ?_, ext_sto6 (ext_trans hx (ext_trans hx1 hx2)) (by omega) _ _ _ _ _ _⟩
      have hT3 : TreeAt (fun b => (S b ∧ b < w.heap.size) ∨ w.heap.size + 3 ≤ b) w8' e2 (mapT [(s_bool, mapT (l.map fun p => (p.1, y p.1)))]) := hT2.to fun q h1 _ => by
        rcases h1 with h | h
        · rcases h.1 with h | h
          · rcases h with h | h
            · rcases h with h | h
              · exact .inl h
              · exact .inr h.1
            · exact .inr (by have := h.1; omega)
          · exact .inr (by omega)
        · have h : wq.heap.size + 1 ≤ q := by simpa using h
          exact .inr (by omega)
      have hN : ¬ ((fun b => (S b ∧ b < w.heap.size) ∨ w.heap.size + 3 ≤ b) (w.heap.size + 1)) := by simp
      exact TreeAt.keep (fun q h _ => by
        rcases h with h | h
        · exact .inl h
        · exact .inr (by omega)) (keeps_sto w8' hN e2) _ hT3
set_option maxRecDepth 20000 in
set_option maxHeartbeats 16000000 in
theorem reads_dis (qs : List (ByteArray × T)) (y : ByteArray → T) (hq : ∀ k t, lastOf qs k = some t → t.kind ≠ 0 ∧ (hasS [s_queries] k = true → t.kind = 4 → t.kids.length ≠ 0)) (hlen : qs.length ≤ 65536) (hR : ∀ k t, lastOf qs k = some t → RD (wrapT [s_queries] k t) (y k)) : Reads (mapT [(s_dis_max, mapT qs)]) (mapT [(s_dis_max, mapT (qs.map fun p => (p.1, y p.1)))]) := by
  obtain ⟨l, hm, hRi, hlo⟩ := mapT_told (qs.map (wrapL [s_queries]))
  have hll : l.length ≤ 65536 := by
    have := (mapT_len (qs.map (wrapL [s_queries]))).1
    rw [hm] at this
    unfold mapOf at this
    simp [T.keys] at this
    omega
  have hms : mapT (qs.map fun p => (p.1, y p.1)) = mapT (l.map fun p => (p.1, y p.1)) := mapT_congr fun k => by
    rw [show lastOf (qs.map fun p => (p.1, y p.1)) k = (lastOf qs k).map (fun _ => y k) from lastOf_mapk (fun k _ => y k) qs k, show lastOf (l.map fun p => (p.1, y p.1)) k = (lastOf l k).map (fun _ => y k) from lastOf_mapk (fun k _ => y k) l k, hlo, wrap_last]
    cases lastOf qs k <;> rfl
  rw [hms]
  have HRD := Lib.hid (show ∀ k t, lastOf l k = some t → RD t (y k) from fun k t h => by
    rw [hlo, wrap_last] at h
    obtain ⟨t0, h0, rfl⟩ := Option.map_eq_some_iff.1 h
    exact hR k t0 h0)
  have HM := Lib.hid hm
  have HRI := Lib.hid hRi
  have HLL := Lib.hid hll
  clear hm hRi hlo hll hms hR
  intro S e w h
  have HH := Lib.hid h
  have hm := h
  rw [mapT_one] at hm
  unfold mapOf at hm
  obtain ⟨h1, -, -, -, h5, h6⟩ := hm.parts
  obtain ⟨ek, ex, ed, ey, eka, en, ekc, eca, em, ecc⟩ := e
  simp only at h1 h5 h6
  obtain rfl : ek = 5 := h1
  have hen : en = 1 := h5.1.symm
  have hem : em = 1 := h6.1.symm
  subst hen hem
  obtain ⟨kb, ko, rfl, hSk, hck⟩ := h5.2.2.2 0 _ rfl
  obtain ⟨xb, xo, ⟨gk, gx, gd, gy, gka, gn, gkc, gca, gm, gcc⟩, rfl, hSx, hcx, hTx⟩ := h6.get (j := 0) rfl
  have hck : w.cell? ⟨kb, ko, none⟩ = some (.string s_dis_max) := by simpa using hck
  have hTx : TreeAt S w _ (mapT qs) := hTx
  have hcx : CellsAt w xb xo (⟨gk, gx, gd, gy, gka, gn, gkc, gca, gm, gcc⟩ : El) := by simpa using hcx
  obtain rfl : gk = 5 := by have h9 := hTx.parts.1; rw [mapT_kind] at h9; exact h9
  have HTX := Lib.hid (hTx.to (S' := fun b => S b ∧ b < w.heap.size) (fun b h1 h2 => ⟨h1, h2⟩))
  clear h hm h5 h6 hTx hSk hSx
  simp only [El.val] at HH ⊢
  go_enter Tryz.func20, Tryz.ntmps20
  go_upto_region 3 with fail
  have hx0 : Ext w ((w.alloc (.cells #[.int .i64 5, .string ex, .float .f64 ed, .bool ey, .slice (some ⟨kb, ko, none⟩) 1 ekc, .slice (some ⟨xb, xo, none⟩) 1 ecc] 26)).alloc (.cells (El.arr El0) 26)) := ext_alloc (ext_alloc (ext_refl _) _) _
  have hb1 : Box ((w.alloc (.cells #[.int .i64 5, .string ex, .float .f64 ed, .bool ey, .slice (some ⟨kb, ko, none⟩) 1 ekc, .slice (some ⟨xb, xo, none⟩) 1 ecc] 26)).alloc (.cells (El.arr El0) 26)) w.heap.size ((⟨5, ex, ed, ey, some ⟨kb, ko, none⟩, 1, ekc, some ⟨xb, xo, none⟩, 1, ecc⟩ : El)).arr 26 := (Box.at rfl _ _).alloc _
  have hb2 : Box ((w.alloc (.cells #[.int .i64 5, .string ex, .float .f64 ed, .bool ey, .slice (some ⟨kb, ko, none⟩) 1 ekc, .slice (some ⟨xb, xo, none⟩) 1 ecc] 26)).alloc (.cells (El.arr El0) 26)) (w.heap.size + 1) (El.arr El0) 26 := Box.at (by simp) _ _
  have hsz0 : ((w.alloc (.cells #[.int .i64 5, .string ex, .float .f64 ed, .bool ey, .slice (some ⟨kb, ko, none⟩) 1 ekc, .slice (some ⟨xb, xo, none⟩) 1 ecc] 26)).alloc (.cells (El.arr El0) 26)).heap.size = w.heap.size + 2 := by simp
  generalize hWW : ((w.alloc (.cells #[.int .i64 5, .string ex, .float .f64 ed, .bool ey, .slice (some ⟨kb, ko, none⟩) 1 ekc, .slice (some ⟨xb, xo, none⟩) 1 ecc] 26)).alloc (.cells (#[.int .i64 0, .string ⟨#[]⟩, .float .f64 0, .bool false, .slice none 0 0, .slice none 0 0]) 26)) = w0
  have hWW2 : ((w.alloc (.cells #[.int .i64 5, .string ex, .float .f64 ed, .bool ey, .slice (some ⟨kb, ko, none⟩) 1 ekc, .slice (some ⟨xb, xo, none⟩) 1 ecc] 26)).alloc (.cells (El.arr El0) 26)) = w0 := hWW
  rw [hWW2] at hx0 hb1 hb2 hsz0
  clear hWW hWW2
  have hck0 := hx0.cell hck
  have hcx0 := CellsAt.ext hx0 hcx
  refine wp_region_order (fun (w' : World) => Six w' w.heap.size (⟨5, ex, ed, ey, some ⟨kb, ko, none⟩, 1, ekc, some ⟨xb, xo, none⟩, 1, ecc⟩ : El) ∧ w'.cell? ⟨kb, ko, none⟩ = some (.string s_dis_max) ∧ CellsAt w' xb xo (⟨5, gx, gd, gy, gka, gn, gkc, gca, gm, gcc⟩ : El)) [0, 1, 2, 3, 4, 5, 6, 7, 9] [0, 1, 2, 3, 4, 5, 6, 7, 8, 9, 10] (by kernel_rfl) (by kernel_rfl) (fun d _ _ _ _ h => by cases d <;> exact h) (by kernel_rfl) ?_
  have hS : (fun (w' : World) => Six w' w.heap.size (⟨5, ex, ed, ey, some ⟨kb, ko, none⟩, 1, ekc, some ⟨xb, xo, none⟩, 1, ecc⟩ : El) ∧ w'.cell? ⟨kb, ko, none⟩ = some (.string s_dis_max) ∧ CellsAt w' xb xo (⟨5, gx, gd, gy, gka, gn, gkc, gca, gm, gcc⟩ : El)) w0.drew := ⟨hb1.Six, hck0, hcx0⟩
  iterate 8 (apply ord_held rfl rfl (by assumption) rfl; (focus ((intro w' hS'); go_simp; (try with_reducible rfl))); (try simp only [Act.put, List.setIfInBounds_toArray, List.set_cons_zero, List.set_cons_succ]))
  (apply ord_loud rfl rfl rfl; intro K hK; go_simp)
  have x1 : Ext w0 (w0.alloc (.cells (El.arr El0) 26)).drew := ext_drew (ext_alloc (ext_refl _) _)
  have hS1 : (fun (w' : World) => Six w' w.heap.size (⟨5, ex, ed, ey, some ⟨kb, ko, none⟩, 1, ekc, some ⟨xb, xo, none⟩, 1, ecc⟩ : El) ∧ w'.cell? ⟨kb, ko, none⟩ = some (.string s_dis_max) ∧ CellsAt w' xb xo (⟨5, gx, gd, gy, gka, gn, gkc, gca, gm, gcc⟩ : El)) (w0.alloc (.cells (El.arr El0) 26)).drew := ⟨(hb1.ext x1).Six, x1.cell hck0, CellsAt.ext x1 hcx0⟩
  refine hK _ _ (fun _ => hS1) ?_
  clear hK K
  (try simp only [Act.put, List.setIfInBounds_toArray, List.set_cons_zero, List.set_cons_succ])
  (apply ord_held rfl rfl (by assumption) rfl; (focus ((intro w' hS'); go_simp; (try with_reducible rfl))); (try simp only [Act.put, List.setIfInBounds_toArray, List.set_cons_zero, List.set_cons_succ]))
  (apply ord_last rfl rfl rfl (by kernel_rfl); intro K hK; go_simp; refine hK _ _ ?_; clear hK K; (try simp only [Act.put, List.setIfInBounds_toArray, List.set_cons_zero, List.set_cons_succ]))
  refine ord_end ?_
  have x4 : Ext w0 (w0.alloc (.cells ((⟨5, gx, gd, gy, gka, gn, gkc, gca, gm, gcc⟩ : El)).arr 26)).drew := ext_drew (ext_alloc (ext_refl _) _)
  have hb4 : Box (w0.alloc (.cells ((⟨5, gx, gd, gy, gka, gn, gkc, gca, gm, gcc⟩ : El)).arr 26)).drew (w.heap.size + 2) ((⟨5, gx, gd, gy, gka, gn, gkc, gca, gm, gcc⟩ : El)).arr 26 := (Box.at hsz0 _ _).drew
  have hb1 := hb1.ext x4
  have hb2 := hb2.ext x4
  have hxw4 := ext_trans hx0 x4
  generalize hWW : (w0.alloc (.cells #[.int .i64 5, .string gx, .float .f64 gd, .bool gy, .slice gka gn gkc, .slice gca gm gcc] 26)).drew = w4
  have hWW2 : (w0.alloc (.cells ((⟨5, gx, gd, gy, gka, gn, gkc, gca, gm, gcc⟩ : El)).arr 26)).drew = w4 := hWW
  rw [hWW2] at hb4 hb1 hb2 hxw4
  clear hWW hWW2 x4 x1 hS hS1 hck0 hcx0 hx0 hsz0
  obtain ⟨s0, s1, s2, s3, s4, s5⟩ := hb4.six
  have hb4l := hb4.lt
  have HRB := Lib.hid fun w' (x : Ext w w') a n c (h : StrsAt (fun b => (S b ∧ b < w.heap.size) ∨ w.heap.size + 3 ≤ b) w' a n c [s_queries]) => rbw_any (S := (fun b => (S b ∧ b < w.heap.size) ∨ w.heap.size + 3 ≤ b)) s_dis_max qs (⟨5, ex, ed, ey, some ⟨kb, ko, none⟩, 1, ekc, some ⟨xb, xo, none⟩, 1, ecc⟩ : El) a n c [s_queries] w' (TreeAt.ext x (HH.out.to (fun b h1 h2 => .inl ⟨h1, h2⟩))) h hq hlen
  clear hq HH HTX
  go_upto_region 13 with (first
    | fail)
  have x5 : Ext w4 ((w4.alloc (.cells #[] 9)).alloc (.cells #[.string s_queries] 9)) := by (repeat (first | exact ext_refl _ | assumption | refine ext_alloc ?_ _ | refine ext_drew ?_ | refine ext_set ?_ (by simp) _ | refine ext_trans ?_ (by assumption)))
  have hsl : StrsAt (fun b => (S b ∧ b < w.heap.size) ∨ w.heap.size + 3 ≤ b) ((w4.alloc (.cells #[] 9)).alloc (.cells #[.string s_queries] 9)) (some ⟨w4.heap.size + 1, 0, none⟩) 1 1 [s_queries] := strs_just (Box.at (by simp) _ _) (.inr (by omega))
  have hb1 := hb1.ext x5
  have hb2 := hb2.ext x5
  have hb4 := hb4.ext x5
  generalize hWW : ((w4.alloc (.cells #[] 9)).alloc (.cells #[.string s_queries] 9)) = wp at x5 hsl hb1 hb2 hb4 ⊢
  clear hWW
  obtain ⟨a0, a1, a2, a3, a4, a5⟩ := hb1.six
  go_upto_region 14 with (first
    | (go_at_call 65; refine (HRB.out _ (ext_trans hxw4 x5) _ _ _ hsl).mono ?_; rintro r w5 ⟨⟨rk, rx, rd, ry, rka, rn, rkc, rca, rm, rcc⟩, rfl, hT5, hx5⟩; simp only [El.val])
    | fail)
  have x6 : Ext w5 (w5.alloc (.cells #[.int .i64 rk, .string rx, .float .f64 rd, .bool ry, .slice rka rn rkc, .slice rca rm rcc] 26)) := ext_alloc (ext_refl _) _
  have hx56 := ext_trans hx5 x6
  have hs5 := x5.sz
  have hxw4 := ext_trans hxw4 x5
  have hb62 := hb2.ext hx56
  have hb64 := hb4.ext hx56
  have hxw6 := ext_trans hxw4 hx56
  have hb4w := (hb4.ext hx5).lt
  have hT6 : TreeAt (fun b => (S b ∧ b < w.heap.size) ∨ (w.heap.size + 3 ≤ b ∧ b < w5.heap.size)) (w5.alloc (.cells #[.int .i64 rk, .string rx, .float .f64 rd, .bool ry, .slice rka rn rkc, .slice rca rm rcc] 26)) (⟨rk, rx, rd, ry, rka, rn, rkc, rca, rm, rcc⟩ : El) (mapT [(s_dis_max, mapT (qs.map (wrapL [s_queries])))]) := (hT5.to (fun b h1 h2 => by
    rcases h1 with h1 | h1
    · rcases h1.1 with h | h
      · exact .inl h
      · exact .inr ⟨h, h2⟩
    · have h1 : wp.heap.size ≤ b := h1
      exact .inr ⟨by omega, h2⟩)).ext x6
  have hb6 : Box (w5.alloc (.cells #[.int .i64 rk, .string rx, .float .f64 rd, .bool ry, .slice rka rn rkc, .slice rca rm rcc] 26)) w5.heap.size #[.int .i64 rk, .string rx, .float .f64 rd, .bool ry, .slice rka rn rkc, .slice rca rm rcc] 26 := Box.at rfl _ _
  have hs6 : w5.heap.size < (w5.alloc (.cells #[.int .i64 rk, .string rx, .float .f64 rd, .bool ry, .slice rka rn rkc, .slice rca rm rcc] 26)).heap.size := by simp
  have hAt := Lib.hid (at_map [(s_dis_max, mapT (qs.map (wrapL [s_queries])))] (⟨rk, rx, rd, ry, rka, rn, rkc, rca, rm, rcc⟩ : El) s_dis_max _ hT6)
  clear hT6 hT5 hx56 hx5 x5 hb2 hb4 hb1 hsl hxw4 hb4l hs5 a0 a1 a2 a3 a4 a5
  generalize hWW : w5.alloc (.cells #[.int .i64 rk, .string rx, .float .f64 rd, .bool ry, .slice rka rn rkc, .slice rca rm rcc] 26) = w6 at x6 hb62 hb64 hxw6 hAt hs6 hb6 ⊢
  clear hWW x6
  generalize w5.heap.size = b6 at hb4w hAt hs6 hb6 ⊢
  obtain ⟨z0, z1, z2, z3, z4, z5⟩ := hb6.six
  go_upto_region 15 with (first
    | (go_at_call 41; refine hAt.out.mono ?_; rintro r w7 ⟨⟨vk, vx, vd, vy, vka, vn, vkc, vca, vm, vcc⟩, rfl, hT7, hx7⟩; simp only [El.val]
       have hb74 := hb64.ext hx7; obtain ⟨s0, s1, s2, s3, s4, s5⟩ := hb74.six; have f0 := hb74.free 0; have f1 := hb74.free 1; have f2 := hb74.free 2; have f3 := hb74.free 3; have f4 := hb74.free 4; have f5 := hb74.free 5)
    | fail)
  rw [show (lastOf [(s_dis_max, mapT (qs.map (wrapL [s_queries])))] s_dis_max).getD nullT = mapOf l by rw [lastOf_one]; exact HM.out] at hT7
  have hk5 := Lib.hid hT7.parts.2.2.2.2.1
  have hk6 := Lib.hid hT7.parts.2.2.2.2.2
  have hN4 : ¬ ((fun b => (S b ∧ b < w.heap.size) ∨ (w.heap.size + 3 ≤ b ∧ b < b6)) (w.heap.size + 2)) := fun h => by rcases h with h | h <;> omega
  have hgn : l.length = vn := by have := hk5.out.1; unfold mapOf at this; simpa [T.keys] using this
  have hgm : l.length = vm := by have := hk6.out.1; unfold mapOf at this; simpa [T.kids] using this
  obtain rfl : vn = vm := hgn.symm.trans hgm
  have hkc := hk5.out.2.1
  have hkm := hk5.out.2.2.1
  have hcc := hk6.out.2.1
  have hcm := hk6.out.2.2.1
  unfold maxLen at hkm hcm
  have HN := Lib.hid hgn
  have H5 := Lib.hid (StrsAt.keep (S' := (fun b => (S b ∧ b < w.heap.size) ∨ (w.heap.size + 3 ≤ b ∧ b < b6))) (fun _ h _ => h) (keeps_sto w7 hN4 (⟨vk, vx, vd, vy, vka, vn, vkc, vca, vn, vcc⟩ : El)) hk5.out)
  have H6 := Lib.hid (KidsAt.keep (S' := (fun b => (S b ∧ b < w.heap.size) ∨ (w.heap.size + 3 ≤ b ∧ b < b6))) (fun _ h _ => h) (keeps_sto w7 hN4 (⟨vk, vx, vd, vy, vka, vn, vkc, vca, vn, vcc⟩ : El)) hk6.out)
  clear hk5 hk6 hgn hgm hT7 hAt
  have hb84 : Box (sto w7 (w.heap.size + 2) (⟨vk, vx, vd, vy, vka, vn, vkc, vca, vn, vcc⟩ : El)) (w.heap.size + 2) (El.arr (⟨vk, vx, vd, vy, vka, vn, vkc, vca, vn, vcc⟩ : El)) 26 := hb74.sto (⟨vk, vx, vd, vy, vka, vn, vkc, vca, vn, vcc⟩ : El)
  have hb82 : Box (sto w7 (w.heap.size + 2) (⟨vk, vx, vd, vy, vka, vn, vkc, vca, vn, vcc⟩ : El)) (w.heap.size + 1) (El.arr El0) 26 := (hb62.ext hx7).sto6' (by omega) _ _ _ _ _ _
  have hxw8 : Ext w (sto w7 (w.heap.size + 2) (⟨vk, vx, vd, vy, vka, vn, vkc, vca, vn, vcc⟩ : El)) := ext_sto6 (ext_trans hxw6 hx7) (by omega) _ _ _ _ _ _
  have hb6s : b6 < (sto w7 (w.heap.size + 2) (⟨vk, vx, vd, vy, vka, vn, vkc, vca, vn, vcc⟩ : El)).heap.size := Nat.lt_of_lt_of_le (show b6 < w7.heap.size by have := hx7.sz; omega) (grown_sto6 w7 (w.heap.size + 2) (.int .i64 vk) (.string vx) (.float .f64 vd) (.bool vy) (.slice vka vn vkc) (.slice vca vn vcc)).size
  clear hb6 z0 z1 z2 z3 z4 z5 hb74 hb62 hb64 hx7 hxw6 hs6 f0 f1 f2 f3 f4 f5 s0 s1 s2 s3 s4 s5 hN4
  have hsw : (sto w7 (w.heap.size + 2) (⟨vk, vx, vd, vy, vka, vn, vkc, vca, vn, vcc⟩ : El)) = sto6 w7 (w.heap.size + 2) (.int .i64 vk) (.string vx) (.float .f64 vd) (.bool vy) (.slice vka vn vkc) (.slice vca vn vcc) := rfl
  rw [hsw] at hb84 hb82 hxw8 hb6s H5 H6
  unfold sto6 at hb84 hb82 hxw8 hb6s H5 H6
  clear hsw
  generalize hWW : (((((w7.setCell ⟨w.heap.size + 2, 0, none⟩ (.int .i64 vk)).setCell ⟨w.heap.size + 2, 1, none⟩ (.string vx)).setCell ⟨w.heap.size + 2, 2, none⟩ (.float .f64 vd)).setCell ⟨w.heap.size + 2, 3, none⟩ (.bool vy)).setCell ⟨w.heap.size + 2, 4, none⟩ (.slice vka vn vkc)).setCell ⟨w.heap.size + 2, 5, none⟩ (.slice vca vn vcc) = w8 at hb84 hb82 hxw8 hb6s H5 H6 ⊢
  clear hWW
  have hMp := map_any (S := fun _ => False) none 0 0 [] w8 ⟨rfl, Nat.le_refl _, by simp [maxLen], fun _ _ h => by simp at h⟩ (by decide)
  go_upto_region 16 with (first | (go_at_call 42; refine hMp.mono ?_; rintro r w9 ⟨(⟨ok, ox, od, oy, oka, on, okc, oca, om, occ⟩ : El), rfl, hT9, hx9⟩; simp only [El.val]) | fail)
  have hx10 : Ext w9 (w9.alloc (.cells (El.arr (⟨ok, ox, od, oy, oka, on, okc, oca, om, occ⟩ : El)) 26)) := ext_alloc (ext_refl _) _
  have hb7 : Box (w9.alloc (.cells (El.arr (⟨ok, ox, od, oy, oka, on, okc, oca, om, occ⟩ : El)) 26)) w9.heap.size (El.arr (⟨ok, ox, od, oy, oka, on, okc, oca, om, occ⟩ : El)) 26 := Box.at rfl _ _
  have hb67 : b6 < w9.heap.size := by have := hx9.sz; omega
  have hxx := ext_trans hx9 hx10
  have hb4 := hb84.ext hxx
  have hb2 := hb82.ext hxx
  have hxr := ext_trans hxw8 hxx
  have H5 := Lib.hid (StrsAt.ext hxx H5.out)
  have H6 := Lib.hid (KidsAt.ext hxx H6.out)
  have hTo := Lib.hid ((hT9.to (S' := fun b => ((S b ∧ b < w.heap.size) ∨ (w.heap.size + 3 ≤ b ∧ b < b6)) ∨ (b6 < b ∧ b ≠ w9.heap.size)) (fun b h1 h2 => by
    rcases h1 with h1 | h1
    · exact h1.1.elim
    · exact .inr ⟨by omega, by omega⟩)).ext hx10)
  clear hT9 hb84 hb82 hxw8 hMp hxx hx9 hx10 hb6s
  generalize w9.alloc (.cells (El.arr (⟨ok, ox, od, oy, oka, on, okc, oca, om, occ⟩ : El)) 26) = w10 at hb7 hb4 hb2 hxr H5 H6 hTo ⊢
  generalize w9.heap.size = b7 at hb7 hb67 hTo ⊢
  go_wp2_with fail
  go_loopw [8] (fun i wr => Ext w wr ∧ Ext w10 w10 ∧ Box wr (w.heap.size + 1) (El.arr El0) 26 ∧ Box wr (w.heap.size + 2) (El.arr (⟨vk, vx, vd, vy, vka, vn, vkc, vca, vn, vcc⟩ : El)) 26 ∧ KidsAt (fun b => (S b ∧ b < w.heap.size) ∨ (w.heap.size + 3 ≤ b ∧ b < b6)) wr vca vn vcc (mapOf l).kids ∧ StrsAt (fun b => (S b ∧ b < w.heap.size) ∨ (w.heap.size + 3 ≤ b ∧ b < b6)) wr vka vn vkc (mapOf l).keys ∧
    ∃ (j : Nat) (eo : El), j ≤ vn ∧ i = .int .i64 j ∧ Box wr b7 eo.arr 26 ∧ TreeAt (fun b => ((S b ∧ b < w.heap.size) ∨ (w.heap.size + 3 ≤ b ∧ b < b6)) ∨ (b6 < b ∧ b ≠ b7)) wr eo (mapT ((l.map fun p => (p.1, y p.1)).take j))) (fun i _ => vn - (intOf i).toNat)
  case atStart =>
    exact ⟨hxr, ext_refl _, hb2, hb4, H6.out, H5.out, 0, _, Nat.zero_le _, rfl, hb7, hTo.out⟩
  case round =>
    rename World => wq
    obtain ⟨hx, -, hb2, hb4, hKI, hKE, j, eo, hj, rfl, hb7, hTo⟩ := hrel
    obtain ⟨q0, q1, q2, q3, q4, q5⟩ := hb4.six
    have hTo := Lib.hid hTo
    have hb7l := hb7.lt
    by_cases hlt : j < vn
    case pos =>
      obtain ⟨p, hp⟩ := some_of_lt HN.out hlt
      obtain ⟨hp1, hp2⟩ := mapOf_keys l j p hp
      obtain ⟨b, off, rfl, hSb, hc⟩ := hKE.2.2.2 j p.1 hp1
      obtain ⟨b2, off2, ⟨kk, kx, kd, ky, kka, kn, kkc, kca, km, kcc⟩, rfl, hSb2, hc6, hTk⟩ := hKI.get hp2
      have hRD := Lib.hid (HRD.out p.1 p.2 (rising_lookup HRI.out hp))
      have HPW := Lib.hid (show (l.map fun p => (p.1, y p.1))[j]? = some (p.1, y p.1) by rw [List.getElem?_map, hp]; rfl)
      have HKE4 := Lib.hid (show kk = p.2.kind from hTk.parts.1)
      have HTk := Lib.hid hTk
      have hKE := Lib.hid hKE
      have hKI := Lib.hid hKI
      clear hp hp1 hp2 hTk
      have hx1 : Ext wq (wq.alloc (.cells #[.int .i64 kk, .string kx, .float .f64 kd, .bool ky, .slice kka kn kkc, .slice kca km kcc] 26)) := ext_alloc (ext_refl _) _
      have hb9 : Box (wq.alloc (.cells #[.int .i64 kk, .string kx, .float .f64 kd, .bool ky, .slice kka kn kkc, .slice kca km kcc] 26)) wq.heap.size #[.int .i64 kk, .string kx, .float .f64 kd, .bool ky, .slice kka kn kkc, .slice kca km kcc] 26 := Box.at rfl _ _
      have hblt : b < wq.heap.size := lt_of_cell hc
      go_upto_region 20 with fail
      have hb4 := hb4.ext hx1
      have hb2 := hb2.ext hx1
      have hb7 := hb7.ext hx1
      have hc := hx1.cell hc
      have hKE := Lib.hid (StrsAt.ext hx1 hKE.out)
      have hKI := Lib.hid (KidsAt.ext hx1 hKI.out)
      have hTo := Lib.hid (TreeAt.ext hx1 (hTo.out.to (S' := fun b => ((S b ∧ b < w.heap.size) ∨ (w.heap.size + 3 ≤ b ∧ b < b6)) ∨ (b6 < b ∧ b ≠ b7 ∧ b ≠ wq.heap.size)) (fun b h hl => by
        rcases h with h | h
        · exact .inl h
        · exact .inr ⟨h.1, h.2, by omega⟩)))
      have HTk := Lib.hid (TreeAt.ext hx1 HTk.out)
      have hx := ext_trans hx hx1
      have hb9l := hb9.lt
      have hb79 : b7 < wq.heap.size := hb7l
      clear q0 q1 q2 q3 q4 q5 hx1 hb7l hblt hc6
      generalize wq.alloc (.cells #[.int .i64 kk, .string kx, .float .f64 kd, .bool ky, .slice kka kn kkc, .slice kca km kcc] 26) = w6 at hb9 hb4 hb2 hb7 hc hKE hKI hTo HTk hx hb9l ⊢
      generalize wq.heap.size = b9 at hb9 hb79 hb9l hTo ⊢
      by_cases hke : kk = 4
      case pos =>
        obtain rfl := hke
        obtain ⟨h4, hkl, ys, hys, hyl, hyR⟩ : p.2.kind = 4 ∧ p.2.kids.length ≤ 1048576 ∧ ∃ ys, y p.1 = listT ys ∧ ys.length = p.2.kids.length ∧ ∀ (i : Nat) (x z : T), p.2.kids[i]? = some x → ys[i]? = some z → Reads x z := by
          rcases hRD.out with h | h
          · exact h
          · exact absurd HKE4.out.symm h.1
        have hKL := Lib.hid HTk.out.parts.2.2.2.2.2
        have hkm : p.2.kids.length = km := hKL.out.1
        have HYR := Lib.hid hyR
        have HYS := Lib.hid hys
        have HYL := Lib.hid (show ys.length = km by omega)
        have hkmb : km ≤ 1048576 := by omega
        clear hyR hys hyl hkl hkm h4 HKE4 hRD
        obtain ⟨m0, m1, m2, m3, m4, m5⟩ := hb9.six
        go_wp2_with (first
          | (go_at_call 66; refine (list_exact none 0 0 _).mono ?_; rintro r wl ⟨rfl, hxl⟩; simp only [El.val])
          | fail)
        have hsl := hxl.sz
        clear m0 m1 m2 m3 m4 m5
        go_loopw [11] (fun i wr => Ext w6 wr ∧ wl.heap.size + 1 ≤ wr.heap.size ∧ ∃ (jj : Nat) (kes : List El) (ca : Option Addr) (cn cc : Nat), jj ≤ km ∧ i = .int .i64 jj ∧ kes.length = jj ∧ Making wr (wl.heap.size + 1) wl.heap.size 4 [] kes none 0 0 ca cn cc ∧ KinO (fun b => ((S b ∧ b < w.heap.size) ∨ (w.heap.size + 3 ≤ b ∧ b < b6))) wr (wl.heap.size + 1) (.slice ca cn cc) kes (ys.take jj)) (fun i _ => km - (intOf i).toNat)
        case atStart => exact ⟨ext_alloc hxl _, by simp, 0, [], none, 0, 0, Nat.zero_le _, rfl, rfl, ⟨Box.at rfl _ _, World.ownsRow_nil _ _ _ _, World.ownsRow_nil _ _ _ _, by omega, fun _ h => by cases h⟩, KinO.nil _ _ _ _⟩
        case round =>
          rename World => wi
          obtain ⟨hxi, hsi, jj, kes, ca, cn, cc, hjj, rfl, hes, M, HK⟩ := hrel
          have HES := Lib.hid hes
          have HK := Lib.hid HK
          clear hes
          have hb9i := hb9.ext hxi
          have m5 := hb9i.cell 5 _ rfl
          by_cases hlj : jj < km
          case pos =>
            obtain ⟨t0, ht0⟩ := some_of_lt hKL.out.1 hlj
            obtain ⟨z0, hz0⟩ := some_of_lt HYL.out hlj
            obtain ⟨lb, lo, ⟨zk, zx, zd, zy, zka, zn, zkc, zca, zm, zcc⟩, rfl, -, hcz, hTz⟩ := hKL.out.get ht0
            have hRu := Lib.hid (fun (w1 : World) (x : Ext w6 w1) => HYR.out jj t0 z0 ht0 hz0 (fun b => (S b ∧ b < w.heap.size) ∨ (w.heap.size + 3 ≤ b ∧ b < b6)) _ w1 (TreeAt.ext x hTz))
            have hlbw : lb < w6.heap.size := lt_of_cell hcz.1
            have hcz := CellsAt.ext hxi hcz
            have HZ := Lib.hid hz0
            clear ht0 hz0 hTz
            obtain ⟨o0, o1, o2, o3, o4, o5⟩ := M.box.six
            go_upto_region 25 with fail
            refine wp_region_order (fun (w' : World) => w'.cell? ⟨wl.heap.size, 5, none⟩ = some (.slice ca cn cc) ∧ w'.cell? ⟨b9, 5, none⟩ = some (.slice (some ⟨lb, lo, none⟩) km kcc) ∧ CellsAt w' lb (lo + jj * 6) (⟨zk, zx, zd, zy, zka, zn, zkc, zca, zm, zcc⟩ : El)) [0, 1, 2, 3, 4, 5, 6, 10] [0, 1, 2, 3, 4, 5, 6, 7, 8, 9, 10, 11] (by kernel_rfl) (by kernel_rfl) (fun d _ _ _ _ h => by cases d <;> exact h) (by kernel_rfl) ?_
            have hS : (fun (w' : World) => w'.cell? ⟨wl.heap.size, 5, none⟩ = some (.slice ca cn cc) ∧ w'.cell? ⟨b9, 5, none⟩ = some (.slice (some ⟨lb, lo, none⟩) km kcc) ∧ CellsAt w' lb (lo + jj * 6) (⟨zk, zx, zd, zy, zka, zn, zkc, zca, zm, zcc⟩ : El)) _ := ⟨o5, m5, hcz⟩
            iterate 7 (apply ord_held rfl rfl (by assumption) rfl; (focus ((intro w' hS'); go_simp; (try with_reducible rfl))); (try simp only [Act.put, List.setIfInBounds_toArray, List.set_cons_zero, List.set_cons_succ]))
            (apply ord_loud rfl rfl rfl; intro K hK; go_simp)
            refine (hRu.out _ (ext_drew hxi)).mono ?_
            rintro r w2 ⟨e2, rfl, hT2, hx2⟩
            have x2 : Ext wi w2 := ext_trans (ext_drew (ext_refl _)) hx2
            have hS2 : (fun (w' : World) => w'.cell? ⟨wl.heap.size, 5, none⟩ = some (.slice ca cn cc) ∧ w'.cell? ⟨b9, 5, none⟩ = some (.slice (some ⟨lb, lo, none⟩) km kcc) ∧ CellsAt w' lb (lo + jj * 6) (⟨zk, zx, zd, zy, zka, zn, zkc, zca, zm, zcc⟩ : El)) w2 := ⟨x2.cell o5, x2.cell m5, CellsAt.ext x2 hcz⟩
            refine hK _ _ (fun _ => hS2) ?_
            clear hK K
            simp only [El.val]
            (try simp only [Act.put, List.setIfInBounds_toArray, List.set_cons_zero, List.set_cons_succ])
            (apply ord_loud rfl rfl rfl; intro K hK; go_simp)
            have x3 : Ext wi (w2.alloc (.cells #[.int .i64 e2.k, .string e2.x, .float .f64 e2.d, .bool e2.y, .slice e2.ka e2.n e2.kc, .slice e2.ca e2.m e2.cc] 26)) := ext_alloc x2 _
            have hbz : Box (w2.alloc (.cells #[.int .i64 e2.k, .string e2.x, .float .f64 e2.d, .bool e2.y, .slice e2.ka e2.n e2.kc, .slice e2.ca e2.m e2.cc] 26)) w2.heap.size e2.arr 26 := Box.new _ _ _
            have hT3 := hT2.ext (ext_alloc (ext_refl w2) (.cells #[.int .i64 e2.k, .string e2.x, .float .f64 e2.d, .bool e2.y, .slice e2.ka e2.n e2.kc, .slice e2.ca e2.m e2.cc] 26))
            have hS3 : (fun (w' : World) => w'.cell? ⟨wl.heap.size, 5, none⟩ = some (.slice ca cn cc) ∧ w'.cell? ⟨b9, 5, none⟩ = some (.slice (some ⟨lb, lo, none⟩) km kcc) ∧ CellsAt w' lb (lo + jj * 6) (⟨zk, zx, zd, zy, zka, zn, zkc, zca, zm, zcc⟩ : El)) (w2.alloc (.cells #[.int .i64 e2.k, .string e2.x, .float .f64 e2.d, .bool e2.y, .slice e2.ka e2.n e2.kc, .slice e2.ca e2.m e2.cc] 26)) := ⟨x3.cell o5, x3.cell m5, CellsAt.ext x3 hcz⟩
            refine hK _ _ (fun _ => hS3) ?_
            clear hK K
            have M1 := M.ext x3
            have hs2 := x2.sz
            have hbd : ∀ q, (Value.slice ca cn cc).ownBlock = some q → wl.heap.size + 1 ≤ q ∧ q < wi.heap.size := fun q h => M.kids.block h
            (try simp only [Act.put, List.setIfInBounds_toArray, List.set_cons_zero, List.set_cons_succ])
            apply ord_loud rfl rfl rfl
            intro K hK
            refine wp_append_tree _ _ _ rfl (wl.heap.size + 1) _ kes rfl M1.kids w2.heap.size e2 rfl (boxCells hbz) (by have := HES.out; omega) (by simp; omega) ?_
            intro g1 cap1 w4' hown hgrow hlies hglt
            have hS4 : (fun (w' : World) => w'.cell? ⟨wl.heap.size, 5, none⟩ = some (.slice ca cn cc) ∧ w'.cell? ⟨b9, 5, none⟩ = some (.slice (some ⟨lb, lo, none⟩) km kcc) ∧ CellsAt w' lb (lo + jj * 6) (⟨zk, zx, zd, zy, zka, zn, zkc, zca, zm, zcc⟩ : El)) w4' := ⟨hgrow.cell (x3.cell o5) (fun e => by have := hbd _ e.symm; simp at this; omega), hgrow.cell (x3.cell m5) (fun e => by have := hbd _ e.symm; simp at this; omega), ?_⟩
            rotate_left
            · obtain ⟨c0, c1, c2, c3, c4, c5⟩ := hcz
              have hq : ∀ (p : Addr) (u : Value), p.block = lb → wi.cell? p = some u → w4'.cell? p = some u := fun p u hp hc => hgrow.cell (x3.cell hc) (fun e => by have := hbd _ e.symm; omega)
              exact ⟨hq _ _ rfl c0, hq _ _ rfl c1, hq _ _ rfl c2, hq _ _ rfl c3, hq _ _ rfl c4, hq _ _ rfl c5⟩
            have q5 := (M1.boxMid' hgrow).free 5
            refine hK _ _ (fun _ => hS4) ?_
            clear hK K
            (try simp only [Act.put, List.setIfInBounds_toArray, List.set_cons_zero, List.set_cons_succ])
            have o5 := hS4.1
            (apply ord_held rfl rfl (by assumption) rfl; (focus ((intro w' hS'); go_simp; (try with_reducible rfl))); (try simp only [Act.put, List.setIfInBounds_toArray, List.set_cons_zero, List.set_cons_succ]))
            (apply ord_last rfl rfl rfl (by kernel_rfl); intro K hK; go_simp; refine hK _ _ ?_; clear hK K; (try simp only [Act.put, List.setIfInBounds_toArray, List.set_cons_zero, List.set_cons_succ]))
            refine ord_end ?_
            have M2 := M1.kid hown hgrow hlies
            have x4 := M1.extKid (ext_trans hxi x3) (by omega) hgrow 5 (.slice (some ⟨g1, 0, none⟩) (kes.length + 1) cap1)
            have hhw := hx.sz
            have hPl : ∀ b, (fun b => ((S b ∧ b < w.heap.size) ∨ (w.heap.size + 3 ≤ b ∧ b < b6))) b → b < wl.heap.size := fun b h => by
              rcases h with h | h
              · have := h.2; omega
              · have := h.2; omega
            have HK2 := Lib.hid ((HK.out.ext x3).step (hT3.to fun q h1 h2 => by
              rcases h1 with h1 | h1
              · exact .inl h1.1
              · have h3 : wi.heap.size ≤ q := h1
                exact .inr ⟨by omega, fun e => by have := (hbd q e).2; omega⟩) hPl (fun b h => (hbd b h).1) hgrow hlies (by omega : wl.heap.size < wl.heap.size + 1) 5 (.slice (some ⟨g1, 0, none⟩) (kes.length + 1) cap1) (kes.length + 1) cap1)
            have hszz : wl.heap.size + 1 ≤ (w4'.setCell ⟨wl.heap.size, 5, none⟩ (.slice (some ⟨g1, 0, none⟩) (kes.length + 1) cap1)).heap.size := by have h1 := hgrow.size; have h2 := x3.sz; simp; omega
            clear hown hgrow hlies hglt hS q5 M1 M o0 o1 o2 o3 o4 o5 hT2 hT3 hbz HK hS4 hS3 hS2 hbd
            generalize w4'.setCell ⟨wl.heap.size, 5, none⟩ (.slice (some ⟨g1, 0, none⟩) (kes.length + 1) cap1) = w7' at M2 x4 HK2 hszz ⊢
            go_wp2_with fail
            go_roundw
            case rel =>
              first
                | exact ⟨x4, hszz, jj + 1, kes ++ [e2], _, _, _, by omega, by go_num, by simp [HES.out], M2, by rw [take_snoc HZ.out]; exact HK2.out⟩
                | (repeat apply Exists.intro
                   refine And.intro ?_ rfl
                   exact ⟨x4, hszz, jj + 1, kes ++ [e2], _, _, _, by omega, by go_num, by simp [HES.out], M2, by rw [take_snoc HZ.out]; exact HK2.out⟩)
            case measure => simp [intOf]; omega
          have hjn : jj = km := by omega
          have hfull : ys.take jj = ys := List.take_of_length_le (by have h1 := HYL.out; omega)
          have hK := HK.out
          rw [hfull] at hK
          have hTK : TreeAt (fun b => ((S b ∧ b < w.heap.size) ∨ (w.heap.size + 3 ≤ b ∧ b < b6)) ∨ wl.heap.size + 1 ≤ b) wi ⟨4, ⟨#[]⟩, 0, false, none, 0, 0, ca, cn, cc⟩ (listT ys) := M.tree (ss := []) hK.1 (fun b hb => by cases hb) (fun b hb => .inr (M.kids.block hb).1) fun i e t h1 h2 => TreeAt.to (hK.2 i e t h1 h2) (fun b hb _ => hb.imp id (fun h => h.1))
          obtain ⟨o0, o1, o2, o3, o4, o5⟩ := M.box.six
          have hlb := M.box.lt
          clear m5
          obtain ⟨m0, m1, m2, m3, m4, m5⟩ := hb9i.six
          have f0 := hb9i.free 0; have f1 := hb9i.free 1; have f2 := hb9i.free 2; have f3 := hb9i.free 3; have f4 := hb9i.free 4; have f5 := hb9i.free 5
          clear hK HK hfull
          go_upto_region 28 with fail
          have hNs : ∀ q, (((S q ∧ q < w.heap.size) ∨ (w.heap.size + 3 ≤ q ∧ q < b6)) ∨ (b6 < q ∧ q ≠ b7 ∧ q ≠ b9)) → q ≠ b9 := fun q h e => by
            rcases h with h | h
            · rcases h with h | h
              · have := h.2; omega
              · have := h.2; omega
            · exact h.2.2 e
          have hww := hx.sz
          have hTK2 := Lib.hid (TreeAt.keep (S' := (fun b => ((S b ∧ b < w.heap.size) ∨ (w.heap.size + 3 ≤ b ∧ b < b6)) ∨ (b6 < b ∧ b ≠ b7 ∧ b ≠ b9))) (fun _ h _ => h) (keeps_sto wi (fun h => hNs b9 h rfl) (⟨4, ⟨#[]⟩, 0, false, none, 0, 0, ca, cn, cc⟩ : El)) _ (hTK.to (S' := (fun b => ((S b ∧ b < w.heap.size) ∨ (w.heap.size + 3 ≤ b ∧ b < b6)) ∨ (b6 < b ∧ b ≠ b7 ∧ b ≠ b9))) (fun q h _ => by
            rcases h with h | h
            · exact .inl h
            · exact .inr ⟨by omega, by omega, by omega⟩)))
          have hTo2 := Lib.hid (TreeAt.keep (S' := (fun b => ((S b ∧ b < w.heap.size) ∨ (w.heap.size + 3 ≤ b ∧ b < b6)) ∨ (b6 < b ∧ b ≠ b7 ∧ b ≠ b9))) (fun _ h _ => h) (keeps_sto wi (fun h => hNs b9 h rfl) (⟨4, ⟨#[]⟩, 0, false, none, 0, 0, ca, cn, cc⟩ : El)) _ (TreeAt.ext hxi hTo.out))
          have hKE2 := Lib.hid (StrsAt.keep (S' := (fun b => (S b ∧ b < w.heap.size) ∨ (w.heap.size + 3 ≤ b ∧ b < b6))) (fun _ h _ => h) (keeps_sto wi (fun h => hNs b9 (.inl h) rfl) (⟨4, ⟨#[]⟩, 0, false, none, 0, 0, ca, cn, cc⟩ : El)) (StrsAt.ext hxi hKE.out))
          have hKI2 := Lib.hid (KidsAt.keep (S' := (fun b => (S b ∧ b < w.heap.size) ∨ (w.heap.size + 3 ≤ b ∧ b < b6))) (fun _ h _ => h) (keeps_sto wi (fun h => hNs b9 (.inl h) rfl) (⟨4, ⟨#[]⟩, 0, false, none, 0, 0, ca, cn, cc⟩ : El)) (KidsAt.ext hxi hKI.out))
          have hSb9 : b ≠ b9 := fun e => hNs b (.inl hSb) e
          have hcn : (sto wi b9 (⟨4, ⟨#[]⟩, 0, false, none, 0, 0, ca, cn, cc⟩ : El)).cell? ⟨b, off + j, none⟩ = some (.string p.1) := (keeps_sto (S := fun q => q ≠ b9) wi (by simp) (⟨4, ⟨#[]⟩, 0, false, none, 0, 0, ca, cn, cc⟩ : El)).cell hSb9 (hxi.cell hc)
          have hb4n : Box (sto wi b9 (⟨4, ⟨#[]⟩, 0, false, none, 0, 0, ca, cn, cc⟩ : El)) (w.heap.size + 2) (El.arr (⟨vk, vx, vd, vy, some ⟨b, off, none⟩, vn, vkc, some ⟨b2, off2, none⟩, vn, vcc⟩ : El)) 26 := (hb4.ext hxi).sto6' (by omega) _ _ _ _ _ _
          have hb2n : Box (sto wi b9 (⟨4, ⟨#[]⟩, 0, false, none, 0, 0, ca, cn, cc⟩ : El)) (w.heap.size + 1) (El.arr El0) 26 := (hb2.ext hxi).sto6' (by omega) _ _ _ _ _ _
          have hb7n : Box (sto wi b9 (⟨4, ⟨#[]⟩, 0, false, none, 0, 0, ca, cn, cc⟩ : El)) b7 eo.arr 26 := (hb7.ext hxi).sto6' (by omega) _ _ _ _ _ _
          have hb9n : Box (sto wi b9 (⟨4, ⟨#[]⟩, 0, false, none, 0, 0, ca, cn, cc⟩ : El)) b9 (El.arr (⟨4, ⟨#[]⟩, 0, false, none, 0, 0, ca, cn, cc⟩ : El)) 26 := (show Box wi b9 (El.arr (⟨4, kx, kd, ky, kka, kn, kkc, kca, km, kcc⟩ : El)) 26 from hb9i).sto (⟨4, ⟨#[]⟩, 0, false, none, 0, 0, ca, cn, cc⟩ : El)
          have hxn : Ext w (sto wi b9 (⟨4, ⟨#[]⟩, 0, false, none, 0, 0, ca, cn, cc⟩ : El)) := ext_sto6 (ext_trans hx hxi) (by omega) _ _ _ _ _ _
          have hsw : (sto wi b9 (⟨4, ⟨#[]⟩, 0, false, none, 0, 0, ca, cn, cc⟩ : El)) = sto6 wi b9 (.int .i64 4) (.string ⟨#[]⟩) (.float .f64 0) (.bool false) (.slice none 0 0) (.slice ca cn cc) := rfl
          rw [hsw] at hTK2 hTo2 hKE2 hKI2 hcn hb4n hb2n hb7n hb9n hxn
          unfold sto6 at hTK2 hTo2 hKE2 hKI2 hcn hb4n hb2n hb7n hb9n hxn
          clear hsw
          generalize hWW : (((((wi.setCell ⟨b9, 0, none⟩ (.int .i64 4)).setCell ⟨b9, 1, none⟩ (.string ⟨#[]⟩)).setCell ⟨b9, 2, none⟩ (.float .f64 0)).setCell ⟨b9, 3, none⟩ (.bool false)).setCell ⟨b9, 4, none⟩ (.slice none 0 0)).setCell ⟨b9, 5, none⟩ (.slice ca cn cc) = wn at hTK2 hTo2 hKE2 hKI2 hcn hb4n hb2n hb7n hb9n hxn ⊢
          clear hWW
          clear hNs hTo hKE hKI hc hb4 hb2 hb7 hb9 hx
          obtain ⟨n0, n1, n2, n3, n4, n5⟩ := hb9n.six
          have hl7 := hb7n.lt
          have hS : (fun (w' : World) => Six w' b7 eo ∧ Six w' (w.heap.size + 2) (⟨vk, vx, vd, vy, some ⟨b, off, none⟩, vn, vkc, some ⟨b2, off2, none⟩, vn, vcc⟩ : El) ∧ Six w' b9 (⟨4, ⟨#[]⟩, 0, false, none, 0, 0, ca, cn, cc⟩ : El) ∧ w'.cell? ⟨b, off + j, none⟩ = some (.string p.1)) wn.drew := ⟨hb7n.Six, hb4n.Six, hb9n.Six, hcn⟩
          refine wp_region_order (fun (w' : World) => Six w' b7 eo ∧ Six w' (w.heap.size + 2) (⟨vk, vx, vd, vy, some ⟨b, off, none⟩, vn, vkc, some ⟨b2, off2, none⟩, vn, vcc⟩ : El) ∧ Six w' b9 (⟨4, ⟨#[]⟩, 0, false, none, 0, 0, ca, cn, cc⟩ : El) ∧ w'.cell? ⟨b, off + j, none⟩ = some (.string p.1)) [0, 1, 2, 3, 4, 5, 6] [0, 1, 2, 3, 4, 5, 6, 7, 8] (by kernel_rfl) (by kernel_rfl) (fun d _ _ _ _ h => by cases d <;> exact h) (by kernel_rfl) ?_
          iterate 7 (apply ord_held rfl rfl (by assumption) rfl; (focus ((intro w' hS'); go_simp; (try with_reducible rfl))); (try simp only [Act.put, List.setIfInBounds_toArray, List.set_cons_zero, List.set_cons_succ]))
          (apply ord_loud rfl rfl rfl; intro K hK; go_simp)
          have hlen := mapT_len ((l.map fun p => (p.1, y p.1)).take j)
          have hj2 : ((l.map fun p => (p.1, y p.1)).take j).length ≤ j := List.length_take_le _ _
          have hjl := HLL.out
          have hjn := HN.out
          refine (with_any (S := (fun b => ((S b ∧ b < w.heap.size) ∨ (w.heap.size + 3 ≤ b ∧ b < b6)) ∨ (b6 < b ∧ b ≠ b7 ∧ b ≠ b9))) eo (mapT ((l.map fun p => (p.1, y p.1)).take j)) p.1 (⟨4, ⟨#[]⟩, 0, false, none, 0, 0, ca, cn, cc⟩ : El) (listT ys) _ (hTo2.out.ext (ext_drew (ext_refl _))) (hTK2.out.ext (ext_drew (ext_refl _))) (by omega) (by omega) (by omega)).mono ?_
          rintro r w8' ⟨e3, rfl, hT4, hx4⟩
          have hx3 : Ext wn w8' := ext_trans (ext_drew (ext_refl _)) hx4
          refine hK _ _ (fun _ => ⟨Six.ext hx4 hS.1, Six.ext hx4 hS.2.1, Six.ext hx4 hS.2.2.1, hx4.cell hS.2.2.2⟩) ?_
          clear hK K hS
          simp only [El.val]
          (try simp only [Act.put, List.setIfInBounds_toArray, List.set_cons_zero, List.set_cons_succ])
          have hb93 := hb7n.ext hx3
          obtain ⟨u0, u1, u2, u3, u4, u5⟩ := hb93.six
          have f0 := hb93.free 0; have f1 := hb93.free 1; have f2 := hb93.free 2; have f3 := hb93.free 3; have f4 := hb93.free 4; have f5 := hb93.free 5
          clear n0 n1 n2 n3 n4 n5
          (apply ord_last rfl rfl rfl (by kernel_rfl); intro K hK; go_simp; refine hK _ _ ?_; clear hK K; (try simp only [Act.put, List.setIfInBounds_toArray, List.set_cons_zero, List.set_cons_succ]))
          refine ord_end ?_
          have hxx := hxn.sz
          have hNo : ¬ ((fun b => ((S b ∧ b < w.heap.size) ∨ (w.heap.size + 3 ≤ b ∧ b < b6)) ∨ (b6 < b ∧ b ≠ b7)) b7) := fun h => by
            rcases h with h | h
            · rcases h with h | h
              · have := h.2; omega
              · have := h.2; omega
            · exact h.2 rfl
          have hT5 := Lib.hid (TreeAt.keep (S' := (fun b => ((S b ∧ b < w.heap.size) ∨ (w.heap.size + 3 ≤ b ∧ b < b6)) ∨ (b6 < b ∧ b ≠ b7))) (fun _ h _ => h) (keeps_sto w8' hNo e3) _ (hT4.to (fun q h _ => by
            rcases h with h | h
            · rcases h with h | h
              · exact .inl h
              · exact .inr ⟨h.1, h.2.1⟩
            · have h : wn.heap.size ≤ q := by simpa using h
              exact .inr ⟨by omega, by omega⟩)))
          have hKI3 := Lib.hid (KidsAt.keep (S' := (fun b => (S b ∧ b < w.heap.size) ∨ (w.heap.size + 3 ≤ b ∧ b < b6))) (fun _ h _ => h) (keeps_sto w8' (fun h => hNo (.inl h)) e3) (KidsAt.ext hx3 hKI2.out))
          have hKE3 := Lib.hid (StrsAt.keep (S' := (fun b => (S b ∧ b < w.heap.size) ∨ (w.heap.size + 3 ≤ b ∧ b < b6))) (fun _ h _ => h) (keeps_sto w8' (fun h => hNo (.inl h)) e3) (StrsAt.ext hx3 hKE2.out))
          clear hT4 hNo
          go_wp2_with fail
          go_roundw
          case rel => exact ⟨ext_sto6 (ext_trans hxn hx3) (by omega) _ _ _ _ _ _, ext_refl _, (hb2n.ext hx3).sto6' (by omega) _ _ _ _ _ _, (hb4n.ext hx3).sto6' (by omega) _ _ _ _ _ _, hKI3.out, hKE3.out, j + 1, e3, by omega, by go_num, hb93.sto e3, by
            rw [show mapT ((l.map fun p => (p.1, y p.1)).take (j + 1)) = withT (mapT ((l.map fun p => (p.1, y p.1)).take j)) p.1 (y p.1) from foldl_snoc _ _ HPW.out]
            have h9 := hT5.out
            rw [HYS.out]
            exact h9⟩
          case measure => simp [intOf]; omega
      case neg =>
        have hRu : Reads p.2 (y p.1) := by
          rcases hRD.out with h | h
          · exact absurd (HKE4.out.trans h.1) hke
          · exact h.2
        have hk4n : (kk == 4) = false := by simpa using hke
        have HRu := Lib.hid (hRu (fun b => (S b ∧ b < w.heap.size) ∨ (w.heap.size + 3 ≤ b ∧ b < b6)) _ w6 HTk.out)
        clear hRu hRD HKE4
        obtain ⟨m0, m1, m2, m3, m4, m5⟩ := hb9.six
        go_upto_region 28 with (first
          | (go_at_call 20; refine HRu.out.mono ?_; rintro r w2 ⟨⟨zk, zx, zd, zy, zka, zn, zkc, zca, zm, zcc⟩, rfl, hT2, hx2⟩; simp only [El.val]
             have hb92 := hb9.ext hx2; obtain ⟨o0, o1, o2, o3, o4, o5⟩ := hb92.six; have f0 := hb92.free 0; have f1 := hb92.free 1; have f2 := hb92.free 2; have f3 := hb92.free 3; have f4 := hb92.free 4; have f5 := hb92.free 5)
          | fail)
        clear m0 m1 m2 m3 m4 m5
        have hNs : ∀ q, (((S q ∧ q < w.heap.size) ∨ (w.heap.size + 3 ≤ q ∧ q < b6)) ∨ (b6 < q ∧ q ≠ b7 ∧ q ≠ b9)) → q ≠ b9 := fun q h e => by
          have hww := hx.sz
          rcases h with h | h
          · rcases h with h | h
            · have := h.2; omega
            · have := h.2; omega
          · exact h.2.2 e
        have hww := hx.sz
        have hTK2 := Lib.hid (TreeAt.keep (S' := (fun b => ((S b ∧ b < w.heap.size) ∨ (w.heap.size + 3 ≤ b ∧ b < b6)) ∨ (b6 < b ∧ b ≠ b7 ∧ b ≠ b9))) (fun _ h _ => h) (keeps_sto w2 (fun h => hNs b9 h rfl) (⟨zk, zx, zd, zy, zka, zn, zkc, zca, zm, zcc⟩ : El)) _ (hT2.to (S' := (fun b => ((S b ∧ b < w.heap.size) ∨ (w.heap.size + 3 ≤ b ∧ b < b6)) ∨ (b6 < b ∧ b ≠ b7 ∧ b ≠ b9))) (fun q h _ => by
          rcases h with h | h
          · exact .inl h.1
          · exact .inr ⟨by omega, by omega, by omega⟩)))
        clear hT2
        have hTo2 := Lib.hid (TreeAt.keep (S' := (fun b => ((S b ∧ b < w.heap.size) ∨ (w.heap.size + 3 ≤ b ∧ b < b6)) ∨ (b6 < b ∧ b ≠ b7 ∧ b ≠ b9))) (fun _ h _ => h) (keeps_sto w2 (fun h => hNs b9 h rfl) (⟨zk, zx, zd, zy, zka, zn, zkc, zca, zm, zcc⟩ : El)) _ (TreeAt.ext hx2 hTo.out))
        have hKE2 := Lib.hid (StrsAt.keep (S' := (fun b => (S b ∧ b < w.heap.size) ∨ (w.heap.size + 3 ≤ b ∧ b < b6))) (fun _ h _ => h) (keeps_sto w2 (fun h => hNs b9 (.inl h) rfl) (⟨zk, zx, zd, zy, zka, zn, zkc, zca, zm, zcc⟩ : El)) (StrsAt.ext hx2 hKE.out))
        have hKI2 := Lib.hid (KidsAt.keep (S' := (fun b => (S b ∧ b < w.heap.size) ∨ (w.heap.size + 3 ≤ b ∧ b < b6))) (fun _ h _ => h) (keeps_sto w2 (fun h => hNs b9 (.inl h) rfl) (⟨zk, zx, zd, zy, zka, zn, zkc, zca, zm, zcc⟩ : El)) (KidsAt.ext hx2 hKI.out))
        have hSb9 : b ≠ b9 := fun e => hNs b (.inl hSb) e
        have hcn : (sto w2 b9 (⟨zk, zx, zd, zy, zka, zn, zkc, zca, zm, zcc⟩ : El)).cell? ⟨b, off + j, none⟩ = some (.string p.1) := (keeps_sto (S := fun q => q ≠ b9) w2 (by simp) (⟨zk, zx, zd, zy, zka, zn, zkc, zca, zm, zcc⟩ : El)).cell hSb9 (hx2.cell hc)
        have hb4n : Box (sto w2 b9 (⟨zk, zx, zd, zy, zka, zn, zkc, zca, zm, zcc⟩ : El)) (w.heap.size + 2) (El.arr (⟨vk, vx, vd, vy, some ⟨b, off, none⟩, vn, vkc, some ⟨b2, off2, none⟩, vn, vcc⟩ : El)) 26 := (hb4.ext hx2).sto6' (by omega) _ _ _ _ _ _
        have hb2n : Box (sto w2 b9 (⟨zk, zx, zd, zy, zka, zn, zkc, zca, zm, zcc⟩ : El)) (w.heap.size + 1) (El.arr El0) 26 := (hb2.ext hx2).sto6' (by omega) _ _ _ _ _ _
        have hb7n : Box (sto w2 b9 (⟨zk, zx, zd, zy, zka, zn, zkc, zca, zm, zcc⟩ : El)) b7 eo.arr 26 := (hb7.ext hx2).sto6' (by omega) _ _ _ _ _ _
        have hb9n : Box (sto w2 b9 (⟨zk, zx, zd, zy, zka, zn, zkc, zca, zm, zcc⟩ : El)) b9 (El.arr (⟨zk, zx, zd, zy, zka, zn, zkc, zca, zm, zcc⟩ : El)) 26 := (show Box w2 b9 (El.arr (⟨kk, kx, kd, ky, kka, kn, kkc, kca, km, kcc⟩ : El)) 26 from hb92).sto (⟨zk, zx, zd, zy, zka, zn, zkc, zca, zm, zcc⟩ : El)
        have hxn : Ext w (sto w2 b9 (⟨zk, zx, zd, zy, zka, zn, zkc, zca, zm, zcc⟩ : El)) := ext_sto6 (ext_trans hx hx2) (by omega) _ _ _ _ _ _
        have hsw : (sto w2 b9 (⟨zk, zx, zd, zy, zka, zn, zkc, zca, zm, zcc⟩ : El)) = sto6 w2 b9 (.int .i64 zk) (.string zx) (.float .f64 zd) (.bool zy) (.slice zka zn zkc) (.slice zca zm zcc) := rfl
        rw [hsw] at hTK2 hTo2 hKE2 hKI2 hcn hb4n hb2n hb7n hb9n hxn
        unfold sto6 at hTK2 hTo2 hKE2 hKI2 hcn hb4n hb2n hb7n hb9n hxn
        clear hsw
        generalize hWW : (((((w2.setCell ⟨b9, 0, none⟩ (.int .i64 zk)).setCell ⟨b9, 1, none⟩ (.string zx)).setCell ⟨b9, 2, none⟩ (.float .f64 zd)).setCell ⟨b9, 3, none⟩ (.bool zy)).setCell ⟨b9, 4, none⟩ (.slice zka zn zkc)).setCell ⟨b9, 5, none⟩ (.slice zca zm zcc) = wn at hTK2 hTo2 hKE2 hKI2 hcn hb4n hb2n hb7n hb9n hxn ⊢
        clear hWW
        clear hNs hTo hKE hKI hc hb4 hb2 hb7 hb9 hx
        obtain ⟨n0, n1, n2, n3, n4, n5⟩ := hb9n.six
        have hl7 := hb7n.lt
        have hS : (fun (w' : World) => Six w' b7 eo ∧ Six w' (w.heap.size + 2) (⟨vk, vx, vd, vy, some ⟨b, off, none⟩, vn, vkc, some ⟨b2, off2, none⟩, vn, vcc⟩ : El) ∧ Six w' b9 (⟨zk, zx, zd, zy, zka, zn, zkc, zca, zm, zcc⟩ : El) ∧ w'.cell? ⟨b, off + j, none⟩ = some (.string p.1)) wn.drew := ⟨hb7n.Six, hb4n.Six, hb9n.Six, hcn⟩
        refine wp_region_order (fun (w' : World) => Six w' b7 eo ∧ Six w' (w.heap.size + 2) (⟨vk, vx, vd, vy, some ⟨b, off, none⟩, vn, vkc, some ⟨b2, off2, none⟩, vn, vcc⟩ : El) ∧ Six w' b9 (⟨zk, zx, zd, zy, zka, zn, zkc, zca, zm, zcc⟩ : El) ∧ w'.cell? ⟨b, off + j, none⟩ = some (.string p.1)) [0, 1, 2, 3, 4, 5, 6] [0, 1, 2, 3, 4, 5, 6, 7, 8] (by kernel_rfl) (by kernel_rfl) (fun d _ _ _ _ h => by cases d <;> exact h) (by kernel_rfl) ?_
        iterate 7 (apply ord_held rfl rfl (by assumption) rfl; (focus ((intro w' hS'); go_simp; (try with_reducible rfl))); (try simp only [Act.put, List.setIfInBounds_toArray, List.set_cons_zero, List.set_cons_succ]))
        (apply ord_loud rfl rfl rfl; intro K hK; go_simp)
        have hlen := mapT_len ((l.map fun p => (p.1, y p.1)).take j)
        have hj2 : ((l.map fun p => (p.1, y p.1)).take j).length ≤ j := List.length_take_le _ _
        have hjl := HLL.out
        have hjn := HN.out
        refine (with_any (S := (fun b => ((S b ∧ b < w.heap.size) ∨ (w.heap.size + 3 ≤ b ∧ b < b6)) ∨ (b6 < b ∧ b ≠ b7 ∧ b ≠ b9))) eo (mapT ((l.map fun p => (p.1, y p.1)).take j)) p.1 (⟨zk, zx, zd, zy, zka, zn, zkc, zca, zm, zcc⟩ : El) (y p.1) _ (hTo2.out.ext (ext_drew (ext_refl _))) (hTK2.out.ext (ext_drew (ext_refl _))) (by omega) (by omega) (by omega)).mono ?_
        rintro r w8' ⟨e3, rfl, hT4, hx4⟩
        have hx3 : Ext wn w8' := ext_trans (ext_drew (ext_refl _)) hx4
        refine hK _ _ (fun _ => ⟨Six.ext hx4 hS.1, Six.ext hx4 hS.2.1, Six.ext hx4 hS.2.2.1, hx4.cell hS.2.2.2⟩) ?_
        clear hK K hS
        simp only [El.val]
        (try simp only [Act.put, List.setIfInBounds_toArray, List.set_cons_zero, List.set_cons_succ])
        have hb93 := hb7n.ext hx3
        obtain ⟨u0, u1, u2, u3, u4, u5⟩ := hb93.six
        have f0 := hb93.free 0; have f1 := hb93.free 1; have f2 := hb93.free 2; have f3 := hb93.free 3; have f4 := hb93.free 4; have f5 := hb93.free 5
        clear n0 n1 n2 n3 n4 n5
        (apply ord_last rfl rfl rfl (by kernel_rfl); intro K hK; go_simp; refine hK _ _ ?_; clear hK K; (try simp only [Act.put, List.setIfInBounds_toArray, List.set_cons_zero, List.set_cons_succ]))
        refine ord_end ?_
        have hxx := hxn.sz
        have hNo : ¬ ((fun b => ((S b ∧ b < w.heap.size) ∨ (w.heap.size + 3 ≤ b ∧ b < b6)) ∨ (b6 < b ∧ b ≠ b7)) b7) := fun h => by
          rcases h with h | h
          · rcases h with h | h
            · have := h.2; omega
            · have := h.2; omega
          · exact h.2 rfl
        have hT5 := Lib.hid (TreeAt.keep (S' := (fun b => ((S b ∧ b < w.heap.size) ∨ (w.heap.size + 3 ≤ b ∧ b < b6)) ∨ (b6 < b ∧ b ≠ b7))) (fun _ h _ => h) (keeps_sto w8' hNo e3) _ (hT4.to (fun q h _ => by
          rcases h with h | h
          · rcases h with h | h
            · exact .inl h
            · exact .inr ⟨h.1, h.2.1⟩
          · have h : wn.heap.size ≤ q := by simpa using h
            exact .inr ⟨by omega, by omega⟩)))
        have hKI3 := Lib.hid (KidsAt.keep (S' := (fun b => (S b ∧ b < w.heap.size) ∨ (w.heap.size + 3 ≤ b ∧ b < b6))) (fun _ h _ => h) (keeps_sto w8' (fun h => hNo (.inl h)) e3) (KidsAt.ext hx3 hKI2.out))
        have hKE3 := Lib.hid (StrsAt.keep (S' := (fun b => (S b ∧ b < w.heap.size) ∨ (w.heap.size + 3 ≤ b ∧ b < b6))) (fun _ h _ => h) (keeps_sto w8' (fun h => hNo (.inl h)) e3) (StrsAt.ext hx3 hKE2.out))
        clear hT4 hNo
        go_wp2_with fail
        go_roundw
        case rel => exact ⟨ext_sto6 (ext_trans hxn hx3) (by omega) _ _ _ _ _ _, ext_refl _, (hb2n.ext hx3).sto6' (by omega) _ _ _ _ _ _, (hb4n.ext hx3).sto6' (by omega) _ _ _ _ _ _, hKI3.out, hKE3.out, j + 1, e3, by omega, by go_num, hb93.sto e3, by
          rw [show mapT ((l.map fun p => (p.1, y p.1)).take (j + 1)) = withT (mapT ((l.map fun p => (p.1, y p.1)).take j)) p.1 (y p.1) from foldl_snoc _ _ HPW.out]
          have h9 := hT5.out
          skip
          exact h9⟩
        case measure => simp [intOf]; omega
    case neg =>
      have hjn : j = vn := by omega
      have hfin : mapT ((l.map fun p => (p.1, y p.1)).take j) = mapT (l.map fun p => (p.1, y p.1)) := by rw [List.take_of_length_le (by have := HN.out; rw [List.length_map]; omega)]
      rw [hfin] at hTo
      have hxx := hx.sz
      obtain ⟨eok, eox, eod, eoy, eoka, eon, eokc, eoca, eom, eocc⟩ := eo
      obtain ⟨z0, z1, z2, z3, z4, z5⟩ := hb7.six
      have hx1 : Ext wq (wq.alloc (.cells #[.string s_dis_max, .int .i64 eok, .string eox, .float .f64 eod, .bool eoy, .slice eoka eon eokc, .slice eoca eom eocc] 72)) := ext_alloc (ext_refl _) _
      have hbp : Box (wq.alloc (.cells #[.string s_dis_max, .int .i64 eok, .string eox, .float .f64 eod, .bool eoy, .slice eoka eon eokc, .slice eoca eom eocc] 72)) wq.heap.size _ _ := Box.at rfl _ _
      have hM := map_any (S := fun b => (fun b => ((S b ∧ b < w.heap.size) ∨ (w.heap.size + 3 ≤ b ∧ b < b6)) ∨ (b6 < b ∧ b ≠ b7)) b ∨ wq.heap.size ≤ b) (some ⟨wq.heap.size, 0, none⟩) 1 1 [(s_dis_max, mapT (l.map fun p => (p.1, y p.1)))] _ (pairs_one (e := ⟨eok, eox, eod, eoy, eoka, eon, eokc, eoca, eom, eocc⟩) hbp (.inr (Nat.le_refl _)) ((hTo.out.to fun b h _ => .inl h).ext hx1)) (by decide)
      go_wp2_with (first
        | (go_at_call 42; refine hM.mono ?_; rintro r w8' ⟨e2, rfl, hT2, hx2⟩; simp only [El.val]; have hb66 := (hb2.ext hx1).ext hx2; obtain ⟨o0, o1, o2, o3, o4, o5⟩ := hb66.six; have f0 := hb66.free 0; have f1 := hb66.free 1; have f2 := hb66.free 2; have f3 := hb66.free 3; have f4 := hb66.free 4; have f5 := hb66.free 5)
        | fail)
      refine post_tree rfl rfl (hb66.sto e2) rfl ⟨e2, rfl, ?_, ext_sto6 (ext_trans hx (ext_trans hx1 hx2)) (by omega) _ _ _ _ _ _⟩
      have hT3 : TreeAt (fun b => (S b ∧ b < w.heap.size) ∨ w.heap.size + 3 ≤ b) w8' e2 (mapT [(s_dis_max, mapT (l.map fun p => (p.1, y p.1)))]) := hT2.to fun q h1 _ => by
        rcases h1 with h | h
        · rcases h.1 with h | h
          · rcases h with h | h
            · rcases h with h | h
              · exact .inl h
              · exact .inr h.1
            · exact .inr (by have := h.1; omega)
          · exact .inr (by omega)
        · have h : wq.heap.size + 1 ≤ q := by simpa using h
          exact .inr (by omega)
      have hN : ¬ ((fun b => (S b ∧ b < w.heap.size) ∨ w.heap.size + 3 ≤ b) (w.heap.size + 1)) := by simp
      exact TreeAt.keep (fun q h _ => by
        rcases h with h | h
        · exact .inl h
        · exact .inr (by omega)) (keeps_sto w8' hN e2) _ hT3
set_option maxRecDepth 20000 in
set_option maxHeartbeats 16000000 in
theorem reads_other (kind : ByteArray) (hn1 : kind ≠ s_term) (hn2 : kind ≠ s_bool) (hn3 : kind ≠ s_dis_max) (qs : List (ByteArray × T)) (y : ByteArray → T) (hq : ∀ k t, lastOf qs k = some t → t.kind ≠ 0 ∧ (hasS [] k = true → t.kind = 4 → t.kids.length ≠ 0)) (hlen : qs.length ≤ 65536) (hR : ∀ k t, lastOf qs k = some t → RD (wrapT [] k t) (y k)) : Reads (mapT [(kind, mapT qs)]) (mapT [(kind, mapT (qs.map fun p => (p.1, y p.1)))]) := by
  have e1 : (kind.toList == ([116, 101, 114, 109] : List UInt8)) = false := by
    have h : (kind.toList == s_term.toList) = false := seq_false.2 hn1
    rw [show s_term.toList = ([116, 101, 114, 109] : List UInt8) by rw [Lib.toList_data]] at h
    exact h
  have e2 : (kind.toList == ([98, 111, 111, 108] : List UInt8)) = false := by
    have h : (kind.toList == s_bool.toList) = false := seq_false.2 hn2
    rw [show s_bool.toList = ([98, 111, 111, 108] : List UInt8) by rw [Lib.toList_data]] at h
    exact h
  have e3 : (kind.toList == ([100, 105, 115, 95, 109, 97, 120] : List UInt8)) = false := by
    have h : (kind.toList == s_dis_max.toList) = false := seq_false.2 hn3
    rw [show s_dis_max.toList = ([100, 105, 115, 95, 109, 97, 120] : List UInt8) by rw [Lib.toList_data]] at h
    exact h
  obtain ⟨l, hm, hRi, hlo⟩ := mapT_told (qs.map (wrapL []))
  have hll : l.length ≤ 65536 := by
    have := (mapT_len (qs.map (wrapL []))).1
    rw [hm] at this
    unfold mapOf at this
    simp [T.keys] at this
    omega
  have hms : mapT (qs.map fun p => (p.1, y p.1)) = mapT (l.map fun p => (p.1, y p.1)) := mapT_congr fun k => by
    rw [show lastOf (qs.map fun p => (p.1, y p.1)) k = (lastOf qs k).map (fun _ => y k) from lastOf_mapk (fun k _ => y k) qs k, show lastOf (l.map fun p => (p.1, y p.1)) k = (lastOf l k).map (fun _ => y k) from lastOf_mapk (fun k _ => y k) l k, hlo, wrap_last]
    cases lastOf qs k <;> rfl
  rw [hms]
  have HRD := Lib.hid (show ∀ k t, lastOf l k = some t → RD t (y k) from fun k t h => by
    rw [hlo, wrap_last] at h
    obtain ⟨t0, h0, rfl⟩ := Option.map_eq_some_iff.1 h
    exact hR k t0 h0)
  have HM := Lib.hid hm
  have HRI := Lib.hid hRi
  have HLL := Lib.hid hll
  clear hm hRi hlo hll hms hR
  intro S e w h
  have HH := Lib.hid h
  have hm := h
  rw [mapT_one] at hm
  unfold mapOf at hm
  obtain ⟨h1, -, -, -, h5, h6⟩ := hm.parts
  obtain ⟨ek, ex, ed, ey, eka, en, ekc, eca, em, ecc⟩ := e
  simp only at h1 h5 h6
  obtain rfl : ek = 5 := h1
  have hen : en = 1 := h5.1.symm
  have hem : em = 1 := h6.1.symm
  subst hen hem
  obtain ⟨kb, ko, rfl, hSk, hck⟩ := h5.2.2.2 0 _ rfl
  obtain ⟨xb, xo, ⟨gk, gx, gd, gy, gka, gn, gkc, gca, gm, gcc⟩, rfl, hSx, hcx, hTx⟩ := h6.get (j := 0) rfl
  have hck : w.cell? ⟨kb, ko, none⟩ = some (.string kind) := by simpa using hck
  have hTx : TreeAt S w _ (mapT qs) := hTx
  have hcx : CellsAt w xb xo (⟨gk, gx, gd, gy, gka, gn, gkc, gca, gm, gcc⟩ : El) := by simpa using hcx
  obtain rfl : gk = 5 := by have h9 := hTx.parts.1; rw [mapT_kind] at h9; exact h9
  have HTX := Lib.hid (hTx.to (S' := fun b => S b ∧ b < w.heap.size) (fun b h1 h2 => ⟨h1, h2⟩))
  clear h hm h5 h6 hTx hSk hSx
  simp only [El.val] at HH ⊢
  go_enter Tryz.func20, Tryz.ntmps20
  go_upto_region 3 with fail
  have hx0 : Ext w ((w.alloc (.cells #[.int .i64 5, .string ex, .float .f64 ed, .bool ey, .slice (some ⟨kb, ko, none⟩) 1 ekc, .slice (some ⟨xb, xo, none⟩) 1 ecc] 26)).alloc (.cells (El.arr El0) 26)) := ext_alloc (ext_alloc (ext_refl _) _) _
  have hb1 : Box ((w.alloc (.cells #[.int .i64 5, .string ex, .float .f64 ed, .bool ey, .slice (some ⟨kb, ko, none⟩) 1 ekc, .slice (some ⟨xb, xo, none⟩) 1 ecc] 26)).alloc (.cells (El.arr El0) 26)) w.heap.size ((⟨5, ex, ed, ey, some ⟨kb, ko, none⟩, 1, ekc, some ⟨xb, xo, none⟩, 1, ecc⟩ : El)).arr 26 := (Box.at rfl _ _).alloc _
  have hb2 : Box ((w.alloc (.cells #[.int .i64 5, .string ex, .float .f64 ed, .bool ey, .slice (some ⟨kb, ko, none⟩) 1 ekc, .slice (some ⟨xb, xo, none⟩) 1 ecc] 26)).alloc (.cells (El.arr El0) 26)) (w.heap.size + 1) (El.arr El0) 26 := Box.at (by simp) _ _
  have hsz0 : ((w.alloc (.cells #[.int .i64 5, .string ex, .float .f64 ed, .bool ey, .slice (some ⟨kb, ko, none⟩) 1 ekc, .slice (some ⟨xb, xo, none⟩) 1 ecc] 26)).alloc (.cells (El.arr El0) 26)).heap.size = w.heap.size + 2 := by simp
  generalize hWW : ((w.alloc (.cells #[.int .i64 5, .string ex, .float .f64 ed, .bool ey, .slice (some ⟨kb, ko, none⟩) 1 ekc, .slice (some ⟨xb, xo, none⟩) 1 ecc] 26)).alloc (.cells (#[.int .i64 0, .string ⟨#[]⟩, .float .f64 0, .bool false, .slice none 0 0, .slice none 0 0]) 26)) = w0
  have hWW2 : ((w.alloc (.cells #[.int .i64 5, .string ex, .float .f64 ed, .bool ey, .slice (some ⟨kb, ko, none⟩) 1 ekc, .slice (some ⟨xb, xo, none⟩) 1 ecc] 26)).alloc (.cells (El.arr El0) 26)) = w0 := hWW
  rw [hWW2] at hx0 hb1 hb2 hsz0
  clear hWW hWW2
  have hck0 := hx0.cell hck
  have hcx0 := CellsAt.ext hx0 hcx
  refine wp_region_order (fun (w' : World) => Six w' w.heap.size (⟨5, ex, ed, ey, some ⟨kb, ko, none⟩, 1, ekc, some ⟨xb, xo, none⟩, 1, ecc⟩ : El) ∧ w'.cell? ⟨kb, ko, none⟩ = some (.string kind) ∧ CellsAt w' xb xo (⟨5, gx, gd, gy, gka, gn, gkc, gca, gm, gcc⟩ : El)) [0, 1, 2, 3, 4, 5, 6, 7, 9] [0, 1, 2, 3, 4, 5, 6, 7, 8, 9, 10] (by kernel_rfl) (by kernel_rfl) (fun d _ _ _ _ h => by cases d <;> exact h) (by kernel_rfl) ?_
  have hS : (fun (w' : World) => Six w' w.heap.size (⟨5, ex, ed, ey, some ⟨kb, ko, none⟩, 1, ekc, some ⟨xb, xo, none⟩, 1, ecc⟩ : El) ∧ w'.cell? ⟨kb, ko, none⟩ = some (.string kind) ∧ CellsAt w' xb xo (⟨5, gx, gd, gy, gka, gn, gkc, gca, gm, gcc⟩ : El)) w0.drew := ⟨hb1.Six, hck0, hcx0⟩
  iterate 8 (apply ord_held rfl rfl (by assumption) rfl; (focus ((intro w' hS'); go_simp; (try with_reducible rfl))); (try simp only [Act.put, List.setIfInBounds_toArray, List.set_cons_zero, List.set_cons_succ]))
  (apply ord_loud rfl rfl rfl; intro K hK; go_simp)
  have x1 : Ext w0 (w0.alloc (.cells (El.arr El0) 26)).drew := ext_drew (ext_alloc (ext_refl _) _)
  have hS1 : (fun (w' : World) => Six w' w.heap.size (⟨5, ex, ed, ey, some ⟨kb, ko, none⟩, 1, ekc, some ⟨xb, xo, none⟩, 1, ecc⟩ : El) ∧ w'.cell? ⟨kb, ko, none⟩ = some (.string kind) ∧ CellsAt w' xb xo (⟨5, gx, gd, gy, gka, gn, gkc, gca, gm, gcc⟩ : El)) (w0.alloc (.cells (El.arr El0) 26)).drew := ⟨(hb1.ext x1).Six, x1.cell hck0, CellsAt.ext x1 hcx0⟩
  refine hK _ _ (fun _ => hS1) ?_
  clear hK K
  (try simp only [Act.put, List.setIfInBounds_toArray, List.set_cons_zero, List.set_cons_succ])
  (apply ord_held rfl rfl (by assumption) rfl; (focus ((intro w' hS'); go_simp; (try with_reducible rfl))); (try simp only [Act.put, List.setIfInBounds_toArray, List.set_cons_zero, List.set_cons_succ]))
  (apply ord_last rfl rfl rfl (by kernel_rfl); intro K hK; go_simp; refine hK _ _ ?_; clear hK K; (try simp only [Act.put, List.setIfInBounds_toArray, List.set_cons_zero, List.set_cons_succ]))
  refine ord_end ?_
  have x4 : Ext w0 (w0.alloc (.cells ((⟨5, gx, gd, gy, gka, gn, gkc, gca, gm, gcc⟩ : El)).arr 26)).drew := ext_drew (ext_alloc (ext_refl _) _)
  have hb4 : Box (w0.alloc (.cells ((⟨5, gx, gd, gy, gka, gn, gkc, gca, gm, gcc⟩ : El)).arr 26)).drew (w.heap.size + 2) ((⟨5, gx, gd, gy, gka, gn, gkc, gca, gm, gcc⟩ : El)).arr 26 := (Box.at hsz0 _ _).drew
  have hb1 := hb1.ext x4
  have hb2 := hb2.ext x4
  have hxw4 := ext_trans hx0 x4
  generalize hWW : (w0.alloc (.cells #[.int .i64 5, .string gx, .float .f64 gd, .bool gy, .slice gka gn gkc, .slice gca gm gcc] 26)).drew = w4
  have hWW2 : (w0.alloc (.cells ((⟨5, gx, gd, gy, gka, gn, gkc, gca, gm, gcc⟩ : El)).arr 26)).drew = w4 := hWW
  rw [hWW2] at hb4 hb1 hb2 hxw4
  clear hWW hWW2 x4 x1 hS hS1 hck0 hcx0 hx0 hsz0
  obtain ⟨s0, s1, s2, s3, s4, s5⟩ := hb4.six
  have hb4l := hb4.lt
  have HRB := Lib.hid fun w' (x : Ext w w') a n c (h : StrsAt (fun b => (S b ∧ b < w.heap.size) ∨ w.heap.size + 3 ≤ b) w' a n c []) => rbw_any (S := (fun b => (S b ∧ b < w.heap.size) ∨ w.heap.size + 3 ≤ b)) kind qs (⟨5, ex, ed, ey, some ⟨kb, ko, none⟩, 1, ekc, some ⟨xb, xo, none⟩, 1, ecc⟩ : El) a n c [] w' (TreeAt.ext x (HH.out.to (fun b h1 h2 => .inl ⟨h1, h2⟩))) h hq hlen
  clear hq HH HTX
  go_upto_region 13 with (first
    | fail)
  have x5 : Ext w4 (w4.alloc (.cells #[] 9)) := by (repeat (first | exact ext_refl _ | assumption | refine ext_alloc ?_ _ | refine ext_drew ?_ | refine ext_set ?_ (by simp) _ | refine ext_trans ?_ (by assumption)))
  have hsl : StrsAt (fun b => (S b ∧ b < w.heap.size) ∨ w.heap.size + 3 ≤ b) (w4.alloc (.cells #[] 9)) (some ⟨w4.heap.size, 0, none⟩) 0 0 [] := ⟨rfl, Nat.le_refl _, by simp [maxLen], fun _ _ h => by simp at h⟩
  have hb1 := hb1.ext x5
  have hb2 := hb2.ext x5
  have hb4 := hb4.ext x5
  generalize hWW : (w4.alloc (.cells #[] 9)) = wp at x5 hsl hb1 hb2 hb4 ⊢
  clear hWW
  obtain ⟨a0, a1, a2, a3, a4, a5⟩ := hb1.six
  go_upto_region 14 with (first
    | (go_at_call 65; refine (HRB.out _ (ext_trans hxw4 x5) _ _ _ hsl).mono ?_; rintro r w5 ⟨⟨rk, rx, rd, ry, rka, rn, rkc, rca, rm, rcc⟩, rfl, hT5, hx5⟩; simp only [El.val])
    | fail)
  have x6 : Ext w5 (w5.alloc (.cells #[.int .i64 rk, .string rx, .float .f64 rd, .bool ry, .slice rka rn rkc, .slice rca rm rcc] 26)) := ext_alloc (ext_refl _) _
  have hx56 := ext_trans hx5 x6
  have hs5 := x5.sz
  have hxw4 := ext_trans hxw4 x5
  have hb62 := hb2.ext hx56
  have hb64 := hb4.ext hx56
  have hxw6 := ext_trans hxw4 hx56
  have hb4w := (hb4.ext hx5).lt
  have hT6 : TreeAt (fun b => (S b ∧ b < w.heap.size) ∨ (w.heap.size + 3 ≤ b ∧ b < w5.heap.size)) (w5.alloc (.cells #[.int .i64 rk, .string rx, .float .f64 rd, .bool ry, .slice rka rn rkc, .slice rca rm rcc] 26)) (⟨rk, rx, rd, ry, rka, rn, rkc, rca, rm, rcc⟩ : El) (mapT [(kind, mapT (qs.map (wrapL [])))]) := (hT5.to (fun b h1 h2 => by
    rcases h1 with h1 | h1
    · rcases h1.1 with h | h
      · exact .inl h
      · exact .inr ⟨h, h2⟩
    · have h1 : wp.heap.size ≤ b := h1
      exact .inr ⟨by omega, h2⟩)).ext x6
  have hb6 : Box (w5.alloc (.cells #[.int .i64 rk, .string rx, .float .f64 rd, .bool ry, .slice rka rn rkc, .slice rca rm rcc] 26)) w5.heap.size #[.int .i64 rk, .string rx, .float .f64 rd, .bool ry, .slice rka rn rkc, .slice rca rm rcc] 26 := Box.at rfl _ _
  have hs6 : w5.heap.size < (w5.alloc (.cells #[.int .i64 rk, .string rx, .float .f64 rd, .bool ry, .slice rka rn rkc, .slice rca rm rcc] 26)).heap.size := by simp
  have hAt := Lib.hid (at_map [(kind, mapT (qs.map (wrapL [])))] (⟨rk, rx, rd, ry, rka, rn, rkc, rca, rm, rcc⟩ : El) kind _ hT6)
  clear hT6 hT5 hx56 hx5 x5 hb2 hb4 hb1 hsl hxw4 hb4l hs5 a0 a1 a2 a3 a4 a5
  generalize hWW : w5.alloc (.cells #[.int .i64 rk, .string rx, .float .f64 rd, .bool ry, .slice rka rn rkc, .slice rca rm rcc] 26) = w6 at x6 hb62 hb64 hxw6 hAt hs6 hb6 ⊢
  clear hWW x6
  generalize w5.heap.size = b6 at hb4w hAt hs6 hb6 ⊢
  obtain ⟨z0, z1, z2, z3, z4, z5⟩ := hb6.six
  go_upto_region 15 with (first
    | (go_at_call 41; refine hAt.out.mono ?_; rintro r w7 ⟨⟨vk, vx, vd, vy, vka, vn, vkc, vca, vm, vcc⟩, rfl, hT7, hx7⟩; simp only [El.val]
       have hb74 := hb64.ext hx7; obtain ⟨s0, s1, s2, s3, s4, s5⟩ := hb74.six; have f0 := hb74.free 0; have f1 := hb74.free 1; have f2 := hb74.free 2; have f3 := hb74.free 3; have f4 := hb74.free 4; have f5 := hb74.free 5)
    | fail)
  rw [show (lastOf [(kind, mapT (qs.map (wrapL [])))] kind).getD nullT = mapOf l by rw [lastOf_one]; exact HM.out] at hT7
  have hk5 := Lib.hid hT7.parts.2.2.2.2.1
  have hk6 := Lib.hid hT7.parts.2.2.2.2.2
  have hN4 : ¬ ((fun b => (S b ∧ b < w.heap.size) ∨ (w.heap.size + 3 ≤ b ∧ b < b6)) (w.heap.size + 2)) := fun h => by rcases h with h | h <;> omega
  have hgn : l.length = vn := by have := hk5.out.1; unfold mapOf at this; simpa [T.keys] using this
  have hgm : l.length = vm := by have := hk6.out.1; unfold mapOf at this; simpa [T.kids] using this
  obtain rfl : vn = vm := hgn.symm.trans hgm
  have hkc := hk5.out.2.1
  have hkm := hk5.out.2.2.1
  have hcc := hk6.out.2.1
  have hcm := hk6.out.2.2.1
  unfold maxLen at hkm hcm
  have HN := Lib.hid hgn
  have H5 := Lib.hid (StrsAt.keep (S' := (fun b => (S b ∧ b < w.heap.size) ∨ (w.heap.size + 3 ≤ b ∧ b < b6))) (fun _ h _ => h) (keeps_sto w7 hN4 (⟨vk, vx, vd, vy, vka, vn, vkc, vca, vn, vcc⟩ : El)) hk5.out)
  have H6 := Lib.hid (KidsAt.keep (S' := (fun b => (S b ∧ b < w.heap.size) ∨ (w.heap.size + 3 ≤ b ∧ b < b6))) (fun _ h _ => h) (keeps_sto w7 hN4 (⟨vk, vx, vd, vy, vka, vn, vkc, vca, vn, vcc⟩ : El)) hk6.out)
  clear hk5 hk6 hgn hgm hT7 hAt
  have hb84 : Box (sto w7 (w.heap.size + 2) (⟨vk, vx, vd, vy, vka, vn, vkc, vca, vn, vcc⟩ : El)) (w.heap.size + 2) (El.arr (⟨vk, vx, vd, vy, vka, vn, vkc, vca, vn, vcc⟩ : El)) 26 := hb74.sto (⟨vk, vx, vd, vy, vka, vn, vkc, vca, vn, vcc⟩ : El)
  have hb82 : Box (sto w7 (w.heap.size + 2) (⟨vk, vx, vd, vy, vka, vn, vkc, vca, vn, vcc⟩ : El)) (w.heap.size + 1) (El.arr El0) 26 := (hb62.ext hx7).sto6' (by omega) _ _ _ _ _ _
  have hxw8 : Ext w (sto w7 (w.heap.size + 2) (⟨vk, vx, vd, vy, vka, vn, vkc, vca, vn, vcc⟩ : El)) := ext_sto6 (ext_trans hxw6 hx7) (by omega) _ _ _ _ _ _
  have hb6s : b6 < (sto w7 (w.heap.size + 2) (⟨vk, vx, vd, vy, vka, vn, vkc, vca, vn, vcc⟩ : El)).heap.size := Nat.lt_of_lt_of_le (show b6 < w7.heap.size by have := hx7.sz; omega) (grown_sto6 w7 (w.heap.size + 2) (.int .i64 vk) (.string vx) (.float .f64 vd) (.bool vy) (.slice vka vn vkc) (.slice vca vn vcc)).size
  clear hb6 z0 z1 z2 z3 z4 z5 hb74 hb62 hb64 hx7 hxw6 hs6 f0 f1 f2 f3 f4 f5 s0 s1 s2 s3 s4 s5 hN4
  have hsw : (sto w7 (w.heap.size + 2) (⟨vk, vx, vd, vy, vka, vn, vkc, vca, vn, vcc⟩ : El)) = sto6 w7 (w.heap.size + 2) (.int .i64 vk) (.string vx) (.float .f64 vd) (.bool vy) (.slice vka vn vkc) (.slice vca vn vcc) := rfl
  rw [hsw] at hb84 hb82 hxw8 hb6s H5 H6
  unfold sto6 at hb84 hb82 hxw8 hb6s H5 H6
  clear hsw
  generalize hWW : (((((w7.setCell ⟨w.heap.size + 2, 0, none⟩ (.int .i64 vk)).setCell ⟨w.heap.size + 2, 1, none⟩ (.string vx)).setCell ⟨w.heap.size + 2, 2, none⟩ (.float .f64 vd)).setCell ⟨w.heap.size + 2, 3, none⟩ (.bool vy)).setCell ⟨w.heap.size + 2, 4, none⟩ (.slice vka vn vkc)).setCell ⟨w.heap.size + 2, 5, none⟩ (.slice vca vn vcc) = w8 at hb84 hb82 hxw8 hb6s H5 H6 ⊢
  clear hWW
  have hMp := map_any (S := fun _ => False) none 0 0 [] w8 ⟨rfl, Nat.le_refl _, by simp [maxLen], fun _ _ h => by simp at h⟩ (by decide)
  go_upto_region 16 with (first | (go_at_call 42; refine hMp.mono ?_; rintro r w9 ⟨(⟨ok, ox, od, oy, oka, on, okc, oca, om, occ⟩ : El), rfl, hT9, hx9⟩; simp only [El.val]) | fail)
  have hx10 : Ext w9 (w9.alloc (.cells (El.arr (⟨ok, ox, od, oy, oka, on, okc, oca, om, occ⟩ : El)) 26)) := ext_alloc (ext_refl _) _
  have hb7 : Box (w9.alloc (.cells (El.arr (⟨ok, ox, od, oy, oka, on, okc, oca, om, occ⟩ : El)) 26)) w9.heap.size (El.arr (⟨ok, ox, od, oy, oka, on, okc, oca, om, occ⟩ : El)) 26 := Box.at rfl _ _
  have hb67 : b6 < w9.heap.size := by have := hx9.sz; omega
  have hxx := ext_trans hx9 hx10
  have hb4 := hb84.ext hxx
  have hb2 := hb82.ext hxx
  have hxr := ext_trans hxw8 hxx
  have H5 := Lib.hid (StrsAt.ext hxx H5.out)
  have H6 := Lib.hid (KidsAt.ext hxx H6.out)
  have hTo := Lib.hid ((hT9.to (S' := fun b => ((S b ∧ b < w.heap.size) ∨ (w.heap.size + 3 ≤ b ∧ b < b6)) ∨ (b6 < b ∧ b ≠ w9.heap.size)) (fun b h1 h2 => by
    rcases h1 with h1 | h1
    · exact h1.1.elim
    · exact .inr ⟨by omega, by omega⟩)).ext hx10)
  clear hT9 hb84 hb82 hxw8 hMp hxx hx9 hx10 hb6s
  generalize w9.alloc (.cells (El.arr (⟨ok, ox, od, oy, oka, on, okc, oca, om, occ⟩ : El)) 26) = w10 at hb7 hb4 hb2 hxr H5 H6 hTo ⊢
  generalize w9.heap.size = b7 at hb7 hb67 hTo ⊢
  go_wp2_with fail
  go_loopw [8] (fun i wr => Ext w wr ∧ Ext w10 w10 ∧ Box wr (w.heap.size + 1) (El.arr El0) 26 ∧ Box wr (w.heap.size + 2) (El.arr (⟨vk, vx, vd, vy, vka, vn, vkc, vca, vn, vcc⟩ : El)) 26 ∧ KidsAt (fun b => (S b ∧ b < w.heap.size) ∨ (w.heap.size + 3 ≤ b ∧ b < b6)) wr vca vn vcc (mapOf l).kids ∧ StrsAt (fun b => (S b ∧ b < w.heap.size) ∨ (w.heap.size + 3 ≤ b ∧ b < b6)) wr vka vn vkc (mapOf l).keys ∧
    ∃ (j : Nat) (eo : El), j ≤ vn ∧ i = .int .i64 j ∧ Box wr b7 eo.arr 26 ∧ TreeAt (fun b => ((S b ∧ b < w.heap.size) ∨ (w.heap.size + 3 ≤ b ∧ b < b6)) ∨ (b6 < b ∧ b ≠ b7)) wr eo (mapT ((l.map fun p => (p.1, y p.1)).take j))) (fun i _ => vn - (intOf i).toNat)
  case atStart =>
    exact ⟨hxr, ext_refl _, hb2, hb4, H6.out, H5.out, 0, _, Nat.zero_le _, rfl, hb7, hTo.out⟩
  case round =>
    rename World => wq
    obtain ⟨hx, -, hb2, hb4, hKI, hKE, j, eo, hj, rfl, hb7, hTo⟩ := hrel
    obtain ⟨q0, q1, q2, q3, q4, q5⟩ := hb4.six
    have hTo := Lib.hid hTo
    have hb7l := hb7.lt
    by_cases hlt : j < vn
    case pos =>
      obtain ⟨p, hp⟩ := some_of_lt HN.out hlt
      obtain ⟨hp1, hp2⟩ := mapOf_keys l j p hp
      obtain ⟨b, off, rfl, hSb, hc⟩ := hKE.2.2.2 j p.1 hp1
      obtain ⟨b2, off2, ⟨kk, kx, kd, ky, kka, kn, kkc, kca, km, kcc⟩, rfl, hSb2, hc6, hTk⟩ := hKI.get hp2
      have hRD := Lib.hid (HRD.out p.1 p.2 (rising_lookup HRI.out hp))
      have HPW := Lib.hid (show (l.map fun p => (p.1, y p.1))[j]? = some (p.1, y p.1) by rw [List.getElem?_map, hp]; rfl)
      have HKE4 := Lib.hid (show kk = p.2.kind from hTk.parts.1)
      have HTk := Lib.hid hTk
      have hKE := Lib.hid hKE
      have hKI := Lib.hid hKI
      clear hp hp1 hp2 hTk
      have hx1 : Ext wq (wq.alloc (.cells #[.int .i64 kk, .string kx, .float .f64 kd, .bool ky, .slice kka kn kkc, .slice kca km kcc] 26)) := ext_alloc (ext_refl _) _
      have hb9 : Box (wq.alloc (.cells #[.int .i64 kk, .string kx, .float .f64 kd, .bool ky, .slice kka kn kkc, .slice kca km kcc] 26)) wq.heap.size #[.int .i64 kk, .string kx, .float .f64 kd, .bool ky, .slice kka kn kkc, .slice kca km kcc] 26 := Box.at rfl _ _
      have hblt : b < wq.heap.size := lt_of_cell hc
      go_upto_region 20 with fail
      have hb4 := hb4.ext hx1
      have hb2 := hb2.ext hx1
      have hb7 := hb7.ext hx1
      have hc := hx1.cell hc
      have hKE := Lib.hid (StrsAt.ext hx1 hKE.out)
      have hKI := Lib.hid (KidsAt.ext hx1 hKI.out)
      have hTo := Lib.hid (TreeAt.ext hx1 (hTo.out.to (S' := fun b => ((S b ∧ b < w.heap.size) ∨ (w.heap.size + 3 ≤ b ∧ b < b6)) ∨ (b6 < b ∧ b ≠ b7 ∧ b ≠ wq.heap.size)) (fun b h hl => by
        rcases h with h | h
        · exact .inl h
        · exact .inr ⟨h.1, h.2, by omega⟩)))
      have HTk := Lib.hid (TreeAt.ext hx1 HTk.out)
      have hx := ext_trans hx hx1
      have hb9l := hb9.lt
      have hb79 : b7 < wq.heap.size := hb7l
      clear q0 q1 q2 q3 q4 q5 hx1 hb7l hblt hc6
      generalize wq.alloc (.cells #[.int .i64 kk, .string kx, .float .f64 kd, .bool ky, .slice kka kn kkc, .slice kca km kcc] 26) = w6 at hb9 hb4 hb2 hb7 hc hKE hKI hTo HTk hx hb9l ⊢
      generalize wq.heap.size = b9 at hb9 hb79 hb9l hTo ⊢
      by_cases hke : kk = 4
      case pos =>
        obtain rfl := hke
        obtain ⟨h4, hkl, ys, hys, hyl, hyR⟩ : p.2.kind = 4 ∧ p.2.kids.length ≤ 1048576 ∧ ∃ ys, y p.1 = listT ys ∧ ys.length = p.2.kids.length ∧ ∀ (i : Nat) (x z : T), p.2.kids[i]? = some x → ys[i]? = some z → Reads x z := by
          rcases hRD.out with h | h
          · exact h
          · exact absurd HKE4.out.symm h.1
        have hKL := Lib.hid HTk.out.parts.2.2.2.2.2
        have hkm : p.2.kids.length = km := hKL.out.1
        have HYR := Lib.hid hyR
        have HYS := Lib.hid hys
        have HYL := Lib.hid (show ys.length = km by omega)
        have hkmb : km ≤ 1048576 := by omega
        clear hyR hys hyl hkl hkm h4 HKE4 hRD
        obtain ⟨m0, m1, m2, m3, m4, m5⟩ := hb9.six
        go_wp2_with (first
          | (go_at_call 66; refine (list_exact none 0 0 _).mono ?_; rintro r wl ⟨rfl, hxl⟩; simp only [El.val])
          | fail)
        have hsl := hxl.sz
        clear m0 m1 m2 m3 m4 m5
        go_loopw [11] (fun i wr => Ext w6 wr ∧ wl.heap.size + 1 ≤ wr.heap.size ∧ ∃ (jj : Nat) (kes : List El) (ca : Option Addr) (cn cc : Nat), jj ≤ km ∧ i = .int .i64 jj ∧ kes.length = jj ∧ Making wr (wl.heap.size + 1) wl.heap.size 4 [] kes none 0 0 ca cn cc ∧ KinO (fun b => ((S b ∧ b < w.heap.size) ∨ (w.heap.size + 3 ≤ b ∧ b < b6))) wr (wl.heap.size + 1) (.slice ca cn cc) kes (ys.take jj)) (fun i _ => km - (intOf i).toNat)
        case atStart => exact ⟨ext_alloc hxl _, by simp, 0, [], none, 0, 0, Nat.zero_le _, rfl, rfl, ⟨Box.at rfl _ _, World.ownsRow_nil _ _ _ _, World.ownsRow_nil _ _ _ _, by omega, fun _ h => by cases h⟩, KinO.nil _ _ _ _⟩
        case round =>
          rename World => wi
          obtain ⟨hxi, hsi, jj, kes, ca, cn, cc, hjj, rfl, hes, M, HK⟩ := hrel
          have HES := Lib.hid hes
          have HK := Lib.hid HK
          clear hes
          have hb9i := hb9.ext hxi
          have m5 := hb9i.cell 5 _ rfl
          by_cases hlj : jj < km
          case pos =>
            obtain ⟨t0, ht0⟩ := some_of_lt hKL.out.1 hlj
            obtain ⟨z0, hz0⟩ := some_of_lt HYL.out hlj
            obtain ⟨lb, lo, ⟨zk, zx, zd, zy, zka, zn, zkc, zca, zm, zcc⟩, rfl, -, hcz, hTz⟩ := hKL.out.get ht0
            have hRu := Lib.hid (fun (w1 : World) (x : Ext w6 w1) => HYR.out jj t0 z0 ht0 hz0 (fun b => (S b ∧ b < w.heap.size) ∨ (w.heap.size + 3 ≤ b ∧ b < b6)) _ w1 (TreeAt.ext x hTz))
            have hlbw : lb < w6.heap.size := lt_of_cell hcz.1
            have hcz := CellsAt.ext hxi hcz
            have HZ := Lib.hid hz0
            clear ht0 hz0 hTz
            obtain ⟨o0, o1, o2, o3, o4, o5⟩ := M.box.six
            go_upto_region 25 with fail
            refine wp_region_order (fun (w' : World) => w'.cell? ⟨wl.heap.size, 5, none⟩ = some (.slice ca cn cc) ∧ w'.cell? ⟨b9, 5, none⟩ = some (.slice (some ⟨lb, lo, none⟩) km kcc) ∧ CellsAt w' lb (lo + jj * 6) (⟨zk, zx, zd, zy, zka, zn, zkc, zca, zm, zcc⟩ : El)) [0, 1, 2, 3, 4, 5, 6, 10] [0, 1, 2, 3, 4, 5, 6, 7, 8, 9, 10, 11] (by kernel_rfl) (by kernel_rfl) (fun d _ _ _ _ h => by cases d <;> exact h) (by kernel_rfl) ?_
            have hS : (fun (w' : World) => w'.cell? ⟨wl.heap.size, 5, none⟩ = some (.slice ca cn cc) ∧ w'.cell? ⟨b9, 5, none⟩ = some (.slice (some ⟨lb, lo, none⟩) km kcc) ∧ CellsAt w' lb (lo + jj * 6) (⟨zk, zx, zd, zy, zka, zn, zkc, zca, zm, zcc⟩ : El)) _ := ⟨o5, m5, hcz⟩
            iterate 7 (apply ord_held rfl rfl (by assumption) rfl; (focus ((intro w' hS'); go_simp; (try with_reducible rfl))); (try simp only [Act.put, List.setIfInBounds_toArray, List.set_cons_zero, List.set_cons_succ]))
            (apply ord_loud rfl rfl rfl; intro K hK; go_simp)
            refine (hRu.out _ (ext_drew hxi)).mono ?_
            rintro r w2 ⟨e2, rfl, hT2, hx2⟩
            have x2 : Ext wi w2 := ext_trans (ext_drew (ext_refl _)) hx2
            have hS2 : (fun (w' : World) => w'.cell? ⟨wl.heap.size, 5, none⟩ = some (.slice ca cn cc) ∧ w'.cell? ⟨b9, 5, none⟩ = some (.slice (some ⟨lb, lo, none⟩) km kcc) ∧ CellsAt w' lb (lo + jj * 6) (⟨zk, zx, zd, zy, zka, zn, zkc, zca, zm, zcc⟩ : El)) w2 := ⟨x2.cell o5, x2.cell m5, CellsAt.ext x2 hcz⟩
            refine hK _ _ (fun _ => hS2) ?_
            clear hK K
            simp only [El.val]
            (try simp only [Act.put, List.setIfInBounds_toArray, List.set_cons_zero, List.set_cons_succ])
            (apply ord_loud rfl rfl rfl; intro K hK; go_simp)
            have x3 : Ext wi (w2.alloc (.cells #[.int .i64 e2.k, .string e2.x, .float .f64 e2.d, .bool e2.y, .slice e2.ka e2.n e2.kc, .slice e2.ca e2.m e2.cc] 26)) := ext_alloc x2 _
            have hbz : Box (w2.alloc (.cells #[.int .i64 e2.k, .string e2.x, .float .f64 e2.d, .bool e2.y, .slice e2.ka e2.n e2.kc, .slice e2.ca e2.m e2.cc] 26)) w2.heap.size e2.arr 26 := Box.new _ _ _
            have hT3 := hT2.ext (ext_alloc (ext_refl w2) (.cells #[.int .i64 e2.k, .string e2.x, .float .f64 e2.d, .bool e2.y, .slice e2.ka e2.n e2.kc, .slice e2.ca e2.m e2.cc] 26))
            have hS3 : (fun (w' : World) => w'.cell? ⟨wl.heap.size, 5, none⟩ = some (.slice ca cn cc) ∧ w'.cell? ⟨b9, 5, none⟩ = some (.slice (some ⟨lb, lo, none⟩) km kcc) ∧ CellsAt w' lb (lo + jj * 6) (⟨zk, zx, zd, zy, zka, zn, zkc, zca, zm, zcc⟩ : El)) (w2.alloc (.cells #[.int .i64 e2.k, .string e2.x, .float .f64 e2.d, .bool e2.y, .slice e2.ka e2.n e2.kc, .slice e2.ca e2.m e2.cc] 26)) := ⟨x3.cell o5, x3.cell m5, CellsAt.ext x3 hcz⟩
            refine hK _ _ (fun _ => hS3) ?_
            clear hK K
            have M1 := M.ext x3
            have hs2 := x2.sz
            have hbd : ∀ q, (Value.slice ca cn cc).ownBlock = some q → wl.heap.size + 1 ≤ q ∧ q < wi.heap.size := fun q h => M.kids.block h
            (try simp only [Act.put, List.setIfInBounds_toArray, List.set_cons_zero, List.set_cons_succ])
            apply ord_loud rfl rfl rfl
            intro K hK
            refine wp_append_tree _ _ _ rfl (wl.heap.size + 1) _ kes rfl M1.kids w2.heap.size e2 rfl (boxCells hbz) (by have := HES.out; omega) (by simp; omega) ?_
            intro g1 cap1 w4' hown hgrow hlies hglt
            have hS4 : (fun (w' : World) => w'.cell? ⟨wl.heap.size, 5, none⟩ = some (.slice ca cn cc) ∧ w'.cell? ⟨b9, 5, none⟩ = some (.slice (some ⟨lb, lo, none⟩) km kcc) ∧ CellsAt w' lb (lo + jj * 6) (⟨zk, zx, zd, zy, zka, zn, zkc, zca, zm, zcc⟩ : El)) w4' := ⟨hgrow.cell (x3.cell o5) (fun e => by have := hbd _ e.symm; simp at this; omega), hgrow.cell (x3.cell m5) (fun e => by have := hbd _ e.symm; simp at this; omega), ?_⟩
            rotate_left
            · obtain ⟨c0, c1, c2, c3, c4, c5⟩ := hcz
              have hq : ∀ (p : Addr) (u : Value), p.block = lb → wi.cell? p = some u → w4'.cell? p = some u := fun p u hp hc => hgrow.cell (x3.cell hc) (fun e => by have := hbd _ e.symm; omega)
              exact ⟨hq _ _ rfl c0, hq _ _ rfl c1, hq _ _ rfl c2, hq _ _ rfl c3, hq _ _ rfl c4, hq _ _ rfl c5⟩
            have q5 := (M1.boxMid' hgrow).free 5
            refine hK _ _ (fun _ => hS4) ?_
            clear hK K
            (try simp only [Act.put, List.setIfInBounds_toArray, List.set_cons_zero, List.set_cons_succ])
            have o5 := hS4.1
            (apply ord_held rfl rfl (by assumption) rfl; (focus ((intro w' hS'); go_simp; (try with_reducible rfl))); (try simp only [Act.put, List.setIfInBounds_toArray, List.set_cons_zero, List.set_cons_succ]))
            (apply ord_last rfl rfl rfl (by kernel_rfl); intro K hK; go_simp; refine hK _ _ ?_; clear hK K; (try simp only [Act.put, List.setIfInBounds_toArray, List.set_cons_zero, List.set_cons_succ]))
            refine ord_end ?_
            have M2 := M1.kid hown hgrow hlies
            have x4 := M1.extKid (ext_trans hxi x3) (by omega) hgrow 5 (.slice (some ⟨g1, 0, none⟩) (kes.length + 1) cap1)
            have hhw := hx.sz
            have hPl : ∀ b, (fun b => ((S b ∧ b < w.heap.size) ∨ (w.heap.size + 3 ≤ b ∧ b < b6))) b → b < wl.heap.size := fun b h => by
              rcases h with h | h
              · have := h.2; omega
              · have := h.2; omega
            have HK2 := Lib.hid ((HK.out.ext x3).step (hT3.to fun q h1 h2 => by
              rcases h1 with h1 | h1
              · exact .inl h1.1
              · have h3 : wi.heap.size ≤ q := h1
                exact .inr ⟨by omega, fun e => by have := (hbd q e).2; omega⟩) hPl (fun b h => (hbd b h).1) hgrow hlies (by omega : wl.heap.size < wl.heap.size + 1) 5 (.slice (some ⟨g1, 0, none⟩) (kes.length + 1) cap1) (kes.length + 1) cap1)
            have hszz : wl.heap.size + 1 ≤ (w4'.setCell ⟨wl.heap.size, 5, none⟩ (.slice (some ⟨g1, 0, none⟩) (kes.length + 1) cap1)).heap.size := by have h1 := hgrow.size; have h2 := x3.sz; simp; omega
            clear hown hgrow hlies hglt hS q5 M1 M o0 o1 o2 o3 o4 o5 hT2 hT3 hbz HK hS4 hS3 hS2 hbd
            generalize w4'.setCell ⟨wl.heap.size, 5, none⟩ (.slice (some ⟨g1, 0, none⟩) (kes.length + 1) cap1) = w7' at M2 x4 HK2 hszz ⊢
            go_wp2_with fail
            go_roundw
            case rel =>
              first
                | exact ⟨x4, hszz, jj + 1, kes ++ [e2], _, _, _, by omega, by go_num, by simp [HES.out], M2, by rw [take_snoc HZ.out]; exact HK2.out⟩
                | (repeat apply Exists.intro
                   refine And.intro ?_ rfl
                   exact ⟨x4, hszz, jj + 1, kes ++ [e2], _, _, _, by omega, by go_num, by simp [HES.out], M2, by rw [take_snoc HZ.out]; exact HK2.out⟩)
            case measure => simp [intOf]; omega
          have hjn : jj = km := by omega
          have hfull : ys.take jj = ys := List.take_of_length_le (by have h1 := HYL.out; omega)
          have hK := HK.out
          rw [hfull] at hK
          have hTK : TreeAt (fun b => ((S b ∧ b < w.heap.size) ∨ (w.heap.size + 3 ≤ b ∧ b < b6)) ∨ wl.heap.size + 1 ≤ b) wi ⟨4, ⟨#[]⟩, 0, false, none, 0, 0, ca, cn, cc⟩ (listT ys) := M.tree (ss := []) hK.1 (fun b hb => by cases hb) (fun b hb => .inr (M.kids.block hb).1) fun i e t h1 h2 => TreeAt.to (hK.2 i e t h1 h2) (fun b hb _ => hb.imp id (fun h => h.1))
          obtain ⟨o0, o1, o2, o3, o4, o5⟩ := M.box.six
          have hlb := M.box.lt
          clear m5
          obtain ⟨m0, m1, m2, m3, m4, m5⟩ := hb9i.six
          have f0 := hb9i.free 0; have f1 := hb9i.free 1; have f2 := hb9i.free 2; have f3 := hb9i.free 3; have f4 := hb9i.free 4; have f5 := hb9i.free 5
          clear hK HK hfull
          go_upto_region 28 with fail
          have hNs : ∀ q, (((S q ∧ q < w.heap.size) ∨ (w.heap.size + 3 ≤ q ∧ q < b6)) ∨ (b6 < q ∧ q ≠ b7 ∧ q ≠ b9)) → q ≠ b9 := fun q h e => by
            rcases h with h | h
            · rcases h with h | h
              · have := h.2; omega
              · have := h.2; omega
            · exact h.2.2 e
          have hww := hx.sz
          have hTK2 := Lib.hid (TreeAt.keep (S' := (fun b => ((S b ∧ b < w.heap.size) ∨ (w.heap.size + 3 ≤ b ∧ b < b6)) ∨ (b6 < b ∧ b ≠ b7 ∧ b ≠ b9))) (fun _ h _ => h) (keeps_sto wi (fun h => hNs b9 h rfl) (⟨4, ⟨#[]⟩, 0, false, none, 0, 0, ca, cn, cc⟩ : El)) _ (hTK.to (S' := (fun b => ((S b ∧ b < w.heap.size) ∨ (w.heap.size + 3 ≤ b ∧ b < b6)) ∨ (b6 < b ∧ b ≠ b7 ∧ b ≠ b9))) (fun q h _ => by
            rcases h with h | h
            · exact .inl h
            · exact .inr ⟨by omega, by omega, by omega⟩)))
          have hTo2 := Lib.hid (TreeAt.keep (S' := (fun b => ((S b ∧ b < w.heap.size) ∨ (w.heap.size + 3 ≤ b ∧ b < b6)) ∨ (b6 < b ∧ b ≠ b7 ∧ b ≠ b9))) (fun _ h _ => h) (keeps_sto wi (fun h => hNs b9 h rfl) (⟨4, ⟨#[]⟩, 0, false, none, 0, 0, ca, cn, cc⟩ : El)) _ (TreeAt.ext hxi hTo.out))
          have hKE2 := Lib.hid (StrsAt.keep (S' := (fun b => (S b ∧ b < w.heap.size) ∨ (w.heap.size + 3 ≤ b ∧ b < b6))) (fun _ h _ => h) (keeps_sto wi (fun h => hNs b9 (.inl h) rfl) (⟨4, ⟨#[]⟩, 0, false, none, 0, 0, ca, cn, cc⟩ : El)) (StrsAt.ext hxi hKE.out))
          have hKI2 := Lib.hid (KidsAt.keep (S' := (fun b => (S b ∧ b < w.heap.size) ∨ (w.heap.size + 3 ≤ b ∧ b < b6))) (fun _ h _ => h) (keeps_sto wi (fun h => hNs b9 (.inl h) rfl) (⟨4, ⟨#[]⟩, 0, false, none, 0, 0, ca, cn, cc⟩ : El)) (KidsAt.ext hxi hKI.out))
          have hSb9 : b ≠ b9 := fun e => hNs b (.inl hSb) e
          have hcn : (sto wi b9 (⟨4, ⟨#[]⟩, 0, false, none, 0, 0, ca, cn, cc⟩ : El)).cell? ⟨b, off + j, none⟩ = some (.string p.1) := (keeps_sto (S := fun q => q ≠ b9) wi (by simp) (⟨4, ⟨#[]⟩, 0, false, none, 0, 0, ca, cn, cc⟩ : El)).cell hSb9 (hxi.cell hc)
          have hb4n : Box (sto wi b9 (⟨4, ⟨#[]⟩, 0, false, none, 0, 0, ca, cn, cc⟩ : El)) (w.heap.size + 2) (El.arr (⟨vk, vx, vd, vy, some ⟨b, off, none⟩, vn, vkc, some ⟨b2, off2, none⟩, vn, vcc⟩ : El)) 26 := (hb4.ext hxi).sto6' (by omega) _ _ _ _ _ _
          have hb2n : Box (sto wi b9 (⟨4, ⟨#[]⟩, 0, false, none, 0, 0, ca, cn, cc⟩ : El)) (w.heap.size + 1) (El.arr El0) 26 := (hb2.ext hxi).sto6' (by omega) _ _ _ _ _ _
          have hb7n : Box (sto wi b9 (⟨4, ⟨#[]⟩, 0, false, none, 0, 0, ca, cn, cc⟩ : El)) b7 eo.arr 26 := (hb7.ext hxi).sto6' (by omega) _ _ _ _ _ _
          have hb9n : Box (sto wi b9 (⟨4, ⟨#[]⟩, 0, false, none, 0, 0, ca, cn, cc⟩ : El)) b9 (El.arr (⟨4, ⟨#[]⟩, 0, false, none, 0, 0, ca, cn, cc⟩ : El)) 26 := (show Box wi b9 (El.arr (⟨4, kx, kd, ky, kka, kn, kkc, kca, km, kcc⟩ : El)) 26 from hb9i).sto (⟨4, ⟨#[]⟩, 0, false, none, 0, 0, ca, cn, cc⟩ : El)
          have hxn : Ext w (sto wi b9 (⟨4, ⟨#[]⟩, 0, false, none, 0, 0, ca, cn, cc⟩ : El)) := ext_sto6 (ext_trans hx hxi) (by omega) _ _ _ _ _ _
          have hsw : (sto wi b9 (⟨4, ⟨#[]⟩, 0, false, none, 0, 0, ca, cn, cc⟩ : El)) = sto6 wi b9 (.int .i64 4) (.string ⟨#[]⟩) (.float .f64 0) (.bool false) (.slice none 0 0) (.slice ca cn cc) := rfl
          rw [hsw] at hTK2 hTo2 hKE2 hKI2 hcn hb4n hb2n hb7n hb9n hxn
          unfold sto6 at hTK2 hTo2 hKE2 hKI2 hcn hb4n hb2n hb7n hb9n hxn
          clear hsw
          generalize hWW : (((((wi.setCell ⟨b9, 0, none⟩ (.int .i64 4)).setCell ⟨b9, 1, none⟩ (.string ⟨#[]⟩)).setCell ⟨b9, 2, none⟩ (.float .f64 0)).setCell ⟨b9, 3, none⟩ (.bool false)).setCell ⟨b9, 4, none⟩ (.slice none 0 0)).setCell ⟨b9, 5, none⟩ (.slice ca cn cc) = wn at hTK2 hTo2 hKE2 hKI2 hcn hb4n hb2n hb7n hb9n hxn ⊢
          clear hWW
          clear hNs hTo hKE hKI hc hb4 hb2 hb7 hb9 hx
          obtain ⟨n0, n1, n2, n3, n4, n5⟩ := hb9n.six
          have hl7 := hb7n.lt
          have hS : (fun (w' : World) => Six w' b7 eo ∧ Six w' (w.heap.size + 2) (⟨vk, vx, vd, vy, some ⟨b, off, none⟩, vn, vkc, some ⟨b2, off2, none⟩, vn, vcc⟩ : El) ∧ Six w' b9 (⟨4, ⟨#[]⟩, 0, false, none, 0, 0, ca, cn, cc⟩ : El) ∧ w'.cell? ⟨b, off + j, none⟩ = some (.string p.1)) wn.drew := ⟨hb7n.Six, hb4n.Six, hb9n.Six, hcn⟩
          refine wp_region_order (fun (w' : World) => Six w' b7 eo ∧ Six w' (w.heap.size + 2) (⟨vk, vx, vd, vy, some ⟨b, off, none⟩, vn, vkc, some ⟨b2, off2, none⟩, vn, vcc⟩ : El) ∧ Six w' b9 (⟨4, ⟨#[]⟩, 0, false, none, 0, 0, ca, cn, cc⟩ : El) ∧ w'.cell? ⟨b, off + j, none⟩ = some (.string p.1)) [0, 1, 2, 3, 4, 5, 6] [0, 1, 2, 3, 4, 5, 6, 7, 8] (by kernel_rfl) (by kernel_rfl) (fun d _ _ _ _ h => by cases d <;> exact h) (by kernel_rfl) ?_
          iterate 7 (apply ord_held rfl rfl (by assumption) rfl; (focus ((intro w' hS'); go_simp; (try with_reducible rfl))); (try simp only [Act.put, List.setIfInBounds_toArray, List.set_cons_zero, List.set_cons_succ]))
          (apply ord_loud rfl rfl rfl; intro K hK; go_simp)
          have hlen := mapT_len ((l.map fun p => (p.1, y p.1)).take j)
          have hj2 : ((l.map fun p => (p.1, y p.1)).take j).length ≤ j := List.length_take_le _ _
          have hjl := HLL.out
          have hjn := HN.out
          refine (with_any (S := (fun b => ((S b ∧ b < w.heap.size) ∨ (w.heap.size + 3 ≤ b ∧ b < b6)) ∨ (b6 < b ∧ b ≠ b7 ∧ b ≠ b9))) eo (mapT ((l.map fun p => (p.1, y p.1)).take j)) p.1 (⟨4, ⟨#[]⟩, 0, false, none, 0, 0, ca, cn, cc⟩ : El) (listT ys) _ (hTo2.out.ext (ext_drew (ext_refl _))) (hTK2.out.ext (ext_drew (ext_refl _))) (by omega) (by omega) (by omega)).mono ?_
          rintro r w8' ⟨e3, rfl, hT4, hx4⟩
          have hx3 : Ext wn w8' := ext_trans (ext_drew (ext_refl _)) hx4
          refine hK _ _ (fun _ => ⟨Six.ext hx4 hS.1, Six.ext hx4 hS.2.1, Six.ext hx4 hS.2.2.1, hx4.cell hS.2.2.2⟩) ?_
          clear hK K hS
          simp only [El.val]
          (try simp only [Act.put, List.setIfInBounds_toArray, List.set_cons_zero, List.set_cons_succ])
          have hb93 := hb7n.ext hx3
          obtain ⟨u0, u1, u2, u3, u4, u5⟩ := hb93.six
          have f0 := hb93.free 0; have f1 := hb93.free 1; have f2 := hb93.free 2; have f3 := hb93.free 3; have f4 := hb93.free 4; have f5 := hb93.free 5
          clear n0 n1 n2 n3 n4 n5
          (apply ord_last rfl rfl rfl (by kernel_rfl); intro K hK; go_simp; refine hK _ _ ?_; clear hK K; (try simp only [Act.put, List.setIfInBounds_toArray, List.set_cons_zero, List.set_cons_succ]))
          refine ord_end ?_
          have hxx := hxn.sz
          have hNo : ¬ ((fun b => ((S b ∧ b < w.heap.size) ∨ (w.heap.size + 3 ≤ b ∧ b < b6)) ∨ (b6 < b ∧ b ≠ b7)) b7) := fun h => by
            rcases h with h | h
            · rcases h with h | h
              · have := h.2; omega
              · have := h.2; omega
            · exact h.2 rfl
          have hT5 := Lib.hid (TreeAt.keep (S' := (fun b => ((S b ∧ b < w.heap.size) ∨ (w.heap.size + 3 ≤ b ∧ b < b6)) ∨ (b6 < b ∧ b ≠ b7))) (fun _ h _ => h) (keeps_sto w8' hNo e3) _ (hT4.to (fun q h _ => by
            rcases h with h | h
            · rcases h with h | h
              · exact .inl h
              · exact .inr ⟨h.1, h.2.1⟩
            · have h : wn.heap.size ≤ q := by simpa using h
              exact .inr ⟨by omega, by omega⟩)))
          have hKI3 := Lib.hid (KidsAt.keep (S' := (fun b => (S b ∧ b < w.heap.size) ∨ (w.heap.size + 3 ≤ b ∧ b < b6))) (fun _ h _ => h) (keeps_sto w8' (fun h => hNo (.inl h)) e3) (KidsAt.ext hx3 hKI2.out))
          have hKE3 := Lib.hid (StrsAt.keep (S' := (fun b => (S b ∧ b < w.heap.size) ∨ (w.heap.size + 3 ≤ b ∧ b < b6))) (fun _ h _ => h) (keeps_sto w8' (fun h => hNo (.inl h)) e3) (StrsAt.ext hx3 hKE2.out))
          clear hT4 hNo
          go_wp2_with fail
          go_roundw
          case rel => exact ⟨ext_sto6 (ext_trans hxn hx3) (by omega) _ _ _ _ _ _, ext_refl _, (hb2n.ext hx3).sto6' (by omega) _ _ _ _ _ _, (hb4n.ext hx3).sto6' (by omega) _ _ _ _ _ _, hKI3.out, hKE3.out, j + 1, e3, by omega, by go_num, hb93.sto e3, by
            rw [show mapT ((l.map fun p => (p.1, y p.1)).take (j + 1)) = withT (mapT ((l.map fun p => (p.1, y p.1)).take j)) p.1 (y p.1) from foldl_snoc _ _ HPW.out]
            have h9 := hT5.out
            rw [HYS.out]
            exact h9⟩
          case measure => simp [intOf]; omega
      case neg =>
        have hRu : Reads p.2 (y p.1) := by
          rcases hRD.out with h | h
          · exact absurd (HKE4.out.trans h.1) hke
          · exact h.2
        have hk4n : (kk == 4) = false := by simpa using hke
        have HRu := Lib.hid (hRu (fun b => (S b ∧ b < w.heap.size) ∨ (w.heap.size + 3 ≤ b ∧ b < b6)) _ w6 HTk.out)
        clear hRu hRD HKE4
        obtain ⟨m0, m1, m2, m3, m4, m5⟩ := hb9.six
        go_upto_region 28 with (first
          | (go_at_call 20; refine HRu.out.mono ?_; rintro r w2 ⟨⟨zk, zx, zd, zy, zka, zn, zkc, zca, zm, zcc⟩, rfl, hT2, hx2⟩; simp only [El.val]
             have hb92 := hb9.ext hx2; obtain ⟨o0, o1, o2, o3, o4, o5⟩ := hb92.six; have f0 := hb92.free 0; have f1 := hb92.free 1; have f2 := hb92.free 2; have f3 := hb92.free 3; have f4 := hb92.free 4; have f5 := hb92.free 5)
          | fail)
        clear m0 m1 m2 m3 m4 m5
        have hNs : ∀ q, (((S q ∧ q < w.heap.size) ∨ (w.heap.size + 3 ≤ q ∧ q < b6)) ∨ (b6 < q ∧ q ≠ b7 ∧ q ≠ b9)) → q ≠ b9 := fun q h e => by
          have hww := hx.sz
          rcases h with h | h
          · rcases h with h | h
            · have := h.2; omega
            · have := h.2; omega
          · exact h.2.2 e
        have hww := hx.sz
        have hTK2 := Lib.hid (TreeAt.keep (S' := (fun b => ((S b ∧ b < w.heap.size) ∨ (w.heap.size + 3 ≤ b ∧ b < b6)) ∨ (b6 < b ∧ b ≠ b7 ∧ b ≠ b9))) (fun _ h _ => h) (keeps_sto w2 (fun h => hNs b9 h rfl) (⟨zk, zx, zd, zy, zka, zn, zkc, zca, zm, zcc⟩ : El)) _ (hT2.to (S' := (fun b => ((S b ∧ b < w.heap.size) ∨ (w.heap.size + 3 ≤ b ∧ b < b6)) ∨ (b6 < b ∧ b ≠ b7 ∧ b ≠ b9))) (fun q h _ => by
          rcases h with h | h
          · exact .inl h.1
          · exact .inr ⟨by omega, by omega, by omega⟩)))
        clear hT2
        have hTo2 := Lib.hid (TreeAt.keep (S' := (fun b => ((S b ∧ b < w.heap.size) ∨ (w.heap.size + 3 ≤ b ∧ b < b6)) ∨ (b6 < b ∧ b ≠ b7 ∧ b ≠ b9))) (fun _ h _ => h) (keeps_sto w2 (fun h => hNs b9 h rfl) (⟨zk, zx, zd, zy, zka, zn, zkc, zca, zm, zcc⟩ : El)) _ (TreeAt.ext hx2 hTo.out))
        have hKE2 := Lib.hid (StrsAt.keep (S' := (fun b => (S b ∧ b < w.heap.size) ∨ (w.heap.size + 3 ≤ b ∧ b < b6))) (fun _ h _ => h) (keeps_sto w2 (fun h => hNs b9 (.inl h) rfl) (⟨zk, zx, zd, zy, zka, zn, zkc, zca, zm, zcc⟩ : El)) (StrsAt.ext hx2 hKE.out))
        have hKI2 := Lib.hid (KidsAt.keep (S' := (fun b => (S b ∧ b < w.heap.size) ∨ (w.heap.size + 3 ≤ b ∧ b < b6))) (fun _ h _ => h) (keeps_sto w2 (fun h => hNs b9 (.inl h) rfl) (⟨zk, zx, zd, zy, zka, zn, zkc, zca, zm, zcc⟩ : El)) (KidsAt.ext hx2 hKI.out))
        have hSb9 : b ≠ b9 := fun e => hNs b (.inl hSb) e
        have hcn : (sto w2 b9 (⟨zk, zx, zd, zy, zka, zn, zkc, zca, zm, zcc⟩ : El)).cell? ⟨b, off + j, none⟩ = some (.string p.1) := (keeps_sto (S := fun q => q ≠ b9) w2 (by simp) (⟨zk, zx, zd, zy, zka, zn, zkc, zca, zm, zcc⟩ : El)).cell hSb9 (hx2.cell hc)
        have hb4n : Box (sto w2 b9 (⟨zk, zx, zd, zy, zka, zn, zkc, zca, zm, zcc⟩ : El)) (w.heap.size + 2) (El.arr (⟨vk, vx, vd, vy, some ⟨b, off, none⟩, vn, vkc, some ⟨b2, off2, none⟩, vn, vcc⟩ : El)) 26 := (hb4.ext hx2).sto6' (by omega) _ _ _ _ _ _
        have hb2n : Box (sto w2 b9 (⟨zk, zx, zd, zy, zka, zn, zkc, zca, zm, zcc⟩ : El)) (w.heap.size + 1) (El.arr El0) 26 := (hb2.ext hx2).sto6' (by omega) _ _ _ _ _ _
        have hb7n : Box (sto w2 b9 (⟨zk, zx, zd, zy, zka, zn, zkc, zca, zm, zcc⟩ : El)) b7 eo.arr 26 := (hb7.ext hx2).sto6' (by omega) _ _ _ _ _ _
        have hb9n : Box (sto w2 b9 (⟨zk, zx, zd, zy, zka, zn, zkc, zca, zm, zcc⟩ : El)) b9 (El.arr (⟨zk, zx, zd, zy, zka, zn, zkc, zca, zm, zcc⟩ : El)) 26 := (show Box w2 b9 (El.arr (⟨kk, kx, kd, ky, kka, kn, kkc, kca, km, kcc⟩ : El)) 26 from hb92).sto (⟨zk, zx, zd, zy, zka, zn, zkc, zca, zm, zcc⟩ : El)
        have hxn : Ext w (sto w2 b9 (⟨zk, zx, zd, zy, zka, zn, zkc, zca, zm, zcc⟩ : El)) := ext_sto6 (ext_trans hx hx2) (by omega) _ _ _ _ _ _
        have hsw : (sto w2 b9 (⟨zk, zx, zd, zy, zka, zn, zkc, zca, zm, zcc⟩ : El)) = sto6 w2 b9 (.int .i64 zk) (.string zx) (.float .f64 zd) (.bool zy) (.slice zka zn zkc) (.slice zca zm zcc) := rfl
        rw [hsw] at hTK2 hTo2 hKE2 hKI2 hcn hb4n hb2n hb7n hb9n hxn
        unfold sto6 at hTK2 hTo2 hKE2 hKI2 hcn hb4n hb2n hb7n hb9n hxn
        clear hsw
        generalize hWW : (((((w2.setCell ⟨b9, 0, none⟩ (.int .i64 zk)).setCell ⟨b9, 1, none⟩ (.string zx)).setCell ⟨b9, 2, none⟩ (.float .f64 zd)).setCell ⟨b9, 3, none⟩ (.bool zy)).setCell ⟨b9, 4, none⟩ (.slice zka zn zkc)).setCell ⟨b9, 5, none⟩ (.slice zca zm zcc) = wn at hTK2 hTo2 hKE2 hKI2 hcn hb4n hb2n hb7n hb9n hxn ⊢
        clear hWW
        clear hNs hTo hKE hKI hc hb4 hb2 hb7 hb9 hx
        obtain ⟨n0, n1, n2, n3, n4, n5⟩ := hb9n.six
        have hl7 := hb7n.lt
        have hS : (fun (w' : World) => Six w' b7 eo ∧ Six w' (w.heap.size + 2) (⟨vk, vx, vd, vy, some ⟨b, off, none⟩, vn, vkc, some ⟨b2, off2, none⟩, vn, vcc⟩ : El) ∧ Six w' b9 (⟨zk, zx, zd, zy, zka, zn, zkc, zca, zm, zcc⟩ : El) ∧ w'.cell? ⟨b, off + j, none⟩ = some (.string p.1)) wn.drew := ⟨hb7n.Six, hb4n.Six, hb9n.Six, hcn⟩
        refine wp_region_order (fun (w' : World) => Six w' b7 eo ∧ Six w' (w.heap.size + 2) (⟨vk, vx, vd, vy, some ⟨b, off, none⟩, vn, vkc, some ⟨b2, off2, none⟩, vn, vcc⟩ : El) ∧ Six w' b9 (⟨zk, zx, zd, zy, zka, zn, zkc, zca, zm, zcc⟩ : El) ∧ w'.cell? ⟨b, off + j, none⟩ = some (.string p.1)) [0, 1, 2, 3, 4, 5, 6] [0, 1, 2, 3, 4, 5, 6, 7, 8] (by kernel_rfl) (by kernel_rfl) (fun d _ _ _ _ h => by cases d <;> exact h) (by kernel_rfl) ?_
        iterate 7 (apply ord_held rfl rfl (by assumption) rfl; (focus ((intro w' hS'); go_simp; (try with_reducible rfl))); (try simp only [Act.put, List.setIfInBounds_toArray, List.set_cons_zero, List.set_cons_succ]))
        (apply ord_loud rfl rfl rfl; intro K hK; go_simp)
        have hlen := mapT_len ((l.map fun p => (p.1, y p.1)).take j)
        have hj2 : ((l.map fun p => (p.1, y p.1)).take j).length ≤ j := List.length_take_le _ _
        have hjl := HLL.out
        have hjn := HN.out
        refine (with_any (S := (fun b => ((S b ∧ b < w.heap.size) ∨ (w.heap.size + 3 ≤ b ∧ b < b6)) ∨ (b6 < b ∧ b ≠ b7 ∧ b ≠ b9))) eo (mapT ((l.map fun p => (p.1, y p.1)).take j)) p.1 (⟨zk, zx, zd, zy, zka, zn, zkc, zca, zm, zcc⟩ : El) (y p.1) _ (hTo2.out.ext (ext_drew (ext_refl _))) (hTK2.out.ext (ext_drew (ext_refl _))) (by omega) (by omega) (by omega)).mono ?_
        rintro r w8' ⟨e3, rfl, hT4, hx4⟩
        have hx3 : Ext wn w8' := ext_trans (ext_drew (ext_refl _)) hx4
        refine hK _ _ (fun _ => ⟨Six.ext hx4 hS.1, Six.ext hx4 hS.2.1, Six.ext hx4 hS.2.2.1, hx4.cell hS.2.2.2⟩) ?_
        clear hK K hS
        simp only [El.val]
        (try simp only [Act.put, List.setIfInBounds_toArray, List.set_cons_zero, List.set_cons_succ])
        have hb93 := hb7n.ext hx3
        obtain ⟨u0, u1, u2, u3, u4, u5⟩ := hb93.six
        have f0 := hb93.free 0; have f1 := hb93.free 1; have f2 := hb93.free 2; have f3 := hb93.free 3; have f4 := hb93.free 4; have f5 := hb93.free 5
        clear n0 n1 n2 n3 n4 n5
        (apply ord_last rfl rfl rfl (by kernel_rfl); intro K hK; go_simp; refine hK _ _ ?_; clear hK K; (try simp only [Act.put, List.setIfInBounds_toArray, List.set_cons_zero, List.set_cons_succ]))
        refine ord_end ?_
        have hxx := hxn.sz
        have hNo : ¬ ((fun b => ((S b ∧ b < w.heap.size) ∨ (w.heap.size + 3 ≤ b ∧ b < b6)) ∨ (b6 < b ∧ b ≠ b7)) b7) := fun h => by
          rcases h with h | h
          · rcases h with h | h
            · have := h.2; omega
            · have := h.2; omega
          · exact h.2 rfl
        have hT5 := Lib.hid (TreeAt.keep (S' := (fun b => ((S b ∧ b < w.heap.size) ∨ (w.heap.size + 3 ≤ b ∧ b < b6)) ∨ (b6 < b ∧ b ≠ b7))) (fun _ h _ => h) (keeps_sto w8' hNo e3) _ (hT4.to (fun q h _ => by
          rcases h with h | h
          · rcases h with h | h
            · exact .inl h
            · exact .inr ⟨h.1, h.2.1⟩
          · have h : wn.heap.size ≤ q := by simpa using h
            exact .inr ⟨by omega, by omega⟩)))
        have hKI3 := Lib.hid (KidsAt.keep (S' := (fun b => (S b ∧ b < w.heap.size) ∨ (w.heap.size + 3 ≤ b ∧ b < b6))) (fun _ h _ => h) (keeps_sto w8' (fun h => hNo (.inl h)) e3) (KidsAt.ext hx3 hKI2.out))
        have hKE3 := Lib.hid (StrsAt.keep (S' := (fun b => (S b ∧ b < w.heap.size) ∨ (w.heap.size + 3 ≤ b ∧ b < b6))) (fun _ h _ => h) (keeps_sto w8' (fun h => hNo (.inl h)) e3) (StrsAt.ext hx3 hKE2.out))
        clear hT4 hNo
        go_wp2_with fail
        go_roundw
        case rel => exact ⟨ext_sto6 (ext_trans hxn hx3) (by omega) _ _ _ _ _ _, ext_refl _, (hb2n.ext hx3).sto6' (by omega) _ _ _ _ _ _, (hb4n.ext hx3).sto6' (by omega) _ _ _ _ _ _, hKI3.out, hKE3.out, j + 1, e3, by omega, by go_num, hb93.sto e3, by
          rw [show mapT ((l.map fun p => (p.1, y p.1)).take (j + 1)) = withT (mapT ((l.map fun p => (p.1, y p.1)).take j)) p.1 (y p.1) from foldl_snoc _ _ HPW.out]
          have h9 := hT5.out
          skip
          exact h9⟩
        case measure => simp [intOf]; omega
    case neg =>
      have hjn : j = vn := by omega
      have hfin : mapT ((l.map fun p => (p.1, y p.1)).take j) = mapT (l.map fun p => (p.1, y p.1)) := by rw [List.take_of_length_le (by have := HN.out; rw [List.length_map]; omega)]
      rw [hfin] at hTo
      have hxx := hx.sz
      obtain ⟨eok, eox, eod, eoy, eoka, eon, eokc, eoca, eom, eocc⟩ := eo
      obtain ⟨z0, z1, z2, z3, z4, z5⟩ := hb7.six
      have hx1 : Ext wq (wq.alloc (.cells #[.string kind, .int .i64 eok, .string eox, .float .f64 eod, .bool eoy, .slice eoka eon eokc, .slice eoca eom eocc] 72)) := ext_alloc (ext_refl _) _
      have hbp : Box (wq.alloc (.cells #[.string kind, .int .i64 eok, .string eox, .float .f64 eod, .bool eoy, .slice eoka eon eokc, .slice eoca eom eocc] 72)) wq.heap.size _ _ := Box.at rfl _ _
      have hM := map_any (S := fun b => (fun b => ((S b ∧ b < w.heap.size) ∨ (w.heap.size + 3 ≤ b ∧ b < b6)) ∨ (b6 < b ∧ b ≠ b7)) b ∨ wq.heap.size ≤ b) (some ⟨wq.heap.size, 0, none⟩) 1 1 [(kind, mapT (l.map fun p => (p.1, y p.1)))] _ (pairs_one (e := ⟨eok, eox, eod, eoy, eoka, eon, eokc, eoca, eom, eocc⟩) hbp (.inr (Nat.le_refl _)) ((hTo.out.to fun b h _ => .inl h).ext hx1)) (by decide)
      go_wp2_with (first
        | (go_at_call 42; refine hM.mono ?_; rintro r w8' ⟨e2, rfl, hT2, hx2⟩; simp only [El.val]; have hb66 := (hb2.ext hx1).ext hx2; obtain ⟨o0, o1, o2, o3, o4, o5⟩ := hb66.six; have f0 := hb66.free 0; have f1 := hb66.free 1; have f2 := hb66.free 2; have f3 := hb66.free 3; have f4 := hb66.free 4; have f5 := hb66.free 5)
        | fail)
      refine post_tree rfl rfl (hb66.sto e2) rfl ⟨e2, rfl, ?_, ext_sto6 (ext_trans hx (ext_trans hx1 hx2)) (by omega) _ _ _ _ _ _⟩
      have hT3 : TreeAt (fun b => (S b ∧ b < w.heap.size) ∨ w.heap.size + 3 ≤ b) w8' e2 (mapT [(kind, mapT (l.map fun p => (p.1, y p.1)))]) := hT2.to fun q h1 _ => by
        rcases h1 with h | h
        · rcases h.1 with h | h
          · rcases h with h | h
            · rcases h with h | h
              · exact .inl h
              · exact .inr h.1
            · exact .inr (by have := h.1; omega)
          · exact .inr (by omega)
        · have h : wq.heap.size + 1 ≤ q := by simpa using h
          exact .inr (by omega)
      have hN : ¬ ((fun b => (S b ∧ b < w.heap.size) ∨ w.heap.size + 3 ≤ b) (w.heap.size + 1)) := by simp
      exact TreeAt.keep (fun q h _ => by
        rcases h with h | h
        · exact .inl h
        · exact .inr (by omega)) (keeps_sto w8' hN e2) _ hT3
end Go.Proofs.YtfngaoicoecncaaGreatDoor

namespace Go.Proofs.YtfngaoicoecncaaGreatDoor
open Go.RowKit

theorem other_reads (kind : ByteArray) (hn1 : kind ≠ s_term) (hn2 : kind ≠ s_bool) (hn3 : kind ≠ s_dis_max) (qs : List (ByteArray × T)) (y : ByteArray → T) (h : ∀ p ∈ qs, p.2.kind ≠ 0 ∧ p.2.kind ≠ 4 ∧ Reads p.2 (y p.1)) (hlen : qs.length ≤ 65536) :
    Reads (mapT [(kind, mapT qs)]) (mapT [(kind, mapT (qs.map fun p => (p.1, y p.1)))]) :=
  reads_other kind hn1 hn2 hn3 qs y (fun k t ht => ⟨(h _ (lastOf_mem ht)).1, fun e => by simp [hasS] at e⟩) hlen (fun k t ht => by
    rw [wrapT, if_neg (by simp [hasS])]
    exact .inr (h _ (lastOf_mem ht)).2)
theorem reads_all : Reads allT allT := other_reads s_match_all (by decide) (by decide) (by decide) [] (fun _ => nullT) (fun p hp => by cases hp) (by simp)
/-- Kids that are read as they are told. -/
def RK (f : Nd → T) (l : List Nd) : Prop := ∀ r ∈ l, (f r).kind = 5 ∧ Reads (f r) (nodeT r)
theorem reads_kid {f : Nd → T} {ks : List Nd} (h : RK f ks) (i : Nat) : (kidT (ks.map f) i).kind = 5 ∧ Reads (kidT (ks.map f) i) (kidT (ks.map nodeT) i) := by
  unfold kidT
  rw [List.getElem?_map, List.getElem?_map]
  cases hi : ks[i]? with
  | none => exact ⟨mapT_kind _, reads_all⟩
  | some r => exact h r (List.mem_of_getElem? hi)
theorem kidJ_tree (l : List J) (i : Nat) : treeJ (kidJ l i) = kidT (l.map treeJ) i := by
  unfold kidJ kidT
  rw [List.getElem?_map]
  cases l[i]? with
  | none =>
    show treeJ jAll = allT
    rw [jMap_tree]
    rfl
  | some j => rfl
theorem rd_list {f : Nd → T} {l : List Nd} (h : RK f l) (hl : l.length ≤ 1048576) : RD (listT (l.map f)) (listT (l.map nodeT)) :=
  .inl ⟨rfl, by simpa [listT, T.kids] using hl, l.map nodeT, rfl, by simp [listT, T.kids], fun i x z hx hz => by
    simp only [listT, T.kids, List.getElem?_map, Option.map_eq_some_iff] at hx hz
    obtain ⟨r, hr, rfl⟩ := hx
    obtain ⟨r2, hr2, rfl⟩ := hz
    rw [hr] at hr2
    cases hr2
    exact (h r (List.mem_of_getElem? hr)).2⟩
theorem reads_one (kind k : ByteArray) (hn1 : kind ≠ s_term) (hn2 : kind ≠ s_bool) (hn3 : kind ≠ s_dis_max) {t u : T} (hk : t.kind = 5 ∨ t.kind = 1) (h : Reads t u) : Reads (mapT [(kind, mapT [(k, t)])]) (mapT [(kind, mapT [(k, u)])]) :=
  other_reads kind hn1 hn2 hn3 [(k, t)] (fun _ => u) (fun p hp => by
    simp only [List.mem_singleton] at hp
    subst hp
    exact ⟨by dsimp only; omega, by dsimp only; omega, h⟩) (by simp)
theorem reads_text (x : ByteArray) : Reads (textT x) (textT x) := reads_flat (by simp [textT, T.kind])
theorem reads_boosting {p n p2 n2 : T} (hp : p.kind = 5) (hn : n.kind = 5) (h1 : Reads p p2) (h2 : Reads n n2) : Reads (mapT [(s_boosting, mapT [(s_positive, p), (s_negative, n), (s_negative_boost, numT halfB)])]) (mapT [(s_boosting, mapT [(s_positive, p2), (s_negative, n2), (s_negative_boost, numT halfB)])]) := by
  have h := other_reads s_boosting (by decide) (by decide) (by decide) [(s_positive, p), (s_negative, n), (s_negative_boost, numT halfB)] (fun k => if k = s_positive then p2 else if k = s_negative then n2 else numT halfB) (fun q hq => by
    simp only [List.mem_cons, List.not_mem_nil, or_false] at hq
    rcases hq with rfl | rfl | rfl
    · exact ⟨by dsimp only; omega, by dsimp only; omega, by dsimp only; rw [if_pos rfl]; exact h1⟩
    · exact ⟨by dsimp only; omega, by dsimp only; omega, by dsimp only; rw [if_neg (by decide), if_pos rfl]; exact h2⟩
    · exact ⟨by simp [numT, T.kind], by simp [numT, T.kind], by dsimp only; rw [if_neg (by decide), if_neg (by decide)]; exact reads_flat (by simp [numT, T.kind])⟩) (by simp)
  simp only [List.map_cons, List.map_nil, if_true, if_false, show ¬ (s_negative = s_positive) by decide, show ¬ (s_negative_boost = s_positive) by decide, show ¬ (s_negative_boost = s_negative) by decide] at h
  exact h
theorem reads_nested {x : ByteArray} {t u : T} (ht : t.kind = 5) (h : Reads t u) : Reads (mapT [(s_nested, mapT [(s_path, textT x), (s_query, t)])]) (mapT [(s_nested, mapT [(s_path, textT x), (s_query, u)])]) := by
  have h := other_reads s_nested (by decide) (by decide) (by decide) [(s_path, textT x), (s_query, t)] (fun k => if k = s_path then textT x else u) (fun q hq => by
    simp only [List.mem_cons, List.not_mem_nil, or_false] at hq
    rcases hq with rfl | rfl
    · exact ⟨by simp [textT, T.kind], by simp [textT, T.kind], by dsimp only; rw [if_pos rfl]; exact reads_text x⟩
    · exact ⟨by dsimp only; omega, by dsimp only; omega, by dsimp only; rw [if_neg (by decide)]; exact h⟩) (by simp)
  simp only [List.map_cons, List.map_nil, if_true, if_false, show ¬ (s_query = s_path) by decide] at h
  exact h
theorem nested_turn (x : ByteArray) (t : T) : mapT [(s_query, t), (s_path, textT x)] = mapT [(s_path, textT x), (s_query, t)] := mapT_congr fun k => by
  rw [lastOf_cons, lastOf_cons, lastOf_cons, lastOf_cons]
  simp only [lastOf_nil]
  by_cases h1 : seq s_query k = true
  · have e := seq_iff.1 h1
    subst e
    rw [seq_self, seq_false.2 (show s_path ≠ s_query by decide)]
    rfl
  · rw [Bool.not_eq_true] at h1
    rw [h1]
    cases seq s_path k <;> rfl
theorem reads_dis_of {f : Nd → T} {ks : List Nd} (h : RK f ks) (h0 : 0 < ks.length) (hl : ks.length ≤ 1048576) : Reads (mapT [(s_dis_max, mapT [(s_queries, listT (ks.map f))])]) (mapT [(s_dis_max, mapT [(s_queries, listT (ks.map nodeT))])]) :=
  reads_dis [(s_queries, listT (ks.map f))] (fun _ => listT (ks.map nodeT)) (fun k t ht => by
    have hm := lastOf_mem ht
    simp only [List.mem_singleton, Prod.mk.injEq] at hm
    obtain ⟨rfl, rfl⟩ := hm
    exact ⟨by simp [listT, T.kind], fun _ _ => by simp only [listT, T.kids, List.length_map]; omega⟩) (by simp) (fun k t ht => by
    have hm := lastOf_mem ht
    simp only [List.mem_singleton, Prod.mk.injEq] at hm
    obtain ⟨rfl, rfl⟩ := hm
    rw [wrapT, if_neg (by simp [listT, T.kind])]
    exact rd_list h hl)
/-- What is read in a place of a bool query. -/
def yB (ps : List Int) (ks : List Nd) (k : ByteArray) : T :=
  if k = s_must then listT ((inPlace ps 0 0 ks).map nodeT) else if k = s_must_not then listT ((inPlace ps 1 0 ks).map nodeT) else if k = s_should then listT ((inPlace ps 2 0 ks).map nodeT) else listT ((inPlace ps 3 0 ks).map nodeT)
abbrev listsB : List ByteArray := [s_must, s_must_not, s_should, s_filter]
/-- What may stand in a bool query that is read. -/
def BoolP (f : Nd → T) (ps : List Int) (ks : List Nd) (p : ByteArray × T) : Prop := hasS listsB p.1 = true ∧ ∃ l : List Nd, (∀ r ∈ l, r ∈ ks) ∧ l.length ≤ ks.length ∧ yB ps ks p.1 = listT (l.map nodeT) ∧ l ≠ [] ∧ (p.2 = listT (l.map f) ∨ ∃ r, l = [r] ∧ p.2 = f r)
theorem reads_bool_of {f : Nd → T} {ps : List Int} {ks : List Nd} (h : RK f ks) (hl : ks.length ≤ 1048576) {qs : List (ByteArray × T)} (hq : ∀ p ∈ qs, BoolP f ps ks p) (hlen : qs.length ≤ 65536) : Reads (mapT [(s_bool, mapT qs)]) (mapT [(s_bool, mapT (qs.map fun p => (p.1, yB ps ks p.1)))]) :=
  reads_bool qs (yB ps ks) (fun k t ht => by
    obtain ⟨-, l, hm, -, -, hne, h2⟩ := hq _ (lastOf_mem ht)
    dsimp only at h2
    rcases h2 with rfl | ⟨r, rfl, rfl⟩
    · exact ⟨by simp [listT, T.kind], fun _ _ => by simpa [listT, T.kids] using hne⟩
    · have hk := (h r (hm r (by simp))).1
      exact ⟨by omega, fun _ e => by omega⟩) hlen (fun k t ht => by
    obtain ⟨hs, l, hm, hle, hy, hne, h2⟩ := hq _ (lastOf_mem ht)
    dsimp only at h2 hs hy
    have hR : RK f l := fun r hr => h r (hm r hr)
    have hD := rd_list hR (by omega)
    rw [hy]
    rcases h2 with rfl | ⟨r, rfl, rfl⟩
    · rw [wrapT, if_neg (by simp [listT, T.kind])]
      exact hD
    · rw [wrapT, if_pos ⟨hs, by have := (h r (hm r (by simp))).1; omega⟩]
      exact hD)
theorem has_s_must : hasS listsB (placeName 0) = true := by
  show listsB.any (seq · s_must) = true
  simp [seq_self]
theorem has_s_must_not : hasS listsB (placeName 1) = true := by
  show listsB.any (seq · s_must_not) = true
  simp [seq_self]
theorem has_s_should : hasS listsB (placeName 2) = true := by
  show listsB.any (seq · s_should) = true
  simp [seq_self]
theorem has_s_filter : hasS listsB (placeName 3) = true := by
  show listsB.any (seq · s_filter) = true
  simp [seq_self]
theorem place_p (_f : Nd → T) (ps : List Int) (ks : List Nd) (z : Int) (hz : z = 0 ∨ z = 1 ∨ z = 2 ∨ z = 3) : hasS listsB (placeName z) = true ∧ yB ps ks (placeName z) = listT ((inPlace ps z 0 ks).map nodeT) := by
  rcases hz with rfl | rfl | rfl | rfl
  · refine ⟨has_s_must, ?_⟩
    show yB ps ks s_must = _
    unfold yB
    rw [if_pos rfl]
  · refine ⟨has_s_must_not, ?_⟩
    show yB ps ks s_must_not = _
    unfold yB
    rw [if_neg (by decide), if_pos rfl]
  · refine ⟨has_s_should, ?_⟩
    show yB ps ks s_should = _
    unfold yB
    rw [if_neg (by decide), if_neg (by decide), if_pos rfl]
  · refine ⟨has_s_filter, ?_⟩
    show yB ps ks s_filter = _
    unfold yB
    rw [if_neg (by decide), if_neg (by decide), if_neg (by decide)]
theorem tQ_p (f : Nd → T) (ps : List Int) (ks : List Nd) (z : Int) (hz : z = 0 ∨ z = 1 ∨ z = 2 ∨ z = 3) : ∀ p ∈ tQ (placeName z) ((inPlace ps z 0 ks).map f), BoolP f ps ks p := fun p hp => by
  obtain ⟨h1, h2⟩ := place_p f ps ks z hz
  unfold tQ at hp
  split at hp
  · cases hp
  · rename_i he
    simp only [List.mem_singleton] at hp
    subst hp
    exact ⟨h1, _, fun r hr => inPlace_mem hr, inPlace_len ps z ks 0, h2, fun e => he (by rw [e]; rfl), .inl rfl⟩
theorem tq_p (f : Nd → T) (ps : List Int) (ks : List Nd) (z : Int) (hz : z = 0 ∨ z = 1 ∨ z = 2 ∨ z = 3) : ∀ p ∈ tq (placeName z) ((inPlace ps z 0 ks).map f), BoolP f ps ks p := fun p hp => by
  obtain ⟨h1, h2⟩ := place_p f ps ks z hz
  have hle := inPlace_len ps z ks 0
  have hmem : ∀ r ∈ inPlace ps z 0 ks, r ∈ ks := fun r hr => inPlace_mem hr
  generalize inPlace ps z 0 ks = l at hp h2 hle hmem
  match l, hp with
  | [], hp => simp [tq] at hp
  | [r], hp =>
    simp [tq] at hp
    subst hp
    exact ⟨h1, [r], hmem, hle, h2, by simp, .inr ⟨r, rfl, rfl⟩⟩
  | a :: b :: r, hp =>
    simp [tq] at hp
    subst hp
    exact ⟨h1, a :: b :: r, hmem, hle, h2, by simp, .inl rfl⟩
theorem tQ_read (f : Nd → T) (ps : List Int) (ks : List Nd) (z : Int) (hz : z = 0 ∨ z = 1 ∨ z = 2 ∨ z = 3) : (tQ (placeName z) ((inPlace ps z 0 ks).map f)).map (fun p => (p.1, yB ps ks p.1)) = tQ (placeName z) ((inPlace ps z 0 ks).map nodeT) := by
  obtain ⟨-, h2⟩ := place_p f ps ks z hz
  unfold tQ
  generalize inPlace ps z 0 ks = l at h2
  cases l with
  | nil => rfl
  | cons a r => simp [h2]
theorem tq_read (f : Nd → T) (ps : List Int) (ks : List Nd) (z : Int) (hz : z = 0 ∨ z = 1 ∨ z = 2 ∨ z = 3) : (tq (placeName z) ((inPlace ps z 0 ks).map f)).map (fun p => (p.1, yB ps ks p.1)) = tQ (placeName z) ((inPlace ps z 0 ks).map nodeT) := by
  obtain ⟨-, h2⟩ := place_p f ps ks z hz
  unfold tQ
  generalize inPlace ps z 0 ks = l at h2
  match l, h2 with
  | [], _ => rfl
  | [r], h2 => simp [tq, h2]
  | a :: b :: r, h2 => simp [tq, h2]
theorem tQ_lastN {k q : ByteArray} (h : k ≠ q) (l : List T) : lastOf (tQ k l) q = none := lastOf_none fun _ p hp e => by
  have hm := List.mem_of_getElem? hp
  unfold tQ at hm
  split at hm
  · cases hm
  · simp only [List.mem_singleton] at hm
    subst hm
    exact h e
theorem bool_turn (a b c d : List T) : mapT (tQ s_must a ++ tQ s_must_not b ++ tQ s_filter d ++ tQ s_should c) = mapT (tQ s_must a ++ tQ s_must_not b ++ tQ s_should c ++ tQ s_filter d) := mapT_congr fun k => by
  simp only [lastOf_append]
  by_cases h1 : s_should = k
  · rw [tQ_lastN (k := s_filter) (show s_filter ≠ k by rw [← h1]; decide)]
    simp
  · rw [tQ_lastN (k := s_should) h1]
    simp
theorem tQ_len (k : ByteArray) (l : List T) : (tQ k l).length ≤ 1 := by
  unfold tQ
  split <;> simp
theorem nodeT_kind (r : Nd) : (nodeT r).kind = 5 := by
  obtain ⟨k, x, ps, ks⟩ := r
  rw [nodeT]
  repeat' split
  all_goals exact mapT_kind _
theorem term_ne {x : ByteArray} (h : FieldP x) : x ≠ s_name ∧ x ≠ s_boost := ⟨field_ne h (by decide), field_ne h (by decide)⟩
theorem reads_got_mk (k : Int) (x : ByteArray) (ps : List Int) (ks : List Nd) (hF : FitN (.mk k x ps ks)) (hS : SmallN 1048576 (.mk k x ps ks)) (h : ∀ r ∈ ks, Reads (treeJ (jNode r)) (nodeT r)) : Reads (treeJ (jNode (.mk k x ps ks))) (nodeT (.mk k x ps ks)) := by
  simp only [FitN] at hF
  simp only [SmallN] at hS
  have hR : RK (fun r => treeJ (jNode r)) ks := fun r hr => ⟨node_kind r, h r hr⟩
  have hJ : (jNodes ks).map treeJ = ks.map fun r => treeJ (jNode r) := by rw [jNodes_eq, List.map_map]; rfl
  have hP : ∀ z : Int, (inPlace ps z 0 (jNodes ks)).map treeJ = (inPlace ps z 0 ks).map fun r => treeJ (jNode r) := fun z => by rw [jNodes_eq, inPlace_map, List.map_map]; rfl
  have hPT : ∀ z : Int, inPlace ps z 0 (nodesT ks) = (inPlace ps z 0 ks).map nodeT := fun z => by rw [nodesT_eq, inPlace_map]
  rw [jNode, nodeT]
  by_cases e1 : k = 1
  · rw [if_pos e1, if_pos e1, jMap_treeV]
    have hx := term_ne (hF.1 (.inl e1)).1
    exact reads_term x x _ (.inl ⟨by simp [treeJ, textT, T.kind], rfl⟩) hx.1 hx.2 (by omega)
  rw [if_neg e1, if_neg e1]
  by_cases e2 : k = 2
  · rw [if_pos e2, if_pos e2, jMap_treeV]
    exact reads_one s_exists s_field (by decide) (by decide) (by decide) (.inr rfl) (reads_text x)
  rw [if_neg e2, if_neg e2]
  by_cases e3 : k = 3
  · rw [if_pos e3, if_pos e3, jMap_tree]
    simp only [jTree_append, jTree_jQ, hP, hPT]
    have g := reads_bool_of (f := fun r => treeJ (jNode r)) (ps := ps) hR hS.2.2.1 (qs := tq s_must ((inPlace ps 0 0 ks).map fun r => treeJ (jNode r)) ++ tq s_must_not ((inPlace ps 1 0 ks).map fun r => treeJ (jNode r)) ++ tq s_filter ((inPlace ps 3 0 ks).map fun r => treeJ (jNode r)) ++ tq s_should ((inPlace ps 2 0 ks).map fun r => treeJ (jNode r))) (fun p hp => by
      simp only [List.mem_append] at hp
      rcases hp with ((hp | hp) | hp) | hp
      · exact tq_p _ ps ks 0 (by omega) p hp
      · exact tq_p _ ps ks 1 (by omega) p hp
      · exact tq_p _ ps ks 3 (by omega) p hp
      · exact tq_p _ ps ks 2 (by omega) p hp) (by
      simp only [List.length_append]
      have h1 := tq_len s_must ((inPlace ps 0 0 ks).map fun r => treeJ (jNode r))
      have h2 := tq_len s_must_not ((inPlace ps 1 0 ks).map fun r => treeJ (jNode r))
      have h3 := tq_len s_filter ((inPlace ps 3 0 ks).map fun r => treeJ (jNode r))
      have h4 := tq_len s_should ((inPlace ps 2 0 ks).map fun r => treeJ (jNode r))
      omega)
    simp only [List.map_append] at g
    have t0 := tq_read (fun r => treeJ (jNode r)) ps ks 0 (by omega)
    have t1 := tq_read (fun r => treeJ (jNode r)) ps ks 1 (by omega)
    have t2 := tq_read (fun r => treeJ (jNode r)) ps ks 2 (by omega)
    have t3 := tq_read (fun r => treeJ (jNode r)) ps ks 3 (by omega)
    rw [show placeName 0 = s_must from rfl] at t0
    rw [show placeName 1 = s_must_not from rfl] at t1
    rw [show placeName 2 = s_should from rfl] at t2
    rw [show placeName 3 = s_filter from rfl] at t3
    rw [t0, t1, t2, t3, bool_turn] at g
    exact g
  rw [if_neg e3, if_neg e3]
  by_cases e4 : k = 4
  · rw [if_pos e4, if_pos e4, jMap_treeV, kidJ_tree, hJ, nodesT_eq]
    have g := reads_kid hR 0
    exact reads_one s_constant_score s_filter (by decide) (by decide) (by decide) (.inl g.1) g.2
  rw [if_neg e4, if_neg e4]
  by_cases e5 : k = 5
  · rw [if_pos e5, if_pos e5, jMap_treeV, nodesT_eq]
    rw [show treeJ (.list (jNodes ks)) = listT (ks.map fun r => treeJ (jNode r)) by rw [treeJ, treesJ_map, hJ]]
    exact reads_dis_of hR (hF.2.1 e5) hS.2.2.1
  rw [if_neg e5, if_neg e5]
  by_cases e6 : k = 6
  · rw [if_pos e6, if_pos e6, jMap_tree, nodesT_eq]
    have g0 := reads_kid hR 0
    have g1 := reads_kid hR 1
    have g := reads_boosting g0.1 g1.1 g0.2 g1.2
    rw [← hJ, ← kidJ_tree, ← kidJ_tree] at g
    exact g
  rw [if_neg e6, if_neg e6]
  by_cases e7 : k = 7
  · rw [if_pos e7, if_pos e7, jMap_tree, nodesT_eq]
    have g0 := reads_kid hR 0
    have g := reads_nested (x := x) g0.1 g0.2
    rw [← hJ, ← kidJ_tree, ← nested_turn] at g
    exact g
  rw [if_neg e7, if_neg e7, show treeJ jAll = allT by rw [jMap_tree]; rfl]
  exact reads_all
theorem reads_want_mk (k : Int) (x : ByteArray) (ps : List Int) (ks : List Nd) (hF : FitN (.mk k x ps ks)) (hS : SmallN 1048576 (.mk k x ps ks)) (h : ∀ r ∈ ks, Reads (nodeT r) (nodeT r)) : Reads (nodeT (.mk k x ps ks)) (nodeT (.mk k x ps ks)) := by
  simp only [FitN] at hF
  simp only [SmallN] at hS
  have hR : RK nodeT ks := fun r hr => ⟨nodeT_kind r, h r hr⟩
  have hPT : ∀ z : Int, inPlace ps z 0 (nodesT ks) = (inPlace ps z 0 ks).map nodeT := fun z => by rw [nodesT_eq, inPlace_map]
  rw [nodeT]
  by_cases e1 : k = 1
  · rw [if_pos e1]
    have hx := term_ne (hF.1 (.inl e1)).1
    exact reads_term x x _ (.inr rfl) hx.1 hx.2 (by omega)
  rw [if_neg e1]
  by_cases e2 : k = 2
  · rw [if_pos e2]
    exact reads_one s_exists s_field (by decide) (by decide) (by decide) (.inr rfl) (reads_text x)
  rw [if_neg e2]
  by_cases e3 : k = 3
  · rw [if_pos e3]
    simp only [hPT]
    have g := reads_bool_of (f := nodeT) (ps := ps) hR hS.2.2.1 (qs := tQ s_must ((inPlace ps 0 0 ks).map nodeT) ++ tQ s_must_not ((inPlace ps 1 0 ks).map nodeT) ++ tQ s_should ((inPlace ps 2 0 ks).map nodeT) ++ tQ s_filter ((inPlace ps 3 0 ks).map nodeT)) (fun p hp => by
      simp only [List.mem_append] at hp
      rcases hp with ((hp | hp) | hp) | hp
      · exact tQ_p _ ps ks 0 (by omega) p hp
      · exact tQ_p _ ps ks 1 (by omega) p hp
      · exact tQ_p _ ps ks 2 (by omega) p hp
      · exact tQ_p _ ps ks 3 (by omega) p hp) (by
      simp only [List.length_append]
      have h1 := tQ_len s_must ((inPlace ps 0 0 ks).map nodeT)
      have h2 := tQ_len s_must_not ((inPlace ps 1 0 ks).map nodeT)
      have h3 := tQ_len s_should ((inPlace ps 2 0 ks).map nodeT)
      have h4 := tQ_len s_filter ((inPlace ps 3 0 ks).map nodeT)
      omega)
    simp only [List.map_append] at g
    have t0 := tQ_read nodeT ps ks 0 (by omega)
    have t1 := tQ_read nodeT ps ks 1 (by omega)
    have t2 := tQ_read nodeT ps ks 2 (by omega)
    have t3 := tQ_read nodeT ps ks 3 (by omega)
    rw [show placeName 0 = s_must from rfl] at t0
    rw [show placeName 1 = s_must_not from rfl] at t1
    rw [show placeName 2 = s_should from rfl] at t2
    rw [show placeName 3 = s_filter from rfl] at t3
    rw [t0, t1, t2, t3] at g
    exact g
  rw [if_neg e3]
  by_cases e4 : k = 4
  · rw [if_pos e4, nodesT_eq]
    have g := reads_kid hR 0
    exact reads_one s_constant_score s_filter (by decide) (by decide) (by decide) (.inl g.1) g.2
  rw [if_neg e4]
  by_cases e5 : k = 5
  · rw [if_pos e5, nodesT_eq]
    exact reads_dis_of hR (hF.2.1 e5) hS.2.2.1
  rw [if_neg e5]
  by_cases e6 : k = 6
  · rw [if_pos e6, nodesT_eq]
    have g0 := reads_kid hR 0
    have g1 := reads_kid hR 1
    exact reads_boosting g0.1 g1.1 g0.2 g1.2
  rw [if_neg e6]
  by_cases e7 : k = 7
  · rw [if_pos e7, nodesT_eq]
    have g0 := reads_kid hR 0
    exact reads_nested g0.1 g0.2
  rw [if_neg e7]
  exact reads_all
mutual
theorem reads_node : ∀ r : Nd, FitN r → SmallN 1048576 r → Reads (treeJ (jNode r)) (nodeT r) ∧ Reads (nodeT r) (nodeT r)
  | .mk k x ps ks, h, h2 => by
    have g := reads_nodes ks (by simp only [FitN] at h; exact h.2.2.2) (by simp only [SmallN] at h2; exact h2.2.2.2)
    exact ⟨reads_got_mk k x ps ks h h2 fun r hr => (g r hr).1, reads_want_mk k x ps ks h h2 fun r hr => (g r hr).2⟩
theorem reads_nodes : ∀ l : List Nd, FitNs l → SmallNs 1048576 l → ∀ r ∈ l, Reads (treeJ (jNode r)) (nodeT r) ∧ Reads (nodeT r) (nodeT r)
  | [], _, _, r, h => by cases h
  | q :: l, h, h2, r, hr => by
    simp only [FitNs] at h
    simp only [SmallNs] at h2
    rcases List.mem_cons.1 hr with e | hr
    · rw [e]; exact reads_node q h.1 h2.1
    · exact reads_nodes l h.2 h2.2 r hr
end
theorem ok_allT : okT allT = true := okT_map fun p hp => by
  simp only [List.mem_singleton] at hp
  subst hp
  exact okT_map fun p hp => by cases hp
theorem ok_kidT {l : List T} (h : ∀ t ∈ l, okT t = true) (i : Nat) : okT (kidT l i) = true := by
  unfold kidT
  cases hi : l[i]? with
  | none => exact ok_allT
  | some t => exact h t (List.mem_of_getElem? hi)
theorem ok_tQ {k : ByteArray} {l : List T} (h : ∀ t ∈ l, okT t = true) : ∀ p ∈ tQ k l, okT p.2 = true := fun p hp => by
  unfold tQ at hp
  split at hp
  · cases hp
  · simp only [List.mem_singleton] at hp
    subst hp
    exact okT_list h
theorem ok_two {k : ByteArray} {l : List (ByteArray × T)} (h : ∀ p ∈ l, okT p.2 = true) : okT (mapT [(k, mapT l)]) = true := okT_map fun p hp => by
  simp only [List.mem_singleton] at hp
  subst hp
  exact okT_map h
mutual
theorem ok_nodeT : ∀ r : Nd, okT (nodeT r) = true
  | .mk k x ps ks => by
    have g := ok_nodesT ks
    have gp : ∀ z : Int, ∀ t ∈ inPlace ps z 0 (nodesT ks), okT t = true := fun z t ht => g t (inPlace_mem ht)
    have hh : okT (numT halfB) = true := okT_num (by decide)
    rw [nodeT]
    split
    · exact ok_two fun p hp => by
        simp only [List.mem_singleton] at hp
        subst hp
        exact okT_map fun p hp => by
          simp only [List.mem_singleton] at hp
          subst hp
          exact okT_text x
    split
    · exact ok_two fun p hp => by
        simp only [List.mem_singleton] at hp
        subst hp
        exact okT_text x
    split
    · exact ok_two fun p hp => by
        simp only [List.mem_append] at hp
        rcases hp with ((hp | hp) | hp) | hp
        · exact ok_tQ (gp 0) p hp
        · exact ok_tQ (gp 1) p hp
        · exact ok_tQ (gp 2) p hp
        · exact ok_tQ (gp 3) p hp
    split
    · exact ok_two fun p hp => by
        simp only [List.mem_singleton] at hp
        subst hp
        exact ok_kidT g 0
    split
    · exact ok_two fun p hp => by
        simp only [List.mem_singleton] at hp
        subst hp
        exact okT_list g
    split
    · exact ok_two fun p hp => by
        simp only [List.mem_cons, List.not_mem_nil, or_false] at hp
        rcases hp with rfl | rfl | rfl
        · exact ok_kidT g 0
        · exact ok_kidT g 1
        · exact hh
    split
    · exact ok_two fun p hp => by
        simp only [List.mem_cons, List.not_mem_nil, or_false] at hp
        rcases hp with rfl | rfl
        · exact okT_text x
        · exact ok_kidT g 0
    · exact ok_two fun p hp => by cases hp
theorem ok_nodesT : ∀ l : List Nd, ∀ t ∈ nodesT l, okT t = true
  | [], t, h => by simp [nodesT] at h
  | r :: l, t, h => by
    rw [nodesT] at h
    rcases List.mem_cons.1 h with e | h
    · rw [e]; exact ok_nodeT r
    · exact ok_nodesT l t h
end
end Go.Proofs.YtfngaoicoecncaaGreatDoor

