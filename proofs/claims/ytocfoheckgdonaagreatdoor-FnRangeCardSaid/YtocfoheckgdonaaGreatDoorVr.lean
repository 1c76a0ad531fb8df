/-
  Queries of a field: as they are told (InField, Valued), and as they are read (ReadValued).
-/
import Derived.Test.YtocfoheckgdonaaGreatDoorVd
import Derived.Test.YtocfoheckgdonaaGreatDoorR1
import Derived.Lib.Walk
import Derived.Lib.Strings
import Derived.Lib.Slices
import Derived.Laws.Strings3
import Derived.Test.YtocfoheckgdonaaGreatDoorP4
import Derived.Test.YtocfoheckgdonaaGreatDoorTr
namespace Go.Proofs.YtocfoheckgdonaaGreatDoor
open Go.RowKit

set_option maxHeartbeats 1000000 in
theorem hasSuffix_in (s p : ByteArray) (w : World) (hs : s.size ≤ 9223372036854775807) :
    Calls Tryz.prog 141 #[.string s, .string p] w fun e w' => e = .returned (.bool (Lib.hasSuffix s.data.toList p.data.toList)) ∧ w' = w := by
  rw [← Lib.hasSuffix_raw]
  have hlo : p.size ≤ s.size → ((s.size : Int) - (p.size : Int) + 9223372036854775808) % 18446744073709551616 - 9223372036854775808 = ((s.size - p.size : Nat) : Int) := fun _ => by omega
  go_enter Tryz.func141, Tryz.ntmps141
  go_wp2
  · have h : p.size ≤ s.size := by assumption
    go_ret
    refine ⟨?_, rfl⟩
    show Ending.returned (Value.bool ((s.extract (s.size - p.size) s.size).toList == p.toList)) = _
    simp [h]
  · have h : ¬ p.size ≤ s.size := by assumption
    go_ret
    refine ⟨?_, rfl⟩
    show Ending.returned (Value.bool false) = _
    simp [h]
set_option maxHeartbeats 1000000 in
theorem hasSuffix_any (s p : ByteArray) (w : World) (hs : s.size ≤ 9223372036854775807) :
    Calls Tryz.prog 122 #[.string s, .string p] w fun e w' => e = .returned (.bool (Lib.hasSuffix s.data.toList p.data.toList)) ∧ w' = w := by
  go_enter Tryz.func122, Tryz.ntmps122
  go_wp2_with (go_at_call 141; refine (hasSuffix_in _ _ _ hs).mono ?_; rintro e w' ⟨rfl, rfl⟩)
  go_ret
  exact ⟨rfl, rfl⟩
/-- A text is made small. -/
def LowerAt (lw : ByteArray → ByteArray) (w : World) (s : ByteArray) : Prop := ∀ w', Ext w w' → Calls Tryz.prog 124 #[.string s] w' fun r w2 => r = .returned (.string (lw s)) ∧ Ext w' w2
theorem LowerAt.ext {lw : ByteArray → ByteArray} {w w' : World} {s : ByteArray} (h : LowerAt lw w s) (x : Ext w w') : LowerAt lw w' s := fun w2 y => h w2 (ext_trans x y)

set_option maxHeartbeats 12000000 in
theorem folded_map {S : Nat → Prop} (lw : ByteArray → ByteArray) (x : ByteArray) (d : Nat) (y : Bool) (ks : List ByteArray) (xs : List T) (e : El) (w : World) (h : TreeAt S w e (.mk 5 x d y ks xs)) (ho : okF (.mk 5 x d y ks xs)) (hlow : ∀ s ∈ opTextss xs ks, LowerAt lw w s)
    (ih : ∀ x ∈ xs, ∀ (S : Nat → Prop) (e : El) (w' : World), TreeAt S w' e x → okF x → (∀ s ∈ opTexts x, LowerAt lw w' s) → Calls Tryz.prog 49 #[e.val] w' fun r w2 => ∃ g : El, r = .returned g.val ∧ TreeAt (fun b => (S b ∧ b < w'.heap.size) ∨ w'.heap.size ≤ b) w2 g (foldT lw x) ∧ Ext w' w2) :
    Calls Tryz.prog 49 #[e.val] w fun r w' => ∃ g : El, r = .returned g.val ∧ TreeAt (fun b => (S b ∧ b < w.heap.size) ∨ w.heap.size ≤ b) w' g (mapT (foldK lw xs ks)) ∧ Ext w w' := by
  simp only [okF] at ho
  obtain ⟨hlen, hlx, hsz, hos⟩ := ho trivial
  have h := h.to (S' := fun b => S b ∧ b < w.heap.size) (fun b h1 h2 => ⟨h1, h2⟩)
  obtain ⟨e1, e2, e3, e4, e5, e6⟩ := h.parts
  simp only [T.kind, T.text, T.num, T.yes, T.keys, T.kids] at e1 e2 e3 e4 e5 e6
  clear h
  obtain ⟨ek, ex, ed, ey, eka, en, ekc, eca, em, ecc⟩ := e
  simp only at e1 e2 e3 e4 e5 e6
  subst e1 e2 e3 e4
  have hn := e5.1
  have hm := e6.1
  obtain rfl : en = em := hn.symm.trans (hlx.trans hm)
  have hkc := e5.2.1
  have hkm := e5.2.2.1
  have hcc := e6.2.1
  have hcm := e6.2.2.1
  unfold maxLen at hkm hcm
  have hLl : (foldK lw xs ks).length = en := (foldK_len lw xs ks hlx).trans hn
  have HN := Lib.hid hn
  have HM := Lib.hid hm
  have HL := Lib.hid hLl
  have H5 := Lib.hid e5
  have H6 := Lib.hid e6
  have HSZ := Lib.hid hsz
  have HOS := Lib.hid ((okFs_all xs).1 hos)
  have HLOW := Lib.hid hlow
  have HIH := Lib.hid ih
  have hen : en ≤ 65536 := by omega
  clear e5 e6 hn hm hlx hsz hos hlow ih ho hLl
  have HG := Lib.hid (fun (j : Nat) (t : T) (k : ByteArray) (h1 : xs[j]? = some t) (h2 : ks[j]? = some k) => foldK_get lw xs ks j t k h1 h2)
  have HT := Lib.hid (fun (s : ByteArray) (j : Nat) (t : T) (k : ByteArray) (h1 : xs[j]? = some t) (h2 : ks[j]? = some k) => opTextss_get (s := s) xs ks j t k h1 h2)
  generalize hLL : foldK lw xs ks = L at HL HG ⊢
  clear hLL
  simp only [El.val]
  have hx0 : Ext w ((w.alloc (.cells (El.arr ⟨5, ex, ed, ey, eka, en, ekc, eca, en, ecc⟩) 26)).alloc (.cells (El.arr El0) 26)) := ext_alloc (ext_alloc (ext_refl _) _) _
  have hb1o : Box ((w.alloc (.cells (El.arr ⟨5, ex, ed, ey, eka, en, ekc, eca, en, ecc⟩) 26)).alloc (.cells (El.arr El0) 26)) w.heap.size (El.arr ⟨5, ex, ed, ey, eka, en, ekc, eca, en, ecc⟩) 26 := (Box.at rfl _ _).alloc _
  have hb2o : Box ((w.alloc (.cells (El.arr ⟨5, ex, ed, ey, eka, en, ekc, eca, en, ecc⟩) 26)).alloc (.cells (El.arr El0) 26)) (w.heap.size + 1) (El.arr El0) 26 := Box.at (by simp) _ _
  have hMp := map_any (S := fun _ => False) none 0 0 [] ((w.alloc (.cells (El.arr ⟨5, ex, ed, ey, eka, en, ekc, eca, en, ecc⟩) 26)).alloc (.cells (El.arr El0) 26)) ⟨rfl, Nat.le_refl _, by simp [maxLen], fun _ _ h => by simp at h⟩ (by decide)
  go_enter Tryz.func49, Tryz.ntmps49
  go_upto_region 4 with (go_at_call 46; refine hMp.mono ?_; rintro r w4 ⟨⟨ok, ox, od, oy, oka, on, okc, oca, om, occ⟩, rfl, hT4, hx4⟩; simp only [El.val])
  have hx5 : Ext w4 (w4.alloc (.cells (El.arr ⟨ok, ox, od, oy, oka, on, okc, oca, om, occ⟩) 26)) := ext_alloc (ext_refl _) _
  have hb9 : Box (w4.alloc (.cells (El.arr ⟨ok, ox, od, oy, oka, on, okc, oca, om, occ⟩) 26)) w4.heap.size (El.arr ⟨ok, ox, od, oy, oka, on, okc, oca, om, occ⟩) 26 := Box.at rfl _ _
  have hb92 : w.heap.size + 1 < w4.heap.size := (hb2o.ext hx4).lt
  have hb1 := (hb1o.ext hx4).ext hx5
  have hb2 := (hb2o.ext hx4).ext hx5
  clear hb1o hb2o
  have hT5 := Lib.hid ((hT4.to (S' := fun b => (S b ∧ b < w.heap.size) ∨ (w.heap.size + 1 < b ∧ b ≠ w4.heap.size)) (fun b h1 h2 => by
    rcases h1 with h1 | h1
    · exact h1.1.elim
    · simp at h1
      exact .inr ⟨by omega, by omega⟩)).ext hx5)
  have hx6 := ext_trans hx0 (ext_trans hx4 hx5)
  clear hT4 hx0 hx4 hx5 hMp
  generalize w4.alloc (.cells (El.arr ⟨ok, ox, od, oy, oka, on, okc, oca, om, occ⟩) 26) = w5 at hb9 hb1 hb2 hT5 hx6 ⊢
  generalize w4.heap.size = b9 at hb9 hb92 hT5 ⊢
  go_wp2_with fail
  go_loopw [4] (fun i wr => Ext w wr ∧ Box wr w.heap.size (El.arr ⟨5, ex, ed, ey, eka, en, ekc, eca, en, ecc⟩) 26 ∧ Box wr (w.heap.size + 1) (El.arr El0) 26 ∧ ∃ (j : Nat) (eo : El), j ≤ en ∧ i = .int .i64 j ∧ Box wr b9 eo.arr 26 ∧ TreeAt (fun b => (S b ∧ b < w.heap.size) ∨ (w.heap.size + 1 < b ∧ b ≠ b9)) wr eo (mapT (L.take j))) (fun i _ => en - (intOf i).toNat)
  case atStart => exact ⟨hx6, hb1, hb2, 0, _, Nat.zero_le _, rfl, hb9, hT5.out⟩
  case round =>
    clear hb1 hb2 hb9 hx6 hT5
    obtain ⟨hx, hb1, hb2, j, eo, hj, rfl, hb9, hTo⟩ := hrel
    obtain ⟨q0, q1, q2, q3, q4, q5⟩ := hb1.six
    have hTo := Lib.hid hTo
    have hb9l := hb9.lt
    by_cases hlt : j < en
    · obtain ⟨key, hk⟩ := some_of_lt HN.out hlt
      obtain ⟨kid, hkd⟩ := some_of_lt HM.out hlt
      obtain ⟨b, off, rfl, hSb, hc⟩ := H5.out.2.2.2 j key hk
      obtain ⟨b2, off2, g, rfl, hSb2, hc6, hTk⟩ := H6.out.get hkd
      have hcw := hx.cell hc
      have hc6 := CellsAt.ext hx hc6
      have hc := hcw
      have hkeysz := HSZ.out key (List.mem_of_getElem? hk)
      have HP := Lib.hid (HG.out j kid key hkd hk)
      have hF := HIH.out kid (List.mem_of_getElem? hkd) (fun b => S b ∧ b < w.heap.size) g wr (hTk.ext hx) (HOS.out kid (List.mem_of_getElem? hkd)) (fun s hs => (HLOW.out s (HT.out s j kid key hkd hk (.inr hs))).ext hx)
      have HLW := Lib.hid (fun (h1 : opKey key = true) (h2 : kid.kind = 1) => HLOW.out kid.text (HT.out kid.text j kid key hkd hk (.inl ⟨h1, h2, rfl⟩)))
      have HS := Lib.hid (fun (w : World) => hasSuffix_any key ⟨#[111, 112, 101, 114, 97, 116, 111, 114]⟩ w (by omega))
      have hfk := foldT_kind lw kid
      have hfi := fun (h : kid.kind = 1) => foldT_id lw (t := kid) (by omega)
      have HFI := Lib.hid hfi
      clear hk hkd hkeysz hTk hfi
      obtain ⟨kk, kx, kd, ky, kka, kn, kkc, kca, km, kcc⟩ := g
      simp only [El.val] at hF
      go_upto_region 8 with (go_at_call 49; refine hF.mono ?_; rintro r w6 ⟨⟨gk, gx, gd, gy, gka, gn, gkc, gca, gm, gcc⟩, rfl, hTk, hx6⟩; simp only)
      have hx7 : Ext wr (w6.alloc (.cells (El.arr ⟨gk, gx, gd, gy, gka, gn, gkc, gca, gm, gcc⟩) 26)) := ext_alloc hx6 _
      have hb11 : Box (w6.alloc (.cells (El.arr ⟨gk, gx, gd, gy, gka, gn, gkc, gca, gm, gcc⟩) 26)) w6.heap.size (El.arr ⟨gk, gx, gd, gy, gka, gn, gkc, gca, gm, gcc⟩) 26 := Box.at rfl _ _
      have hbk9 : wr.heap.size ≤ w6.heap.size := hx6.sz
      have hTk := Lib.hid ((hTk.to (S' := fun b => (S b ∧ b < w.heap.size) ∨ (w.heap.size + 1 < b ∧ b ≠ b9)) (fun b h1 _ => by
        rcases h1 with h1 | h1
        · exact .inl h1.1
        · exact .inr ⟨by omega, by omega⟩)).ext (ext_alloc (ext_refl w6) (.cells (El.arr ⟨gk, gx, gd, gy, gka, gn, gkc, gca, gm, gcc⟩) 26)))
      have HGK := Lib.hid (show gk = kid.kind from hTk.out.parts.1.trans hfk)
      have hTx := Lib.hid hTk.out.parts.2.1
      have hc := hx7.cell hc
      have hb1' := hb1.ext hx7
      clear q0 q1 q2 q3 q4 q5 hx6 hc6 hF
      generalize w6.alloc (.cells (El.arr ⟨gk, gx, gd, gy, gka, gn, gkc, gca, gm, gcc⟩) 26) = w7 at hx7 hb11 hTk hc hb1' ⊢
      generalize w6.heap.size = bk at hb11 hbk9 ⊢
      obtain ⟨q0, q1, q2, q3, q4, q5⟩ := hb1'.six
      obtain ⟨m0, m1, m2, m3, m4, m5⟩ := hb11.six
      have hHS := HS.out w7
      go_cut [5, 42] (fun s5 s42 wc => s5 = .pointer (some ⟨bk, 0, none⟩) ∧ s42 = .bool (opKey key && (gk == 1)) ∧ wc = w7)
      case first =>
        cases hb : Lib.hasSuffix key.data.toList [111, 112, 101, 114, 97, 116, 111, 114]
        · cases hs : key.toList == [109, 111, 100, 105, 102, 105, 101, 114]
          · have hop : opKey key = false := by
              rw [opKey, hb, seq, show (⟨#[109, 111, 100, 105, 102, 105, 101, 114]⟩ : ByteArray).toList = [109, 111, 100, 105, 102, 105, 101, 114] by rw [Lib.toList_data], hs]; rfl
            go_wp2_with (go_at_call 122; refine hHS.mono ?_; rintro r w' ⟨rfl, rfl⟩; rw [hb])
            go_meet
            case rel => exact ⟨rfl, by rw [hop]; rfl, rfl⟩
          · have hop : opKey key = true := by
              rw [opKey, hb, seq, show (⟨#[109, 111, 100, 105, 102, 105, 101, 114]⟩ : ByteArray).toList = [109, 111, 100, 105, 102, 105, 101, 114] by rw [Lib.toList_data], hs]; rfl
            go_wp2_with (go_at_call 122; refine hHS.mono ?_; rintro r w' ⟨rfl, rfl⟩; rw [hb])
            go_meet
            case rel => exact ⟨rfl, by rw [hop, Bool.true_and], rfl⟩
        · have hop : opKey key = true := by rw [opKey, hb]; rfl
          go_wp2_with (go_at_call 122; refine hHS.mono ?_; rintro r w' ⟨rfl, rfl⟩; rw [hb])
          go_meet
          case rel => exact ⟨rfl, by rw [hop, Bool.true_and], rfl⟩
      case rest =>
        obtain ⟨rfl, rfl, rfl⟩ := hcut
        go_upto_if 42 with fail
        go_cut [5] (fun s5 wc => s5 = .pointer (some ⟨bk, 0, none⟩) ∧ Ext wr wc ∧ ∃ gq : El, Box wc bk gq.arr 26 ∧ TreeAt (fun b => (S b ∧ b < w.heap.size) ∨ (w.heap.size + 1 < b ∧ b ≠ b9)) wc gq (lowT lw key (foldT lw kid)))
        case first =>
          cases hcd : (opKey key && (gk == 1))
          · go_wp2_with fail
            go_meet
            case rel =>
              refine ⟨rfl, hx7, _, hb11, ?_⟩
              have : lowT lw key (foldT lw kid) = foldT lw kid := by
                unfold lowT
                rw [if_neg]
                rintro ⟨h1, h2⟩
                rw [h1, HGK.out, ← hfk, h2] at hcd
                exact absurd hcd (by decide)
              rw [this]
              exact hTk.out
          · rw [Bool.and_eq_true, beq_iff_eq] at hcd
            obtain ⟨hc1, hc2⟩ := hcd
            subst hc2
            have hk1 : kid.kind = 1 := HGK.out.symm
            have HGX := Lib.hid (show gx = kid.text by have := hTx.out; rw [HFI.out hk1] at this; exact this)
            have hL := HLW.out hc1 hk1 _ (ext_trans hx hx7)
            rw [← HGX.out] at hL
            have HK1 := Lib.hid hk1
            clear hk1
            go_wp2_with (first
              | (go_at_call 124; refine hL.mono ?_; rintro r w8 ⟨rfl, hx8⟩)
              | (go_at_call 123; refine (text_any _ _).mono ?_; rintro r w9 ⟨gt, rfl, hTt, hx9⟩; simp only [El.val]; have hbt := hb11.ext (ext_trans hx8 hx9); obtain ⟨o0, o1, o2, o3, o4, o5⟩ := hbt.six; have f0 := hbt.free 0; have f1 := hbt.free 1; have f2 := hbt.free 2; have f3 := hbt.free 3; have f4 := hbt.free 4; have f5 := hbt.free 5))
            go_meet
            case rel =>
              refine ⟨rfl, ext_sto6 (ext_trans hx7 (ext_trans hx8 hx9)) (by omega) _ _ _ _ _ _, gt, hbt.sto gt, ?_⟩
              have : lowT lw key (foldT lw kid) = textT (lw gx) := by
                rw [HFI.out HK1.out, HGX.out]
                unfold lowT
                rw [if_pos ⟨hc1, HK1.out⟩]
              rw [this]
              exact TreeAt.keep (fun _ h _ => h.elim) (keeps_sto (S := fun _ => False) w9 (fun h => h) gt) _ (hTt (fun _ => False))
        case rest =>
          obtain ⟨rfl, hxc, gq, hbq, hTq⟩ := hcut
          clear q0 q1 q2 q3 q4 q5 m0 m1 m2 m3 m4 m5 hTk hTx HGK hb1' hHS hx7 hb11 hc
          have hcc := hxc.cell hcw
          have hb1c := hb1.ext hxc
          have hb2c := hb2.ext hxc
          have hb9c := hb9.ext hxc
          have hb9cl := hb9c.lt
          go_upto_region 10 with fail
          have hS : Six wc.drew b9 eo ∧ Six wc.drew w.heap.size ⟨5, ex, ed, ey, some ⟨b, off, none⟩, en, ekc, some ⟨b2, off2, none⟩, en, ecc⟩ ∧ Six wc.drew bk gq ∧ wc.drew.cell? ⟨b, off + j, none⟩ = some (.string key) := ⟨hb9c.Six, hb1c.Six, hbq.Six, hcc⟩
          refine wp_region_order (fun w' => Six w' b9 eo ∧ Six w' w.heap.size ⟨5, ex, ed, ey, some ⟨b, off, none⟩, en, ekc, some ⟨b2, off2, none⟩, en, ecc⟩ ∧ Six w' bk gq ∧ w'.cell? ⟨b, off + j, none⟩ = some (.string key)) [0, 1, 2, 3, 4, 5, 6] [0, 1, 2, 3, 4, 5, 6, 7, 8] (by kernel_rfl) (by kernel_rfl) (fun d _ _ _ _ h => by cases d <;> exact h) (by kernel_rfl) ?_
          iterate 7 (apply ord_held rfl rfl (by assumption) rfl; (focus ((intro w' hS'); go_simp; (try with_reducible rfl))); (try simp only [Act.put, List.setIfInBounds_toArray, List.set_cons_zero, List.set_cons_succ]))
          (apply ord_loud rfl rfl rfl; intro K hK; go_simp)
          have hlen2 := mapT_len (L.take j)
          have hj2 : (L.take j).length ≤ j := List.length_take_le _ _
          refine (with_any (S := fun b => (S b ∧ b < w.heap.size) ∨ (w.heap.size + 1 < b ∧ b ≠ b9)) eo (mapT (L.take j)) key gq (lowT lw key (foldT lw kid)) _ ((hTo.out.ext hxc).ext (ext_drew (ext_refl _))) (hTq.ext (ext_drew (ext_refl _))) (by omega) (by omega) (by omega)).mono ?_
          rintro r w8 ⟨e2, rfl, hT2, hx2⟩
          have hx3 : Ext wc w8 := ext_trans (ext_drew (ext_refl _)) hx2
          refine hK _ _ (fun _ => ⟨Six.ext hx2 hS.1, Six.ext hx2 hS.2.1, Six.ext hx2 hS.2.2.1, hx2.cell hS.2.2.2⟩) ?_
          clear hK K hS
          simp only [El.val]
          (try simp only [Act.put, List.setIfInBounds_toArray, List.set_cons_zero, List.set_cons_succ])
          have hb93 := hb9c.ext hx3
          obtain ⟨z0, z1, z2, z3, z4, z5⟩ := hb93.six
          have f0 := hb93.free 0
          have f1 := hb93.free 1
          have f2 := hb93.free 2
          have f3 := hb93.free 3
          have f4 := hb93.free 4
          have f5 := hb93.free 5
          (apply ord_last rfl rfl rfl (by kernel_rfl); intro K hK; go_simp; refine hK _ _ ?_; clear hK K; (try simp only [Act.put, List.setIfInBounds_toArray, List.set_cons_zero, List.set_cons_succ]))
          refine ord_end ?_
          have hxx := hx.sz
          have hxcs := hxc.sz
          have hN : ¬ ((fun b => (S b ∧ b < w.heap.size) ∨ (w.heap.size + 1 < b ∧ b ≠ b9)) b9) := by simp; omega
          have hT3 := Lib.hid (TreeAt.keep (S' := fun b => (S b ∧ b < w.heap.size) ∨ (w.heap.size + 1 < b ∧ b ≠ b9)) (fun _ h _ => h) (keeps_sto w8 hN e2) _ (hT2.to (fun q h _ => by
            rcases h with h | h
            · exact h
            · exact .inr ⟨by simp at h; omega, by simp at h; omega⟩)))
          clear hT2
          go_wp2_with fail
          go_roundw
          case rel => exact ⟨ext_sto6 (ext_trans hx (ext_trans hxc hx3)) (by omega) _ _ _ _ _ _, (hb1c.ext hx3).sto6' (by omega) _ _ _ _ _ _, (hb2c.ext hx3).sto6' (by omega) _ _ _ _ _ _, j + 1, e2, by omega, by go_num, hb93.sto e2, by
            rw [show mapT (L.take (j + 1)) = withT (mapT (L.take j)) key (lowT lw key (foldT lw kid)) from foldl_snoc _ _ HP.out]
            exact hT3.out⟩
          case measure => simp [intOf]; omega
    · have hjn : j = en := by omega
      have hfin : mapT (L.take j) = mapT L := by rw [List.take_of_length_le (by have := HL.out; omega)]
      rw [hfin] at hTo
      have hxx := hx.sz
      have hN : ¬ ((fun b => (S b ∧ b < w.heap.size) ∨ (w.heap.size + 1 < b ∧ b ≠ b9)) (w.heap.size + 1)) := by simp
      have hfT := TreeAt.keep (S' := fun b => (S b ∧ b < w.heap.size) ∨ w.heap.size ≤ b) (fun q h _ => by
        rcases h with h | h
        · exact .inl h
        · exact .inr (by omega)) (keeps_sto wr hN eo) _ hTo.out
      obtain ⟨eok, eox, eod, eoy, eoka, eon, eokc, eoca, eom, eocc⟩ := eo
      obtain ⟨z0, z1, z2, z3, z4, z5⟩ := hb9.six
      obtain ⟨o0, o1, o2, o3, o4, o5⟩ := hb2.six
      have f0 := hb2.free 0
      have f1 := hb2.free 1
      have f2 := hb2.free 2
      have f3 := hb2.free 3
      have f4 := hb2.free 4
      have f5 := hb2.free 5
      go_wp2_with fail
      refine post_tree rfl rfl (hb2.sto ⟨eok, eox, eod, eoy, eoka, eon, eokc, eoca, eom, eocc⟩) rfl ⟨⟨eok, eox, eod, eoy, eoka, eon, eokc, eoca, eom, eocc⟩, rfl, hfT, ext_sto6 hx (by omega) _ _ _ _ _ _⟩

set_option maxHeartbeats 1000000 in
theorem folded_not {S : Nat → Prop} (t : T) (hk : t.kind ≠ 5) (e : El) (w : World) (h : TreeAt S w e t) :
    Calls Tryz.prog 49 #[e.val] w fun r w' => ∃ g : El, r = .returned g.val ∧ TreeAt S w' g t ∧ Ext w w' := by
  have hek : (e.k == 5) = false := by rw [h.parts.1]; simpa using hk
  have H := Lib.hid h
  clear h hk
  obtain ⟨k, x, d, y, ka, n, kc, ca, m, cc⟩ := e
  simp only at hek
  simp only [El.val]
  go_enter Tryz.func49, Tryz.ntmps49
  go_wp2_with fail
  refine post_tree rfl rfl (Box.at (by simp) _ _) rfl ⟨⟨k, x, d, y, ka, n, kc, ca, m, cc⟩, rfl, H.out.ext (by (repeat (first | exact ext_refl _ | assumption | refine ext_alloc ?_ _ | refine ext_drew ?_ | refine ext_set ?_ (by simp) _ | refine ext_trans ?_ (by assumption)))), by (repeat (first | exact ext_refl _ | assumption | refine ext_alloc ?_ _ | refine ext_drew ?_ | refine ext_set ?_ (by simp) _ | refine ext_trans ?_ (by assumption)))⟩

theorem folded_upto (lw : ByteArray → ByteArray) (N : Nat) : ∀ (S : Nat → Prop) (t : T) (e : El) (w : World), SizeOf.sizeOf t ≤ N → TreeAt S w e t → okF t → (∀ s ∈ opTexts t, LowerAt lw w s) →
    Calls Tryz.prog 49 #[e.val] w fun r w' => ∃ g : El, r = .returned g.val ∧ TreeAt (fun b => (S b ∧ b < w.heap.size) ∨ w.heap.size ≤ b) w' g (foldT lw t) ∧ Ext w w' := by
  induction N with
  | zero => intro S t e w h; cases t; simp at h
  | succ N ih =>
    intro S t e w h ht ho hl
    by_cases hk : t.kind = 5
    · obtain ⟨k, x, d, y, ks, xs⟩ := t
      simp only [T.kind] at hk
      subst hk
      have := folded_map (S := S) lw x d y ks xs e w ht ho (fun s hs => hl s (by simpa only [opTexts, if_pos] using hs)) fun x' hx S e w' h1 h2 h3 => ih S x' e w' (by
        have := List.sizeOf_lt_of_mem hx
        simp at h
        omega) h1 h2 h3
      simpa only [foldT, if_pos] using this
    · rw [foldT_id lw hk]
      exact folded_not t hk e w (ht.to (S' := fun b => (S b ∧ b < w.heap.size) ∨ w.heap.size ≤ b) fun b h1 h2 => .inl ⟨h1, h2⟩)
theorem folded_any {S : Nat → Prop} (lw : ByteArray → ByteArray) (t : T) (e : El) (w : World) (h : TreeAt S w e t) (ho : okF t) (hl : ∀ s ∈ opTexts t, LowerAt lw w s) :
    Calls Tryz.prog 49 #[e.val] w fun r w' => ∃ g : El, r = .returned g.val ∧ TreeAt (fun b => (S b ∧ b < w.heap.size) ∨ w.heap.size ≤ b) w' g (foldT lw t) ∧ Ext w w' :=
  folded_upto lw (SizeOf.sizeOf t) S t e w (Nat.le_refl _) h ho hl
end Go.Proofs.YtocfoheckgdonaaGreatDoor

namespace Go.Proofs.YtocfoheckgdonaaGreatDoor
open Go.RowKit

set_option maxHeartbeats 1000000 in
theorem infield_any {S : Nat → Prop} (kind field : ByteArray) (a : Option Addr) (n c : Nat) (ps : List (ByteArray × T)) (w : World) (h : PairsAt S w a n c ps) (hb : (n + 3) * 88 ≤ 140737488355328) :
    Calls Tryz.prog 64 #[.string kind, .string field, .slice a n c] w fun r w' => ∃ g : El, r = .returned g.val ∧ TreeAt (fun b => (S b ∧ b < w.heap.size) ∨ w.heap.size ≤ b) w' g (mapT [(kind, mapT [(field, mapT ps)])]) ∧ Ext w w' := by
  have HP := Lib.hid (h.keep (S' := fun b => S b ∧ b < w.heap.size) (fun b h1 h2 => ⟨h1, h2⟩) (fun _ _ _ => rfl))
  clear h
  go_enter Tryz.func64, Tryz.ntmps64
  go_upto_region 1 with fail
  have hx0 : Ext w (w.alloc (.cells (El.arr El0) 26)) := ext_alloc (ext_refl _) _
  have hb0 : Box (w.alloc (.cells (El.arr El0) 26)) w.heap.size (El.arr El0) 26 := Box.at rfl _ _
  have hM1 := Lib.hid (map_any (S := fun b => S b ∧ b < w.heap.size) a n c ps _ (HP.out.ext hx0) hb)
  have hM2 := Lib.hid (fun (w2 : World) (v : Nat) (g : El) (t : T) (hb : Box w2 v #[.string field, .int .i64 g.k, .string g.x, .float .f64 g.d, .bool g.y, .slice g.ka g.n g.kc, .slice g.ca g.m g.cc] 68) (hv : w.heap.size + 1 ≤ v) (ht : TreeAt (fun b => (S b ∧ b < w.heap.size) ∨ w.heap.size + 1 ≤ b) w2 g t) =>
    beside_any (S := fun b => (S b ∧ b < w.heap.size) ∨ w.heap.size + 1 ≤ b) kind (some ⟨v, 0, none⟩) 1 1 [(field, t)] w2 (pairs_one hb (.inr hv) ht) (by decide))
  go_wp2_with (first
    | (go_at_call 46; refine hM1.out.mono ?_; rintro r w2 ⟨g1, rfl, hT1, hx1⟩; simp only [El.val]; clear hM1
       have hT1' : TreeAt (fun b => (S b ∧ b < w.heap.size) ∨ w.heap.size + 1 ≤ b) w2 g1 (mapT ps) := hT1.to fun b h1 _ => by
         rcases h1 with h1 | h1
         · exact .inl h1.1
         · simp at h1
           exact .inr h1
       have hM3 := hM2.out (w2.alloc (.cells #[.string field, .int .i64 g1.k, .string g1.x, .float .f64 g1.d, .bool g1.y, .slice g1.ka g1.n g1.kc, .slice g1.ca g1.m g1.cc] 68)) w2.heap.size g1 (mapT ps) (Box.at rfl _ _) (by have := hx1.sz; simp at this; omega) (hT1'.ext (ext_alloc (ext_refl _) _)))
    | (go_at_call 50; refine hM3.mono ?_; rintro r w3 ⟨g2, rfl, hT2, hx2⟩; simp only [El.val]
       have hb3 := (hb0.ext hx1).ext (ext_trans (ext_alloc (ext_refl _) _) hx2); obtain ⟨o0, o1, o2, o3, o4, o5⟩ := hb3.six; have f0 := hb3.free 0; have f1 := hb3.free 1; have f2 := hb3.free 2; have f3 := hb3.free 3; have f4 := hb3.free 4; have f5 := hb3.free 5))
  have hx3 : Ext w w3 := ext_trans (ext_trans hx0 (ext_trans hx1 (ext_alloc (ext_refl _) _))) hx2
  refine post_tree rfl rfl (hb3.sto g2) rfl ⟨g2, rfl, ?_, ext_sto6 hx3 (Nat.le_refl _) _ _ _ _ _ _⟩
  have hs1 := hx1.sz
  refine TreeAt.keep (S := fun b => (S b ∧ b < w.heap.size) ∨ w.heap.size + 1 ≤ b) (fun b hb _ => ?_) (keeps_sto w3 (by omega) g2) _ (hT2.to fun b h1 _ => ?_)
  · rcases hb with h | h
    · exact .inl h
    · exact .inr (by omega)
  · rcases h1 with h | h
    · exact h.1
    · simp at h hs1
      exact .inr (by omega)

set_option maxRecDepth 20000 in
set_option maxHeartbeats 4000000 in
theorem valued_any {S : Nat → Prop} (kind bd tb field main : ByteArray) (v : El) (t : T) (a : Option Addr) (n c : Nat) (sets : List (ByteArray × T)) (w : World) (hT : ∀ w, Calls Tryz.prog 128 #[.string bd] w fun r w' => r = .returned (.string tb) ∧ w' = w) (fu : Nat) (hok : okL fu tb.data.toList = true) (hsz : tb.size < 65536)
    (rs : List (ByteArray × ByteArray)) (hrs : ((rowsL fu tb.data.toList).map fun r => (mkB r.1, mkB r.2)) = rs) (hrl : rs.length ≤ 65536) (h : PairsAt S w a n c sets) (hv : TreeAt S w v t) :
    Calls Tryz.prog 21 #[.string kind, .string bd, .string field, .string main, v.val, .slice a n c] w fun r w' => ∃ g : El, r = .returned g.val ∧ TreeAt (fun b => (S b ∧ b < w.heap.size) ∨ w.heap.size ≤ b) w' g (mapT [(kind, mapT [(field, mapT (paramsL rs sets ++ [(main, t)]))])]) ∧ Ext w w' := by
  obtain ⟨vk, vx, vd, vy, vka, vn, vkc, vca, vm, vcc⟩ := v
  have hx0 : Ext w ((w.alloc (.cells (⟨vk, vx, vd, vy, vka, vn, vkc, vca, vm, vcc⟩ : El).arr 26)).alloc (.cells (El.arr El0) 26)) := ext_alloc (ext_alloc (ext_refl _) _) _
  have hbt : Box ((w.alloc (.cells (⟨vk, vx, vd, vy, vka, vn, vkc, vca, vm, vcc⟩ : El).arr 26)).alloc (.cells (El.arr El0) 26)) w.heap.size (⟨vk, vx, vd, vy, vka, vn, vkc, vca, vm, vcc⟩ : El).arr 26 := (Box.at rfl _ _).alloc _
  have hb0 : Box ((w.alloc (.cells (⟨vk, vx, vd, vy, vka, vn, vkc, vca, vm, vcc⟩ : El).arr 26)).alloc (.cells (El.arr El0) 26)) (w.heap.size + 1) (El.arr El0) 26 := Box.at (by simp) _ _
  have hPa := Lib.hid fun w' (x : Ext w w') => params_any (S := fun b => S b ∧ b < w.heap.size) bd tb a n c sets w' hT fu hok hsz rs hrs hrl ((h.keep (S' := fun b => S b ∧ b < w.heap.size) (fun b h1 h2 => ⟨h1, h2⟩) (fun _ _ _ => rfl)).ext x)
  have hV := Lib.hid (hv.to (S' := fun b => S b ∧ b < w.heap.size) (fun b h1 h2 => ⟨h1, h2⟩))
  have HRL := Lib.hid hrl
  clear hv h hT hok hsz hrs hrl
  simp only [El.val]
  go_enter Tryz.func21, Tryz.ntmps21
  go_upto_region 1 with fail
  refine wp_region_tree (fun w' => Six w' w.heap.size (⟨vk, vx, vd, vy, vka, vn, vkc, vca, vm, vcc⟩ : El)) [0, 1, 2, 3, 5, 6, 7] (.held 0 (.held 1 (.held 2 (.held 3 (.held 5 (.held 6 (.held 7 (.two 4 (.one 8 (.one 9 (.one 10 (.one 11 .done)))) 8 (.one 4 (.one 9 (.one 10 (.one 11 .done)))))))))))) (by kernel_rfl) (by kernel_rfl) (fun d _ _ _ _ h => by cases d <;> exact h) (by kernel_rfl) ?_
  have hS : (fun w' => Six w' w.heap.size (⟨vk, vx, vd, vy, vka, vn, vkc, vca, vm, vcc⟩ : El)) _ := hbt.Six
  iterate 7 (apply tr_held rfl (by assumption) rfl; (focus ((intro w' hS'); go_simp; (try with_reducible rfl))); (try simp only [Act.put, List.setIfInBounds_toArray, List.set_cons_zero, List.set_cons_succ]))
  refine tr_two ?_ ?_
  · skip
    (apply tr_loud rfl rfl; intro K hK; go_simp)
    refine (hPa.out _ (ext_drew hx0)).mono ?_
    rintro r w2 ⟨pv, es, rfl, hO, hPk, hx1⟩
    have hel : es.length ≤ 65536 := by rw [← hPk.1]; exact Nat.le_trans (params_len _ _) HRL.out
    have hS1 : (fun w' => Six w' w.heap.size (⟨vk, vx, vd, vy, vka, vn, vkc, vca, vm, vcc⟩ : El)) w2 := Six.ext hx1 hS
    refine hK _ _ (fun _ => hS1) ?_
    clear hK K
    (try simp only [Act.put, List.setIfInBounds_toArray, List.set_cons_zero, List.set_cons_succ])
    (apply tr_loud rfl rfl; intro K hK; go_simp)
    have hxn : Ext w2 (w2.alloc (.cells #[.string main, .int .i64 vk, .string vx, .float .f64 vd, .bool vy, .slice vka vn vkc, .slice vca vm vcc] 68)) := ext_alloc (ext_refl _) _
    have hbn : Box (w2.alloc (.cells #[.string main, .int .i64 vk, .string vx, .float .f64 vd, .bool vy, .slice vka vn vkc, .slice vca vm vcc] 68)) w2.heap.size #[.string main, .int .i64 vk, .string vx, .float .f64 vd, .bool vy, .slice vka vn vkc, .slice vca vm vcc] 68 := Box.at (by first | rfl | simp) _ _
    have hS2 : (fun w' => Six w' w.heap.size (⟨vk, vx, vd, vy, vka, vn, vkc, vca, vm, vcc⟩ : El)) (w2.alloc (.cells #[.string main, .int .i64 vk, .string vx, .float .f64 vd, .bool vy, .slice vka vn vkc, .slice vca vm vcc] 68)) := Six.ext hxn hS1
    refine hK _ _ (fun _ => hS2) ?_
    clear hK K
    (try simp only [Act.put, List.setIfInBounds_toArray, List.set_cons_zero, List.set_cons_succ])
    have hxw : Ext w (w2.alloc (.cells #[.string main, .int .i64 vk, .string vx, .float .f64 vd, .bool vy, .slice vka vn vkc, .slice vca vm vcc] 68)) := ext_trans (ext_trans (ext_drew hx0) hx1) hxn
    have hO2 : OwnPairs (w2.alloc (.cells #[.string main, .int .i64 vk, .string vx, .float .f64 vd, .bool vy, .slice vka vn vkc, .slice vca vm vcc] 68)) ((w.alloc (.cells (⟨vk, vx, vd, vy, vka, vn, vkc, vca, vm, vcc⟩ : El).arr 26)).alloc (.cells (El.arr El0) 26)).drew.heap.size pv es := hO.ext hxn
    have hPk2 : Pk (fun b => S b ∧ b < w.heap.size) (w2.alloc (.cells #[.string main, .int .i64 vk, .string vx, .float .f64 vd, .bool vy, .slice vka vn vkc, .slice vca vm vcc] 68)) es (paramsL rs sets) := (hPk.ext hxn).keep (fun q hq _ => hq.1) (fun _ _ _ => rfl)
    have hbn2 : Box (w2.alloc (.cells #[.string main, .int .i64 vk, .string vx, .float .f64 vd, .bool vy, .slice vka vn vkc, .slice vca vm vcc] 68)) w2.heap.size #[.string main, .int .i64 vk, .string vx, .float .f64 vd, .bool vy, .slice vka vn vkc, .slice vca vm vcc] 68 := hbn
    have hbk : ∀ q, pv.ownBlock = some q → w.heap.size + 2 ≤ q := fun q hq => by
      have h1 := (hO2.block hq).1
      have h2 := hx0.sz
      simp at h1 h2
      omega
    have hbase : ((w.alloc (.cells (⟨vk, vx, vd, vy, vka, vn, vkc, vca, vm, vcc⟩ : El).arr 26)).alloc (.cells (El.arr El0) 26)).drew.heap.size ≤ (w2.alloc (.cells #[.string main, .int .i64 vk, .string vx, .float .f64 vd, .bool vy, .slice vka vn vkc, .slice vca vm vcc] 68)).heap.size := (ext_trans hx1 hxn).sz
    have hbt2 : Box (w2.alloc (.cells #[.string main, .int .i64 vk, .string vx, .float .f64 vd, .bool vy, .slice vka vn vkc, .slice vca vm vcc] 68)) w.heap.size (⟨vk, vx, vd, vy, vka, vn, vkc, vca, vm, vcc⟩ : El).arr 26 := ((hbt.drew).ext hx1).ext hxn
    have hb02 : Box (w2.alloc (.cells #[.string main, .int .i64 vk, .string vx, .float .f64 vd, .bool vy, .slice vka vn vkc, .slice vca vm vcc] 68)) (w.heap.size + 1) (El.arr El0) 26 := ((hb0.drew).ext hx1).ext hxn
    apply tr_loud rfl rfl
    intro K hK
    refine wp_append_pairs _ _ _ rfl ((w.alloc (.cells (⟨vk, vx, vd, vy, vka, vn, vkc, vca, vm, vcc⟩ : El).arr 26)).alloc (.cells (El.arr El0) 26)).drew.heap.size _ es rfl hO2 w2.heap.size 0 1 [(main, (⟨vk, vx, vd, vy, vka, vn, vkc, vca, vm, vcc⟩ : El))] (by simp) rfl (fun i p hp => by
      cases i with
      | zero => simp at hp; subst hp; exact ⟨hbn2.cell 0 _ rfl, hbn2.cell 1 _ rfl, hbn2.cell 2 _ rfl, hbn2.cell 3 _ rfl, hbn2.cell 4 _ rfl, hbn2.cell 5 _ rfl, hbn2.cell 6 _ rfl⟩
      | succ i => simp at hp) (by simp; omega) hbase ?_
    intro g1 cap1 w4 hown hgrow hlies hglt
    have hbt4 := hbt2.grown hgrow (fun e => by have := hbk _ e.symm; omega)
    have hS4 : (fun w' => Six w' w.heap.size (⟨vk, vx, vd, vy, vka, vn, vkc, vca, vm, vcc⟩ : El)) w4 := hbt4.Six
    refine hK _ _ (fun _ => hS4) ?_
    clear hK K
    (try simp only [Act.put, List.setIfInBounds_toArray, List.set_cons_zero, List.set_cons_succ])
    have hk : Keeps (fun q => S q ∧ q < w.heap.size) (w2.alloc (.cells #[.string main, .int .i64 vk, .string vx, .float .f64 vd, .bool vy, .slice vka vn vkc, .slice vca vm vcc] 68)) w4 := keeps_grown hgrow (fun q hq e => by have := hbk q e.symm; have := hq.2; omega)
    have hPk3 : Pk (fun q => (S q ∧ q < w.heap.size) ∨ w.heap.size + 2 ≤ q) w4 (es ++ [(main, (⟨vk, vx, vd, vy, vka, vn, vkc, vca, vm, vcc⟩ : El))]) (paramsL rs sets ++ [(main, t)]) :=
      Pk.append (hPk2.keep (fun q hq _ => .inl hq) (fun q hq hlt => hk q hq hlt)) ((Pk.one (hV.out.ext hxw)).keep (fun q hq _ => .inl hq) (fun q hq hlt => hk q hq hlt))
    obtain ⟨pa, pc, hpe, hPA⟩ := hown.pairs (S := fun q => (S q ∧ q < w.heap.size) ∨ w.heap.size + 2 ≤ q) hPk3.1 (fun q hq => .inr (by have h1 := (World.ownsRow.lt hown q hq).1; have h2 := hx0.sz; simp at h1 h2; omega)) hPk3.2
    have hx5 : Ext w w4 := ext_grown hxw hgrow (fun k hk => by have := hbk k hk; omega)
    have hb4 : Box w4 (w.heap.size + 1) (El.arr El0) 26 := hb02.grown hgrow (fun e => by have := hbk _ e.symm; omega)
    have hpl : (paramsL rs sets ++ [(main, t)]).length = es.length + 1 := by rw [hPk3.1]; simp
    rw [hpl] at hpe hPA
    simp only [List.length_cons, List.length_nil, Nat.zero_add, Value.slice.injEq] at hpe
    obtain ⟨rfl, -, rfl⟩ := hpe
    have hB := infield_any kind field _ _ _ _ w4 hPA (by omega)
    have hs4 := hb4.lt
    clear hown hgrow hlies hglt hbk hk hPk3 hPA hO hPk hpl hO2 hPk2
    (apply tr_loud rfl rfl; intro K hK; go_simp)
    refine hB.mono ?_
    rintro r w5 ⟨g2, rfl, hT2, hx6⟩
    have hS5 : (fun w' => Six w' w.heap.size (⟨vk, vx, vd, vy, vka, vn, vkc, vca, vm, vcc⟩ : El)) w5 := Six.ext hx6 hS4
    refine hK _ _ (fun _ => hS5) ?_
    clear hK K
    try simp only [El.val]
    (try simp only [Act.put, List.setIfInBounds_toArray, List.set_cons_zero, List.set_cons_succ])
    have hb5 := hb4.ext hx6
    obtain ⟨o0, o1, o2, o3, o4, o5⟩ := hb5.six
    have f0 := hb5.free 0
    have f1 := hb5.free 1
    have f2 := hb5.free 2
    have f3 := hb5.free 3
    have f4 := hb5.free 4
    have f5 := hb5.free 5
    have hS6 : (fun w' => Six w' w.heap.size (⟨vk, vx, vd, vy, vka, vn, vkc, vca, vm, vcc⟩ : El)) (sto w5 (w.heap.size + 1) g2) := ((hbt4.ext hx6).sto6' (by omega) _ _ _ _ _ _).Six
    (apply tr_loud rfl rfl; intro K hK; go_simp)
    refine hK _ _ (fun _ => hS6) ?_
    clear hK K
    (try simp only [Act.put, List.setIfInBounds_toArray, List.set_cons_zero, List.set_cons_succ])
    refine tr_end ?_
    go_wp2_with fail
    refine post_tree rfl rfl (hb5.sto g2) rfl ⟨g2, rfl, ?_, ext_sto6 (ext_trans hx5 hx6) (by omega) _ _ _ _ _ _⟩
    refine TreeAt.keep (S := fun q => (S q ∧ q < w.heap.size) ∨ w.heap.size + 2 ≤ q) (fun q h _ => by
      rcases h with h | h
      · exact .inl h
      · exact .inr (by omega)) (keeps_sto w5 (by omega) g2) _ (hT2.to fun q h1 _ => ?_)
    rcases h1 with h | h
    · exact h.1
    · exact .inr (by omega)
  · skip
    (apply tr_loud rfl rfl; intro K hK; go_simp)
    have hxn : Ext ((w.alloc (.cells (⟨vk, vx, vd, vy, vka, vn, vkc, vca, vm, vcc⟩ : El).arr 26)).alloc (.cells (El.arr El0) 26)).drew (((w.alloc (.cells (⟨vk, vx, vd, vy, vka, vn, vkc, vca, vm, vcc⟩ : El).arr 26)).alloc (.cells (El.arr El0) 26)).drew.alloc (.cells #[.string main, .int .i64 vk, .string vx, .float .f64 vd, .bool vy, .slice vka vn vkc, .slice vca vm vcc] 68)) := ext_alloc (ext_refl _) _
    have hbn : Box (((w.alloc (.cells (⟨vk, vx, vd, vy, vka, vn, vkc, vca, vm, vcc⟩ : El).arr 26)).alloc (.cells (El.arr El0) 26)).drew.alloc (.cells #[.string main, .int .i64 vk, .string vx, .float .f64 vd, .bool vy, .slice vka vn vkc, .slice vca vm vcc] 68)) (w.heap.size + 1 + 1) #[.string main, .int .i64 vk, .string vx, .float .f64 vd, .bool vy, .slice vka vn vkc, .slice vca vm vcc] 68 := Box.at (by first | rfl | simp) _ _
    have hS2 : (fun w' => Six w' w.heap.size (⟨vk, vx, vd, vy, vka, vn, vkc, vca, vm, vcc⟩ : El)) (((w.alloc (.cells (⟨vk, vx, vd, vy, vka, vn, vkc, vca, vm, vcc⟩ : El).arr 26)).alloc (.cells (El.arr El0) 26)).drew.alloc (.cells #[.string main, .int .i64 vk, .string vx, .float .f64 vd, .bool vy, .slice vka vn vkc, .slice vca vm vcc] 68)) := Six.ext hxn hS
    refine hK _ _ (fun _ => hS2) ?_
    clear hK K
    (try simp only [Act.put, List.setIfInBounds_toArray, List.set_cons_zero, List.set_cons_succ])
    (apply tr_loud rfl rfl; intro K hK; go_simp)
    refine (hPa.out _ (ext_trans (ext_drew hx0) hxn)).mono ?_
    rintro r w2 ⟨pv, es, rfl, hO, hPk, hx1⟩
    have hel : es.length ≤ 65536 := by rw [← hPk.1]; exact Nat.le_trans (params_len _ _) HRL.out
    have hS1 : (fun w' => Six w' w.heap.size (⟨vk, vx, vd, vy, vka, vn, vkc, vca, vm, vcc⟩ : El)) w2 := Six.ext hx1 hS2
    refine hK _ _ (fun _ => hS1) ?_
    clear hK K
    (try simp only [Act.put, List.setIfInBounds_toArray, List.set_cons_zero, List.set_cons_succ])
    have hxw : Ext w w2 := ext_trans (ext_trans (ext_drew hx0) hxn) hx1
    have hO2 : OwnPairs w2 (((w.alloc (.cells (⟨vk, vx, vd, vy, vka, vn, vkc, vca, vm, vcc⟩ : El).arr 26)).alloc (.cells (El.arr El0) 26)).drew.alloc (.cells #[.string main, .int .i64 vk, .string vx, .float .f64 vd, .bool vy, .slice vka vn vkc, .slice vca vm vcc] 68)).heap.size pv es := hO
    have hPk2 : Pk (fun b => S b ∧ b < w.heap.size) w2 es (paramsL rs sets) := hPk.keep (fun q hq _ => hq.1) (fun _ _ _ => rfl)
    have hbn2 : Box w2 (w.heap.size + 1 + 1) #[.string main, .int .i64 vk, .string vx, .float .f64 vd, .bool vy, .slice vka vn vkc, .slice vca vm vcc] 68 := hbn.ext hx1
    have hbk : ∀ q, pv.ownBlock = some q → w.heap.size + 2 ≤ q := fun q hq => by
      have h1 := (hO2.block hq).1
      have h2 := hx0.sz
      simp at h1 h2
      omega
    have hbase : (((w.alloc (.cells (⟨vk, vx, vd, vy, vka, vn, vkc, vca, vm, vcc⟩ : El).arr 26)).alloc (.cells (El.arr El0) 26)).drew.alloc (.cells #[.string main, .int .i64 vk, .string vx, .float .f64 vd, .bool vy, .slice vka vn vkc, .slice vca vm vcc] 68)).heap.size ≤ w2.heap.size := hx1.sz
    have hbt2 : Box w2 w.heap.size (⟨vk, vx, vd, vy, vka, vn, vkc, vca, vm, vcc⟩ : El).arr 26 := (hbt.drew.ext hxn).ext hx1
    have hb02 : Box w2 (w.heap.size + 1) (El.arr El0) 26 := (hb0.drew.ext hxn).ext hx1
    apply tr_loud rfl rfl
    intro K hK
    refine wp_append_pairs _ _ _ rfl (((w.alloc (.cells (⟨vk, vx, vd, vy, vka, vn, vkc, vca, vm, vcc⟩ : El).arr 26)).alloc (.cells (El.arr El0) 26)).drew.alloc (.cells #[.string main, .int .i64 vk, .string vx, .float .f64 vd, .bool vy, .slice vka vn vkc, .slice vca vm vcc] 68)).heap.size _ es rfl hO2 (w.heap.size + 1 + 1) 0 1 [(main, (⟨vk, vx, vd, vy, vka, vn, vkc, vca, vm, vcc⟩ : El))] (by simp) rfl (fun i p hp => by
      cases i with
      | zero => simp at hp; subst hp; exact ⟨hbn2.cell 0 _ rfl, hbn2.cell 1 _ rfl, hbn2.cell 2 _ rfl, hbn2.cell 3 _ rfl, hbn2.cell 4 _ rfl, hbn2.cell 5 _ rfl, hbn2.cell 6 _ rfl⟩
      | succ i => simp at hp) (by simp; omega) hbase ?_
    intro g1 cap1 w4 hown hgrow hlies hglt
    have hbt4 := hbt2.grown hgrow (fun e => by have := hbk _ e.symm; omega)
    have hS4 : (fun w' => Six w' w.heap.size (⟨vk, vx, vd, vy, vka, vn, vkc, vca, vm, vcc⟩ : El)) w4 := hbt4.Six
    refine hK _ _ (fun _ => hS4) ?_
    clear hK K
    (try simp only [Act.put, List.setIfInBounds_toArray, List.set_cons_zero, List.set_cons_succ])
    have hk : Keeps (fun q => S q ∧ q < w.heap.size) w2 w4 := keeps_grown hgrow (fun q hq e => by have := hbk q e.symm; have := hq.2; omega)
    have hPk3 : Pk (fun q => (S q ∧ q < w.heap.size) ∨ w.heap.size + 2 ≤ q) w4 (es ++ [(main, (⟨vk, vx, vd, vy, vka, vn, vkc, vca, vm, vcc⟩ : El))]) (paramsL rs sets ++ [(main, t)]) :=
      Pk.append (hPk2.keep (fun q hq _ => .inl hq) (fun q hq hlt => hk q hq hlt)) ((Pk.one (hV.out.ext hxw)).keep (fun q hq _ => .inl hq) (fun q hq hlt => hk q hq hlt))
    obtain ⟨pa, pc, hpe, hPA⟩ := hown.pairs (S := fun q => (S q ∧ q < w.heap.size) ∨ w.heap.size + 2 ≤ q) hPk3.1 (fun q hq => .inr (by have h1 := (World.ownsRow.lt hown q hq).1; have h2 := hx0.sz; simp at h1 h2; omega)) hPk3.2
    have hx5 : Ext w w4 := ext_grown hxw hgrow (fun k hk => by have := hbk k hk; omega)
    have hb4 : Box w4 (w.heap.size + 1) (El.arr El0) 26 := hb02.grown hgrow (fun e => by have := hbk _ e.symm; omega)
    have hpl : (paramsL rs sets ++ [(main, t)]).length = es.length + 1 := by rw [hPk3.1]; simp
    rw [hpl] at hpe hPA
    simp only [List.length_cons, List.length_nil, Nat.zero_add, Value.slice.injEq] at hpe
    obtain ⟨rfl, -, rfl⟩ := hpe
    have hB := infield_any kind field _ _ _ _ w4 hPA (by omega)
    have hs4 := hb4.lt
    clear hown hgrow hlies hglt hbk hk hPk3 hPA hO hPk hpl hO2 hPk2
    (apply tr_loud rfl rfl; intro K hK; go_simp)
    refine hB.mono ?_
    rintro r w5 ⟨g2, rfl, hT2, hx6⟩
    have hS5 : (fun w' => Six w' w.heap.size (⟨vk, vx, vd, vy, vka, vn, vkc, vca, vm, vcc⟩ : El)) w5 := Six.ext hx6 hS4
    refine hK _ _ (fun _ => hS5) ?_
    clear hK K
    try simp only [El.val]
    (try simp only [Act.put, List.setIfInBounds_toArray, List.set_cons_zero, List.set_cons_succ])
    have hb5 := hb4.ext hx6
    obtain ⟨o0, o1, o2, o3, o4, o5⟩ := hb5.six
    have f0 := hb5.free 0
    have f1 := hb5.free 1
    have f2 := hb5.free 2
    have f3 := hb5.free 3
    have f4 := hb5.free 4
    have f5 := hb5.free 5
    have hS6 : (fun w' => Six w' w.heap.size (⟨vk, vx, vd, vy, vka, vn, vkc, vca, vm, vcc⟩ : El)) (sto w5 (w.heap.size + 1) g2) := ((hbt4.ext hx6).sto6' (by omega) _ _ _ _ _ _).Six
    (apply tr_loud rfl rfl; intro K hK; go_simp)
    refine hK _ _ (fun _ => hS6) ?_
    clear hK K
    (try simp only [Act.put, List.setIfInBounds_toArray, List.set_cons_zero, List.set_cons_succ])
    refine tr_end ?_
    go_wp2_with fail
    refine post_tree rfl rfl (hb5.sto g2) rfl ⟨g2, rfl, ?_, ext_sto6 (ext_trans hx5 hx6) (by omega) _ _ _ _ _ _⟩
    refine TreeAt.keep (S := fun q => (S q ∧ q < w.heap.size) ∨ w.heap.size + 2 ≤ q) (fun q h _ => by
      rcases h with h | h
      · exact .inl h
      · exact .inr (by omega)) (keeps_sto w5 (by omega) g2) _ (hT2.to fun q h1 _ => ?_)
    rcases h1 with h | h
    · exact h.1
    · exact .inr (by omega)

theorem last_filter {f : ByteArray} (l : List (ByteArray × T)) (k : ByteArray) : lastOf (l.filter fun p => !seq p.1 f) k = if k = f then none else lastOf l k := by
  induction l with
  | nil => simp [lastOf]
  | cons p r ih =>
    by_cases hp : p.1 = f
    · rw [List.filter_cons_of_neg (by simp [seq_iff.2 hp]), ih, lastOf_cons]
      by_cases hk : k = f
      · rw [if_pos hk, if_pos hk]
      · rw [if_neg hk, if_neg hk, seq_false.2 (fun e => hk (e.symm.trans hp))]
        simp
    · rw [List.filter_cons_of_pos (by simp [seq_false.2 hp]), lastOf_cons, lastOf_cons, ih]
      by_cases hk : k = f
      · rw [if_pos hk, if_pos hk, seq_false.2 (fun e => hp (e.trans hk))]
        simp
      · rw [if_neg hk, if_neg hk]
theorem mapT_snoc (l : List (ByteArray × T)) (p : ByteArray × T) : mapT (l ++ [p]) = withT (mapT l) p.1 p.2 := by
  unfold mapT
  rw [List.foldl_append]
  rfl
theorem TreeAt.move {S : Nat → Prop} {w a b : World} (x : Ext w a) (y : Ext w b) {e : El} {t : T} (h : TreeAt (fun q => S q ∧ q < w.heap.size) a e t) : TreeAt (fun q => S q ∧ q < w.heap.size) b e t :=
  TreeAt.keep (fun _ h _ => h) (fun q hq _ => (y.block q hq.2).trans (x.block q hq.2).symm) t h
theorem StrsAt.move {S : Nat → Prop} {w a b : World} (x : Ext w a) (y : Ext w b) {p : Option Addr} {n c : Nat} {t : List ByteArray} (h : StrsAt (fun q => S q ∧ q < w.heap.size) a p n c t) : StrsAt (fun q => S q ∧ q < w.heap.size) b p n c t :=
  h.keep (fun _ h _ => h) (fun q hq _ => (y.block q hq.2).trans (x.block q hq.2).symm)
theorem KidsAt.move {S : Nat → Prop} {w a b : World} (x : Ext w a) (y : Ext w b) {p : Option Addr} {n c : Nat} {t : List T} (h : KidsAt (fun q => S q ∧ q < w.heap.size) a p n c t) : KidsAt (fun q => S q ∧ q < w.heap.size) b p n c t :=
  h.keep (fun _ h _ => h) (fun q hq _ => (y.block q hq.2).trans (x.block q hq.2).symm)

set_option maxRecDepth 20000 in
set_option maxHeartbeats 8000000 in
theorem readValued_more {S : Nat → Prop} (lw : ByteArray → ByteArray) (kind field main other : ByteArray) (o : T) (A R : List (ByteArray × T)) (e : El) (w : World) (h : TreeAt S w e (mapT [(kind, mapT ((field, o) :: R))])) (hown : FieldOwn main o A) (hoth : lastOf A other = none)
    (hf1 : field ≠ s_name) (hf2 : field ≠ s_boost) (hR : ∀ p ∈ R, p.1 = s_name ∨ p.1 = s_boost) (hks : kind.size ≤ 2147483647) (hfs : field.size ≤ 2147483647) (hA : ∀ p ∈ A ++ R, p.1.size ≤ 2147483647 ∧ p.2.kind ≠ 5) (hlen : A.length + R.length ≤ 30000)
    (hlow : ∀ s ∈ opTexts (mapT [(kind, mapT [(field, mapT (A ++ R))])]), LowerAt lw w s) :
    Calls Tryz.prog 16 #[.string kind, .string field, .string main, .string other, e.val] w fun r w' => ∃ g : El, r = .returned g.val ∧ TreeAt (fun b => (S b ∧ b < w.heap.size) ∨ w.heap.size ≤ b) w' g (readV lw kind field (A ++ R)) ∧ Ext w w' := by
  have h := h.to (S' := fun b => S b ∧ b < w.heap.size) (fun b h1 h2 => ⟨h1, h2⟩)
  have hRf : lastOf R field = none := lastOf_none fun i p hp e => by
    rcases hR p (List.mem_of_getElem? hp) with h | h
    · exact hf1 (e.symm.trans h)
    · exact hf2 (e.symm.trans h)
  have hlo : lastOf ((field, o) :: R) field = some o := by rw [lastOf_cons, hRf, seq_self]; rfl
  obtain ⟨l, hm, hRi, hl⟩ := mapT_told ((field, o) :: R)
  have hll : l.length ≤ 30001 := by have := (mapT_len ((field, o) :: R)).1; rw [hm] at this; unfold mapOf at this; simp [T.keys] at this; omega
  have hkl : ∀ p ∈ l, p.1 = field ∨ p.1 = s_name ∨ p.1 = s_boost := fun p hp => by
    rcases List.mem_cons.1 (mem_told hRi hl hp) with h | h
    · exact .inl (by rw [h])
    · exact .inr (hR p h)
  have hfin : mapT (A ++ l.filter fun p => !seq p.1 field) = mapT (A ++ R) := mapT_congr fun k => by
    rw [lastOf_append, lastOf_append, last_filter, hl]
    by_cases hk : k = field
    · rw [if_pos hk, hk, hRf]
    · rw [if_neg hk, lastOf_cons, seq_false.2 (fun e => hk e.symm)]
      simp
  have hokT := readV_ok kind field hks hfs hA (by rw [List.length_append]; omega)
  have hW := fun w' (x : Ext w w') => within_one kind ((field, o) :: R) e w' (h.ext x)
  have HW := Lib.hid hW
  have HM := Lib.hid hm
  have HLL := Lib.hid hll
  have HKL := Lib.hid hkl
  have HFIN := Lib.hid hfin
  have HOKT := Lib.hid hokT
  have HLOW := Lib.hid hlow
  have HLEN := Lib.hid hlen
  have HLO := Lib.hid hlo
  have HOTH := Lib.hid hoth
  have HF1 := Lib.hid hf1
  have HF2 := Lib.hid hf2
  clear h hRf hlo hm hRi hl hll hkl hfin hokT hW hlow hlen hA hR hks hfs hoth hf1 hf2
  obtain ⟨ek, ex, ed, ey, eka, en, ekc, eca, em, ecc⟩ := e
  simp only [El.val] at HW ⊢
  have hx0 : Ext w ((w.alloc (.cells (El.arr ⟨ek, ex, ed, ey, eka, en, ekc, eca, em, ecc⟩) 26)).alloc (.cells (El.arr El0) 26)) := ext_alloc (ext_alloc (ext_refl _) _) _
  have hb2 : Box ((w.alloc (.cells (El.arr ⟨ek, ex, ed, ey, eka, en, ekc, eca, em, ecc⟩) 26)).alloc (.cells (El.arr El0) 26)) (w.heap.size + 1) (El.arr El0) 26 := Box.at (by simp) _ _
  go_enter Tryz.func16, Tryz.ntmps16
  go_upto_region 2 with (go_at_call 44; refine (HW.out _ hx0).mono ?_; rintro r w2 ⟨⟨gk, gx, gd, gy, gka, gn, gkc, gca, gm, gcc⟩, rfl, hT, hx⟩; simp only)
  have hx2 : Ext w2 (w2.alloc (.cells (El.arr ⟨gk, gx, gd, gy, gka, gn, gkc, gca, gm, gcc⟩) 26)) := ext_alloc (ext_refl _) _
  have hb11 : Box (w2.alloc (.cells (El.arr ⟨gk, gx, gd, gy, gka, gn, gkc, gca, gm, gcc⟩) 26)) w2.heap.size (El.arr ⟨gk, gx, gd, gy, gka, gn, gkc, gca, gm, gcc⟩) 26 := Box.at rfl _ _
  have hb112 : w.heap.size + 1 < w2.heap.size := (hb2.ext hx).lt
  have hb2 := (hb2.ext hx).ext hx2
  have hT3 := Lib.hid ((hT.to (S' := fun b => S b ∧ b < w.heap.size) (fun b h1 _ => h1.1)).ext hx2)
  have hx3 := ext_trans hx0 (ext_trans hx hx2)
  clear hT hx0 hx hx2 HW
  generalize w2.alloc (.cells (El.arr ⟨gk, gx, gd, gy, gka, gn, gkc, gca, gm, gcc⟩) 26) = w3 at hb11 hb2 hT3 hx3 ⊢
  generalize w2.heap.size = b11 at hb11 hb112 ⊢
  have hb11l := hb11.lt
  have hAt := at_map ((field, o) :: R) ⟨gk, gx, gd, gy, gka, gn, gkc, gca, gm, gcc⟩ field w3 hT3.out
  rw [HLO.out] at hAt
  simp only [Option.isSome_some, Option.getD_some, El.val] at hAt
  obtain ⟨q0, q1, q2, q3, q4, q5⟩ := hb11.six
  go_upto_region 3 with (go_at_call 45; refine hAt.mono ?_; rintro r w4 ⟨⟨pk, px, pd, py, pka, pn, pkc, pca, pm, pcc⟩, rfl, hTo, hx4⟩; simp only)
  have hx5 : Ext w4 (w4.alloc (.cells (El.arr ⟨pk, px, pd, py, pka, pn, pkc, pca, pm, pcc⟩) 26)) := ext_alloc (ext_refl _) _
  have hb13 : Box (w4.alloc (.cells (El.arr ⟨pk, px, pd, py, pka, pn, pkc, pca, pm, pcc⟩) 26)) w4.heap.size (El.arr ⟨pk, px, pd, py, pka, pn, pkc, pca, pm, pcc⟩) 26 := Box.at rfl _ _
  have hb1311 : b11 < w4.heap.size := (hb11.ext hx4).lt
  have hb11 := (hb11.ext hx4).ext hx5
  have hb2 := (hb2.ext hx4).ext hx5
  have hTo := Lib.hid (hTo.ext hx5)
  have hx6 := ext_trans hx3 (ext_trans hx4 hx5)
  clear hAt hx4 hx5 q0 q1 q2 q3 q4 q5 hb11l
  generalize w4.alloc (.cells (El.arr ⟨pk, px, pd, py, pka, pn, pkc, pca, pm, pcc⟩) 26) = w5 at hb13 hb11 hb2 hTo hx6 ⊢
  generalize w4.heap.size = b13 at hb13 hb1311 ⊢
  have HPK := Lib.hid (show pk = o.kind from hTo.out.parts.1)
  have hb13l := hb13.lt
  obtain ⟨z0, z1, z2, z3, z4, z5⟩ := hb13.six
  go_upto_if 39 with fail
  go_cut [] (fun wc => Ext w wc ∧ Box wc b11 (El.arr ⟨gk, gx, gd, gy, gka, gn, gkc, gca, gm, gcc⟩) 26 ∧ Box wc (w.heap.size + 1) (El.arr El0) 26 ∧ ∃ eo : El, Box wc b13 eo.arr 26 ∧ TreeAt (fun b => (S b ∧ b < w.heap.size) ∨ (w.heap.size + 1 < b ∧ b ≠ b13)) wc eo (mapT A))
  case first =>
    rcases hown with ⟨hk5, rfl⟩ | rfl
    · have hp5 : (pk == 5) = false := by rw [HPK.out]; simpa using hk5
      have hxp : Ext w5 (w5.alloc (.cells #[.string main, .int .i64 pk, .string px, .float .f64 pd, .bool py, .slice pka pn pkc, .slice pca pm pcc] 68)) := ext_alloc (ext_refl _) _
      have hM := map_any (S := fun b => (S b ∧ b < w.heap.size) ∨ (w.heap.size + 1 < b ∧ b ≠ b13)) (some ⟨w5.heap.size, 0, none⟩) 1 1 [(main, o)] (w5.alloc (.cells #[.string main, .int .i64 pk, .string px, .float .f64 pd, .bool py, .slice pka pn pkc, .slice pca pm pcc] 68)) (pairs_one (e := ⟨pk, px, pd, py, pka, pn, pkc, pca, pm, pcc⟩) (Box.at rfl _ _) (.inr ⟨by omega, by omega⟩) ((hTo.out.ext hxp).to fun q h1 _ => .inl h1)) (by decide)
      go_wp2_with (go_at_call 46; refine hM.mono ?_; rintro r w6 ⟨g2, rfl, hT2, hx7⟩; simp only [El.val]; have hbo := (hb13.ext hxp).ext hx7; obtain ⟨o0, o1, o2, o3, o4, o5⟩ := hbo.six; have f0 := hbo.free 0; have f1 := hbo.free 1; have f2 := hbo.free 2; have f3 := hbo.free 3; have f4 := hbo.free 4; have f5 := hbo.free 5)
      go_meet
      case rel =>
        have hx8 := ext_trans hxp hx7
        have hN : ¬ ((fun b => (S b ∧ b < w.heap.size) ∨ (w.heap.size + 1 < b ∧ b ≠ b13)) b13) := by simp; omega
        refine ⟨ext_sto6 (ext_trans hx6 hx8) (by omega) _ _ _ _ _ _, (hb11.ext hx8).sto6' (by omega) _ _ _ _ _ _, (hb2.ext hx8).sto6' (by omega) _ _ _ _ _ _, g2, hbo.sto g2, ?_⟩
        exact TreeAt.keep (fun _ h _ => h) (keeps_sto w6 hN g2) _ (hT2.to fun q h1 _ => by
          rcases h1 with h | h
          · exact h.1
          · simp at h
            exact .inr ⟨by omega, by omega⟩)
    · have hp5 : (pk == 5) = true := by rw [HPK.out, mapT_kind]; rfl
      go_wp2_with fail
      go_meet
      case rel => exact ⟨hx6, hb11, hb2, _, hb13, hTo.out.to fun q h1 _ => .inl h1⟩
  case rest =>
    have hTx := Lib.hid (fun (b : World) (y : Ext w b) => TreeAt.move hx3 y hT3.out)
    clear hb2 hb11 hb13 hTo hx6 hx3 hT3 z0 z1 z2 z3 z4 z5 HPK hown
    obtain ⟨hxc, hb11, hb2, ⟨ok, ox, od, oy, oka, on, okc, oca, om, occ⟩, hb13, hTo⟩ := hcut
    obtain ⟨z0, z1, z2, z3, z4, z5⟩ := hb13.six
    have hAt := at_map A ⟨ok, ox, od, oy, oka, on, okc, oca, om, occ⟩ other wc hTo
    rw [HOTH.out] at hAt
    simp only [Option.isSome_none, Option.getD_none, El.val] at hAt
    have hTo := Lib.hid hTo
    have hb13l := hb13.lt
    go_upto_region 8 with (go_at_call 45; refine hAt.mono ?_; rintro r w6 ⟨⟨vk, vx, vd, vy, vka, vn, vkc, vca, vm, vcc⟩, rfl, -, hx7⟩; simp only)
    have hx8 : Ext wc (w6.alloc (.cells (El.arr ⟨vk, vx, vd, vy, vka, vn, vkc, vca, vm, vcc⟩) 26)) := ext_alloc hx7 _
    have hb11 := hb11.ext hx8
    have hb2 := hb2.ext hx8
    have hb13 := hb13.ext hx8
    have hTo := Lib.hid (hTo.out.ext hx8)
    have hxc := ext_trans hxc hx8
    clear hAt hx7 hx8 z0 z1 z2 z3 z4 z5 HOTH
    generalize w6.alloc (.cells (El.arr ⟨vk, vx, vd, vy, vka, vn, vkc, vca, vm, vcc⟩) 26) = w7 at hb11 hb2 hb13 hTo hxc ⊢
    have hTX0 := hTx.out w7 hxc
    rw [HM.out] at hTX0
    have hk5 := hTX0.parts.2.2.2.2.1
    have hk6 := hTX0.parts.2.2.2.2.2
    have hgn : l.length = gn := by have := hk5.1; unfold mapOf at this; simpa [T.keys] using this
    have hgm : l.length = gm := by have := hk6.1; unfold mapOf at this; simpa [T.kids] using this
    obtain rfl : gn = gm := hgn.symm.trans hgm
    have hkc := hk5.2.1
    have hkm := hk5.2.2.1
    have hcc := hk6.2.1
    have hcm := hk6.2.2.1
    unfold maxLen at hkm hcm
    have HN := Lib.hid hgn
    have H5 := Lib.hid (fun (b : World) (y : Ext w b) => StrsAt.move hxc y hk5)
    have H6 := Lib.hid (fun (b : World) (y : Ext w b) => KidsAt.move hxc y hk6)
    clear hTX0 hk5 hk6 hgn hgm hTx
    go_wp2_with fail
    go_loopw [17] (fun i wr => Ext w wr ∧ Box wr b11 (El.arr ⟨gk, gx, gd, gy, gka, gn, gkc, gca, gn, gcc⟩) 26 ∧ Box wr (w.heap.size + 1) (El.arr El0) 26 ∧ ∃ (j : Nat) (eo : El), j ≤ gn ∧ i = .int .i64 j ∧ Box wr b13 eo.arr 26 ∧ TreeAt (fun b => (S b ∧ b < w.heap.size) ∨ (w.heap.size + 1 < b ∧ b ≠ b13)) wr eo (mapT (A ++ (l.take j).filter fun p => !seq p.1 field))) (fun i _ => gn - (intOf i).toNat)
    case atStart => exact ⟨hxc, hb11, hb2, 0, _, Nat.zero_le _, rfl, hb13, by simpa using hTo.out⟩
    case round =>
      clear hb11 hb2 hb13 hTo hxc
      obtain ⟨hx, hb11, hb2, j, eo, hj, rfl, hb13, hTo⟩ := hrel
      obtain ⟨q0, q1, q2, q3, q4, q5⟩ := hb11.six
      have hTo := Lib.hid hTo
      have hb13l := hb13.lt
      have hxx := hx.sz
      by_cases hlt : j < gn
      · obtain ⟨p, hp⟩ := some_of_lt HN.out hlt
        obtain ⟨hp1, hp2⟩ := mapOf_keys l j p hp
        obtain ⟨b, off, rfl, hSb, hcc⟩ := (H5.out wr hx).2.2.2 j p.1 hp1
        obtain ⟨b2, off2, g, rfl, hSb2, hc6, hTk⟩ := (H6.out wr hx).get hp2
        have hkp := HKL.out p (List.mem_of_getElem? hp)
        have HP := Lib.hid hp
        have HTk := Lib.hid hTk
        clear hp hp1 hp2 hTk
        obtain ⟨kk, kx, kd, ky, kka, kn, kkc, kca, km, kcc⟩ := g
        by_cases hpf : p.1 = field
        · have e1 : (p.1.toList == [95, 110, 97, 109, 101]) = false := by
            have h9 : seq p.1 s_name = false := seq_false.2 (by rw [hpf]; exact HF1.out)
            rw [seq, show s_name.toList = [95, 110, 97, 109, 101] by rw [Lib.toList_data]] at h9
            exact h9
          have e2 : (p.1.toList == [98, 111, 111, 115, 116]) = false := by
            have h9 : seq p.1 s_boost = false := seq_false.2 (by rw [hpf]; exact HF2.out)
            rw [seq, show s_boost.toList = [98, 111, 111, 115, 116] by rw [Lib.toList_data]] at h9
            exact h9
          have e3 : (p.1.toList == field.toList) = true := seq_iff.2 hpf
          have HPF := Lib.hid hpf
          clear hpf hkp
          go_wp2_with fail
          go_roundw
          case rel => exact ⟨hx, hb11, hb2, j + 1, eo, by omega, by go_num, hb13, by
            rw [show (l.take (j + 1)).filter (fun p => !seq p.1 field) = (l.take j).filter (fun p => !seq p.1 field) by rw [List.take_add_one, HP.out, List.filter_append]; simp [seq_iff.2 HPF.out]]
            exact hTo.out⟩
          case measure => simp [intOf]; omega
        · have hkp := hkp.resolve_left hpf
          cases e1 : p.1.toList == [95, 110, 97, 109, 101]
          · have e2 : (p.1.toList == [98, 111, 111, 115, 116]) = true := by
              rcases hkp with h | h
              · have h9 : seq p.1 s_name = true := seq_iff.2 h
                rw [seq, show s_name.toList = [95, 110, 97, 109, 101] by rw [Lib.toList_data], e1] at h9
                cases h9
              · have h9 : seq p.1 s_boost = true := seq_iff.2 h
                rw [seq, show s_boost.toList = [98, 111, 111, 115, 116] by rw [Lib.toList_data]] at h9
                exact h9
            have hHD := Lib.hid hcc
            go_upto_region 14 with fail
            have hS : Six wr.drew b13 eo ∧ Six wr.drew b11 ⟨gk, gx, gd, gy, some ⟨b, off, none⟩, gn, gkc, some ⟨b2, off2, none⟩, gn, gcc⟩ ∧ CellsAt wr.drew b2 (off2 + j * 6) ⟨kk, kx, kd, ky, kka, kn, kkc, kca, km, kcc⟩ ∧ wr.drew.cell? ⟨b, off + j, none⟩ = some (.string p.1) := ⟨hb13.Six, hb11.Six, hc6, hcc⟩
            refine wp_region_order (fun w' => Six w' b13 eo ∧ Six w' b11 ⟨gk, gx, gd, gy, some ⟨b, off, none⟩, gn, gkc, some ⟨b2, off2, none⟩, gn, gcc⟩ ∧ CellsAt w' b2 (off2 + j * 6) ⟨kk, kx, kd, ky, kka, kn, kkc, kca, km, kcc⟩ ∧ w'.cell? ⟨b, off + j, none⟩ = some (.string p.1)) [0, 1, 2, 3, 4, 5, 6, 7, 8, 9, 10] [0, 1, 2, 3, 4, 5, 6, 7, 8, 9, 10, 11, 12] (by kernel_rfl) (by kernel_rfl) (fun d _ _ _ _ h => by cases d <;> exact h) (by kernel_rfl) ?_
            iterate 11 (apply ord_held rfl rfl (by assumption) rfl; (focus ((intro w' hS'); go_simp; (try with_reducible rfl))); (try simp only [Act.put, List.setIfInBounds_toArray, List.set_cons_zero, List.set_cons_succ]))
            (apply ord_loud rfl rfl rfl; intro K hK; go_simp)
            have hlen2 := mapT_len (A ++ (l.take j).filter fun p => !seq p.1 field)
            have hj2 : ((l.take j).filter fun p => !seq p.1 field).length ≤ j := Nat.le_trans (List.length_filter_le _ _) (List.length_take_le _ _)
            rw [List.length_append] at hlen2
            have hgl := HLL.out
            have hgn2 := HN.out
            have hAl := HLEN.out
            refine (with_any (S := fun b => (S b ∧ b < w.heap.size) ∨ (w.heap.size + 1 < b ∧ b ≠ b13)) eo (mapT (A ++ (l.take j).filter fun p => !seq p.1 field)) p.1 ⟨kk, kx, kd, ky, kka, kn, kkc, kca, km, kcc⟩ p.2 _ (hTo.out.ext (ext_drew (ext_refl _))) ((HTk.out.to (fun b h1 _ => .inl h1)).ext (ext_drew (ext_refl _))) (by omega) (by omega) (by omega)).mono ?_
            rintro r w8 ⟨e2, rfl, hT2, hx2⟩
            have hx3 : Ext wr w8 := ext_trans (ext_drew (ext_refl _)) hx2
            refine hK _ _ (fun _ => ⟨Six.ext hx2 hS.1, Six.ext hx2 hS.2.1, CellsAt.ext hx2 hS.2.2.1, hx2.cell hS.2.2.2⟩) ?_
            clear hK K hS
            simp only [El.val]
            (try simp only [Act.put, List.setIfInBounds_toArray, List.set_cons_zero, List.set_cons_succ])
            have hb93 := hb13.ext hx3
            obtain ⟨z0, z1, z2, z3, z4, z5⟩ := hb93.six
            have f0 := hb93.free 0
            have f1 := hb93.free 1
            have f2 := hb93.free 2
            have f3 := hb93.free 3
            have f4 := hb93.free 4
            have f5 := hb93.free 5
            (apply ord_last rfl rfl rfl (by kernel_rfl); intro K hK; go_simp; refine hK _ _ ?_; clear hK K; (try simp only [Act.put, List.setIfInBounds_toArray, List.set_cons_zero, List.set_cons_succ]))
            refine ord_end ?_
            have hN : ¬ ((fun b => (S b ∧ b < w.heap.size) ∨ (w.heap.size + 1 < b ∧ b ≠ b13)) b13) := by simp; omega
            have hT3 := Lib.hid (TreeAt.keep (S' := fun b => (S b ∧ b < w.heap.size) ∨ (w.heap.size + 1 < b ∧ b ≠ b13)) (fun _ h _ => h) (keeps_sto w8 hN e2) _ (hT2.to (fun q h _ => by
              rcases h with h | h
              · exact h
              · exact .inr ⟨by simp at h; omega, by simp at h; omega⟩)))
            clear hT2
            go_wp2_with fail
            go_roundw
            case rel => exact ⟨ext_sto6 (ext_trans hx hx3) (by omega) _ _ _ _ _ _, (hb11.ext hx3).sto6' (by omega) _ _ _ _ _ _, (hb2.ext hx3).sto6' (by omega) _ _ _ _ _ _, j + 1, e2, by omega, by go_num, hb93.sto e2, by
              rw [show (l.take (j + 1)).filter (fun p => !seq p.1 field) = (l.take j).filter (fun p => !seq p.1 field) ++ [p] by rw [List.take_add_one, HP.out, List.filter_append]; simp [seq_false.2 hpf], ← List.append_assoc, mapT_snoc]
              exact hT3.out⟩
            case measure => simp [intOf]; omega
          · skip
            have hHD := Lib.hid hcc
            go_upto_region 14 with fail
            have hS : Six wr.drew b13 eo ∧ Six wr.drew b11 ⟨gk, gx, gd, gy, some ⟨b, off, none⟩, gn, gkc, some ⟨b2, off2, none⟩, gn, gcc⟩ ∧ CellsAt wr.drew b2 (off2 + j * 6) ⟨kk, kx, kd, ky, kka, kn, kkc, kca, km, kcc⟩ ∧ wr.drew.cell? ⟨b, off + j, none⟩ = some (.string p.1) := ⟨hb13.Six, hb11.Six, hc6, hcc⟩
            refine wp_region_order (fun w' => Six w' b13 eo ∧ Six w' b11 ⟨gk, gx, gd, gy, some ⟨b, off, none⟩, gn, gkc, some ⟨b2, off2, none⟩, gn, gcc⟩ ∧ CellsAt w' b2 (off2 + j * 6) ⟨kk, kx, kd, ky, kka, kn, kkc, kca, km, kcc⟩ ∧ w'.cell? ⟨b, off + j, none⟩ = some (.string p.1)) [0, 1, 2, 3, 4, 5, 6, 7, 8, 9, 10] [0, 1, 2, 3, 4, 5, 6, 7, 8, 9, 10, 11, 12] (by kernel_rfl) (by kernel_rfl) (fun d _ _ _ _ h => by cases d <;> exact h) (by kernel_rfl) ?_
            iterate 11 (apply ord_held rfl rfl (by assumption) rfl; (focus ((intro w' hS'); go_simp; (try with_reducible rfl))); (try simp only [Act.put, List.setIfInBounds_toArray, List.set_cons_zero, List.set_cons_succ]))
            (apply ord_loud rfl rfl rfl; intro K hK; go_simp)
            have hlen2 := mapT_len (A ++ (l.take j).filter fun p => !seq p.1 field)
            have hj2 : ((l.take j).filter fun p => !seq p.1 field).length ≤ j := Nat.le_trans (List.length_filter_le _ _) (List.length_take_le _ _)
            rw [List.length_append] at hlen2
            have hgl := HLL.out
            have hgn2 := HN.out
            have hAl := HLEN.out
            refine (with_any (S := fun b => (S b ∧ b < w.heap.size) ∨ (w.heap.size + 1 < b ∧ b ≠ b13)) eo (mapT (A ++ (l.take j).filter fun p => !seq p.1 field)) p.1 ⟨kk, kx, kd, ky, kka, kn, kkc, kca, km, kcc⟩ p.2 _ (hTo.out.ext (ext_drew (ext_refl _))) ((HTk.out.to (fun b h1 _ => .inl h1)).ext (ext_drew (ext_refl _))) (by omega) (by omega) (by omega)).mono ?_
            rintro r w8 ⟨e2, rfl, hT2, hx2⟩
            have hx3 : Ext wr w8 := ext_trans (ext_drew (ext_refl _)) hx2
            refine hK _ _ (fun _ => ⟨Six.ext hx2 hS.1, Six.ext hx2 hS.2.1, CellsAt.ext hx2 hS.2.2.1, hx2.cell hS.2.2.2⟩) ?_
            clear hK K hS
            simp only [El.val]
            (try simp only [Act.put, List.setIfInBounds_toArray, List.set_cons_zero, List.set_cons_succ])
            have hb93 := hb13.ext hx3
            obtain ⟨z0, z1, z2, z3, z4, z5⟩ := hb93.six
            have f0 := hb93.free 0
            have f1 := hb93.free 1
            have f2 := hb93.free 2
            have f3 := hb93.free 3
            have f4 := hb93.free 4
            have f5 := hb93.free 5
            (apply ord_last rfl rfl rfl (by kernel_rfl); intro K hK; go_simp; refine hK _ _ ?_; clear hK K; (try simp only [Act.put, List.setIfInBounds_toArray, List.set_cons_zero, List.set_cons_succ]))
            refine ord_end ?_
            have hN : ¬ ((fun b => (S b ∧ b < w.heap.size) ∨ (w.heap.size + 1 < b ∧ b ≠ b13)) b13) := by simp; omega
            have hT3 := Lib.hid (TreeAt.keep (S' := fun b => (S b ∧ b < w.heap.size) ∨ (w.heap.size + 1 < b ∧ b ≠ b13)) (fun _ h _ => h) (keeps_sto w8 hN e2) _ (hT2.to (fun q h _ => by
              rcases h with h | h
              · exact h
              · exact .inr ⟨by simp at h; omega, by simp at h; omega⟩)))
            clear hT2
            go_wp2_with fail
            go_roundw
            case rel => exact ⟨ext_sto6 (ext_trans hx hx3) (by omega) _ _ _ _ _ _, (hb11.ext hx3).sto6' (by omega) _ _ _ _ _ _, (hb2.ext hx3).sto6' (by omega) _ _ _ _ _ _, j + 1, e2, by omega, by go_num, hb93.sto e2, by
              rw [show (l.take (j + 1)).filter (fun p => !seq p.1 field) = (l.take j).filter (fun p => !seq p.1 field) ++ [p] by rw [List.take_add_one, HP.out, List.filter_append]; simp [seq_false.2 hpf], ← List.append_assoc, mapT_snoc]
              exact hT3.out⟩
            case measure => simp [intOf]; omega
      · have hjn : j = gn := by omega
        have hft : mapT (A ++ (l.take j).filter fun p => !seq p.1 field) = mapT (A ++ R) := by
          rw [List.take_of_length_le (by have := HN.out; omega)]
          exact HFIN.out
        rw [hft] at hTo
        obtain ⟨ok, ox, od, oy, oka, on, okc, oca, om, occ⟩ := eo
        obtain ⟨z0, z1, z2, z3, z4, z5⟩ := hb13.six
        have hxp : Ext wr (wr.alloc (.cells #[.string field, .int .i64 ok, .string ox, .float .f64 od, .bool oy, .slice oka on okc, .slice oca om occ] 68)) := ext_alloc (ext_refl _) _
        have hB := beside_any (S := fun b => (S b ∧ b < w.heap.size) ∨ (w.heap.size + 1 < b ∧ b ≠ b13)) kind (some ⟨wr.heap.size, 0, none⟩) 1 1 [(field, mapT (A ++ R))] (wr.alloc (.cells #[.string field, .int .i64 ok, .string ox, .float .f64 od, .bool oy, .slice oka on okc, .slice oca om occ] 68)) (pairs_one (e := ⟨ok, ox, od, oy, oka, on, okc, oca, om, occ⟩) (Box.at rfl _ _) (.inr ⟨by omega, by omega⟩) (hTo.out.ext hxp)) (by decide)
        go_wp2_with (first
          | (go_at_call 50; refine hB.mono ?_; rintro r w8 ⟨g2, rfl, hT2, hx9⟩; simp only [El.val]
             have hF := folded_any (S := fun b => (S b ∧ b < w.heap.size) ∨ w.heap.size + 1 < b) lw (mapT [(kind, mapT [(field, mapT (A ++ R))])]) g2 w8 (hT2.to fun q h1 _ => by
               rcases h1 with h | h
               · rcases h.1 with h | h
                 · exact .inl h
                 · exact .inr h.1
               · simp at h
                 exact .inr (by omega)) HOKT.out (fun s hs => (HLOW.out s hs).ext (ext_trans hx (ext_trans hxp hx9)))
             simp only [El.val] at hF)
          | (go_at_call 49; refine hF.mono ?_; rintro r w9 ⟨g3, rfl, hT3, hx10⟩; try simp only
             have hbr := ((hb2.ext hxp).ext hx9).ext hx10; obtain ⟨o0, o1, o2, o3, o4, o5⟩ := hbr.six; have f0 := hbr.free 0; have f1 := hbr.free 1; have f2 := hbr.free 2; have f3 := hbr.free 3; have f4 := hbr.free 4; have f5 := hbr.free 5)
          | fail)
        have hx11 := ext_trans hx (ext_trans (ext_trans hxp hx9) hx10)
        have hs8 := (ext_trans hxp hx9).sz
        refine post_tree rfl rfl (hbr.sto g3) rfl ⟨g3, rfl, ?_, ext_sto6 hx11 (by omega) _ _ _ _ _ _⟩
        refine TreeAt.keep (S := fun b => (S b ∧ b < w.heap.size) ∨ w.heap.size + 1 < b) (fun q h _ => by
          rcases h with h | h
          · exact .inl h
          · exact .inr (by omega)) (keeps_sto w9 (by omega) g3) _ (hT3.to fun q h1 _ => ?_)
        rcases h1 with h | h
        · exact h.1
        · exact .inr (by omega)
theorem readValued_any {S : Nat → Prop} (lw : ByteArray → ByteArray) (kind field main other : ByteArray) (o : T) (A : List (ByteArray × T)) (e : El) (w : World) (h : TreeAt S w e (mapT [(kind, mapT [(field, o)])])) (hown : FieldOwn main o A) (hoth : lastOf A other = none)
    (hf1 : field ≠ s_name) (hf2 : field ≠ s_boost) (hks : kind.size ≤ 2147483647) (hfs : field.size ≤ 2147483647) (hA : ∀ p ∈ A, p.1.size ≤ 2147483647 ∧ p.2.kind ≠ 5) (hlen : A.length ≤ 30000)
    (hlow : ∀ s ∈ opTexts (mapT [(kind, mapT [(field, mapT A)])]), LowerAt lw w s) :
    Calls Tryz.prog 16 #[.string kind, .string field, .string main, .string other, e.val] w fun r w' => ∃ g : El, r = .returned g.val ∧ TreeAt (fun _ => True) w' g (readV lw kind field A) ∧ Ext w w' := by
  have := readValued_more lw kind field main other o A [] e w h hown hoth hf1 hf2 (fun p hp => by simp at hp) hks hfs (by simpa using hA) (by simpa using hlen) (by simpa using hlow)
  refine this.mono ?_
  rintro r w' ⟨g, h1, h2, h3⟩
  rw [List.append_nil] at h2
  exact ⟨g, h1, h2.any, h3⟩
set_option maxRecDepth 20000 in
set_option maxHeartbeats 4000000 in
theorem match_any {S : Nat → Prop} (lw : ByteArray → ByteArray) (kind bd tb field : ByteArray) (v : El) (t : T) (a : Option Addr) (n c : Nat) (sets : List (ByteArray × T)) (w : World) (hT : ∀ w, Calls Tryz.prog 128 #[.string bd] w fun r w' => r = .returned (.string tb) ∧ w' = w) (fu : Nat) (hok : okL fu tb.data.toList = true) (hsz : tb.size < 65536)
    (rs : List (ByteArray × ByteArray)) (hrs : ((rowsL fu tb.data.toList).map fun r => (mkB r.1, mkB r.2)) = rs) (hrl : rs.length ≤ 65536) (h : PairsAt S w a n c sets) (hv : TreeAt S w v t)
    (hks : kind.size ≤ 2147483647) (hfs : field.size ≤ 2147483647) (hB : ∀ p ∈ paramsL rs sets ++ [(s_query, t)], p.1.size ≤ 2147483647 ∧ p.2.kind ≠ 5) (hlen : (paramsL rs sets ++ [(s_query, t)]).length ≤ 30000)
    (hlow : ∀ s ∈ opTexts (mapT [(kind, mapT [(field, mapT (paramsL rs sets ++ [(s_query, t)]))])]), LowerAt lw w s) :
    Calls Tryz.prog 17 #[.string kind, .string bd, .string field, v.val, .slice a n c] w fun r w' => ∃ g : El, r = .returned g.val ∧ TreeAt (fun _ => True) w' g (readV lw kind field (paramsL rs sets ++ [(s_query, t)])) ∧ Ext w w' := by
  have hokT := Lib.hid (readV_ok kind field hks hfs hB (by omega))
  have HLOW := Lib.hid hlow
  obtain ⟨vk, vx, vd, vy, vka, vn, vkc, vca, vm, vcc⟩ := v
  have hx0 : Ext w ((w.alloc (.cells (⟨vk, vx, vd, vy, vka, vn, vkc, vca, vm, vcc⟩ : El).arr 26)).alloc (.cells (El.arr El0) 26)) := ext_alloc (ext_alloc (ext_refl _) _) _
  have hbt : Box ((w.alloc (.cells (⟨vk, vx, vd, vy, vka, vn, vkc, vca, vm, vcc⟩ : El).arr 26)).alloc (.cells (El.arr El0) 26)) w.heap.size (⟨vk, vx, vd, vy, vka, vn, vkc, vca, vm, vcc⟩ : El).arr 26 := (Box.at rfl _ _).alloc _
  have hb0 : Box ((w.alloc (.cells (⟨vk, vx, vd, vy, vka, vn, vkc, vca, vm, vcc⟩ : El).arr 26)).alloc (.cells (El.arr El0) 26)) (w.heap.size + 1) (El.arr El0) 26 := Box.at (by simp) _ _
  have hV := valued_any (S := fun b => S b ∧ b < w.heap.size) kind bd tb field s_query ⟨vk, vx, vd, vy, vka, vn, vkc, vca, vm, vcc⟩ t a n c sets _ hT fu hok hsz rs hrs hrl ((h.keep (S' := fun b => S b ∧ b < w.heap.size) (fun b h1 h2 => ⟨h1, h2⟩) (fun _ _ _ => rfl)).ext hx0) ((hv.to (S' := fun b => S b ∧ b < w.heap.size) (fun b h1 h2 => ⟨h1, h2⟩)).ext hx0)
  clear hv h hT hok hsz hrs hrl hB hlow hlen hks hfs
  simp only [El.val] at hV ⊢
  go_enter Tryz.func17, Tryz.ntmps17
  go_upto_region 1 with fail
  generalize ((w.alloc (.cells (⟨vk, vx, vd, vy, vka, vn, vkc, vca, vm, vcc⟩ : El).arr 26)).alloc (.cells (El.arr El0) 26)) = w2 at hx0 hbt hb0 hV ⊢
  obtain ⟨q0, q1, q2, q3, q4, q5⟩ := hbt.six
  have hb0l := hb0.lt
  go_wp2_with (first
    | (go_at_call 21; refine hV.mono ?_; rintro r w3 ⟨g1, rfl, hT1, hx1⟩; simp only [El.val]
       have hF := folded_any (S := fun b => (S b ∧ b < w.heap.size) ∨ w.heap.size + 1 < b) lw (mapT [(kind, mapT [(field, mapT (paramsL rs sets ++ [(s_query, t)]))])]) g1 w3 (hT1.to fun q h1 _ => by
         rcases h1 with h | h
         · exact .inl h.1
         · exact .inr (by omega)) hokT.out (fun s hs => (HLOW.out s hs).ext (ext_trans hx0 hx1))
       simp only [El.val] at hF)
    | (go_at_call 49; refine hF.mono ?_; rintro r w4 ⟨g2, rfl, hT2, hx2⟩; try simp only
       have hbr := (hb0.ext hx1).ext hx2; obtain ⟨o0, o1, o2, o3, o4, o5⟩ := hbr.six; have f0 := hbr.free 0; have f1 := hbr.free 1; have f2 := hbr.free 2; have f3 := hbr.free 3; have f4 := hbr.free 4; have f5 := hbr.free 5)
    | fail)
  have hs1 := hx1.sz
  refine post_tree rfl rfl (hbr.sto g2) rfl ⟨g2, rfl, ?_, ext_sto6 (ext_trans hx0 (ext_trans hx1 hx2)) (by omega) _ _ _ _ _ _⟩
  refine TreeAt.keep (S := fun b => (S b ∧ b < w.heap.size) ∨ w.heap.size + 1 < b) (fun _ _ _ => trivial) (keeps_sto w4 (by omega) g2) _ (hT2.to fun q h1 _ => ?_)
  rcases h1 with h | h
  · exact h.1
  · exact .inr (by omega)
end Go.Proofs.YtocfoheckgdonaaGreatDoor

