/-
  folded: a tree with small letters under operators, in memory.
-/
import Derived.Test.YtfngaoicoecncaaGreatDoorVd
import Derived.Test.YtfngaoicoecncaaGreatDoorR2
import Derived.Lib.Walk
import Derived.Lib.Strings
import Derived.Lib.Slices
import Derived.Laws.Strings3
namespace Go.Proofs.YtfngaoicoecncaaGreatDoor
open Go.RowKit

set_option maxHeartbeats 1000000 in
theorem hasSuffix_in (s p : ByteArray) (w : World) (hs : s.size ≤ 9223372036854775807) :
    Calls Tryz.prog 106 #[.string s, .string p] w fun e w' => e = .returned (.bool (Lib.hasSuffix s.data.toList p.data.toList)) ∧ w' = w := by
  rw [← Lib.hasSuffix_raw]
  have hlo : p.size ≤ s.size → ((s.size : Int) - (p.size : Int) + 9223372036854775808) % 18446744073709551616 - 9223372036854775808 = ((s.size - p.size : Nat) : Int) := fun _ => by omega
  go_enter Tryz.func106, Tryz.ntmps106
  go_wp2
  · have h : p.size ≤ s.size := by assumption
    go_ret
    refine ⟨?_, rfl⟩
    show Ending.returned (Value.bool ((s.extract (s.size - p.size) s.size).toList == p.toList)) = _
    simp [h]
  · have h : ¬ p.size ≤ s.size := by assumption
    go_ret
    refine ⟨?_, rfl⟩
    show Ending.returned (Value.bool false) = _
    simp [h]
set_option maxHeartbeats 1000000 in
theorem hasSuffix_any (s p : ByteArray) (w : World) (hs : s.size ≤ 9223372036854775807) :
    Calls Tryz.prog 76 #[.string s, .string p] w fun e w' => e = .returned (.bool (Lib.hasSuffix s.data.toList p.data.toList)) ∧ w' = w := by
  go_enter Tryz.func76, Tryz.ntmps76
  go_wp2_with (go_at_call 106; refine (hasSuffix_in _ _ _ hs).mono ?_; rintro e w' ⟨rfl, rfl⟩)
  go_ret
  exact ⟨rfl, rfl⟩
/-- A text is made small. -/
def LowerAt (lw : ByteArray → ByteArray) (w : World) (s : ByteArray) : Prop := ∀ w', Ext w w' → Calls Tryz.prog 77 #[.string s] w' fun r w2 => r = .returned (.string (lw s)) ∧ Ext w' w2
theorem LowerAt.ext {lw : ByteArray → ByteArray} {w w' : World} {s : ByteArray} (h : LowerAt lw w s) (x : Ext w w') : LowerAt lw w' s := fun w2 y => h w2 (ext_trans x y)

set_option maxHeartbeats 12000000 in
theorem folded_map {S : Nat → Prop} (lw : ByteArray → ByteArray) (x : ByteArray) (d : Nat) (y : Bool) (ks : List ByteArray) (xs : List T) (e : El) (w : World) (h : TreeAt S w e (.mk 5 x d y ks xs)) (ho : okF (.mk 5 x d y ks xs)) (hlow : ∀ s ∈ opTextss xs ks, LowerAt lw w s)
    (ih : ∀ x ∈ xs, ∀ (S : Nat → Prop) (e : El) (w' : World), TreeAt S w' e x → okF x → (∀ s ∈ opTexts x, LowerAt lw w' s) → Calls Tryz.prog 45 #[e.val] w' fun r w2 => ∃ g : El, r = .returned g.val ∧ TreeAt (fun b => (S b ∧ b < w'.heap.size) ∨ w'.heap.size ≤ b) w2 g (foldT lw x) ∧ Ext w' w2) :
    Calls Tryz.prog 45 #[e.val] w fun r w' => ∃ g : El, r = .returned g.val ∧ TreeAt (fun b => (S b ∧ b < w.heap.size) ∨ w.heap.size ≤ b) w' g (mapT (foldK lw xs ks)) ∧ Ext w w' := by
  simp only [okF] at ho
  obtain ⟨hlen, hlx, hsz, hos⟩ := ho trivial
  have h := h.to (S' := fun b => S b ∧ b < w.heap.size) (fun b h1 h2 => ⟨h1, h2⟩)
  obtain ⟨e1, e2, e3, e4, e5, e6⟩ := h.parts
  simp only [T.kind, T.text, T.num, T.yes, T.keys, T.kids] at e1 e2 e3 e4 e5 e6
  clear h
  obtain ⟨ek, ex, ed, ey, eka, en, ekc, eca, em, ecc⟩ := e
  simp only at e1 e2 e3 e4 e5 e6
  subst e1 e2 e3 e4
  have hn := e5.1
  have hm := e6.1
  obtain rfl : en = em := hn.symm.trans (hlx.trans hm)
  have hkc := e5.2.1
  have hkm := e5.2.2.1
  have hcc := e6.2.1
  have hcm := e6.2.2.1
  unfold maxLen at hkm hcm
  have hLl : (foldK lw xs ks).length = en := (foldK_len lw xs ks hlx).trans hn
  have HN := Lib.hid hn
  have HM := Lib.hid hm
  have HL := Lib.hid hLl
  have H5 := Lib.hid e5
  have H6 := Lib.hid e6
  have HSZ := Lib.hid hsz
  have HOS := Lib.hid ((okFs_all xs).1 hos)
  have HLOW := Lib.hid hlow
  have HIH := Lib.hid ih
  have hen : en ≤ 65536 := by omega
  clear e5 e6 hn hm hlx hsz hos hlow ih ho hLl
  have HG := Lib.hid (fun (j : Nat) (t : T) (k : ByteArray) (h1 : xs[j]? = some t) (h2 : ks[j]? = some k) => foldK_get lw xs ks j t k h1 h2)
  have HT := Lib.hid (fun (s : ByteArray) (j : Nat) (t : T) (k : ByteArray) (h1 : xs[j]? = some t) (h2 : ks[j]? = some k) => opTextss_get (s := s) xs ks j t k h1 h2)
  generalize hLL : foldK lw xs ks = L at HL HG ⊢
  clear hLL
  simp only [El.val]
  have hx0 : Ext w ((w.alloc (.cells (El.arr ⟨5, ex, ed, ey, eka, en, ekc, eca, en, ecc⟩) 26)).alloc (.cells (El.arr El0) 26)) := ext_alloc (ext_alloc (ext_refl _) _) _
  have hb1o : Box ((w.alloc (.cells (El.arr ⟨5, ex, ed, ey, eka, en, ekc, eca, en, ecc⟩) 26)).alloc (.cells (El.arr El0) 26)) w.heap.size (El.arr ⟨5, ex, ed, ey, eka, en, ekc, eca, en, ecc⟩) 26 := (Box.at rfl _ _).alloc _
  have hb2o : Box ((w.alloc (.cells (El.arr ⟨5, ex, ed, ey, eka, en, ekc, eca, en, ecc⟩) 26)).alloc (.cells (El.arr El0) 26)) (w.heap.size + 1) (El.arr El0) 26 := Box.at (by simp) _ _
  have hMp := map_any (S := fun _ => False) none 0 0 [] ((w.alloc (.cells (El.arr ⟨5, ex, ed, ey, eka, en, ekc, eca, en, ecc⟩) 26)).alloc (.cells (El.arr El0) 26)) ⟨rfl, Nat.le_refl _, by simp [maxLen], fun _ _ h => by simp at h⟩ (by decide)
  go_enter Tryz.func45, Tryz.ntmps45
  go_upto_region 4 with (go_at_call 42; refine hMp.mono ?_; rintro r w4 ⟨⟨ok, ox, od, oy, oka, on, okc, oca, om, occ⟩, rfl, hT4, hx4⟩; simp only [El.val])
  have hx5 : Ext w4 (w4.alloc (.cells (El.arr ⟨ok, ox, od, oy, oka, on, okc, oca, om, occ⟩) 26)) := ext_alloc (ext_refl _) _
  have hb9 : Box (w4.alloc (.cells (El.arr ⟨ok, ox, od, oy, oka, on, okc, oca, om, occ⟩) 26)) w4.heap.size (El.arr ⟨ok, ox, od, oy, oka, on, okc, oca, om, occ⟩) 26 := Box.at rfl _ _
  have hb92 : w.heap.size + 1 < w4.heap.size := (hb2o.ext hx4).lt
  have hb1 := (hb1o.ext hx4).ext hx5
  have hb2 := (hb2o.ext hx4).ext hx5
  clear hb1o hb2o
  have hT5 := Lib.hid ((hT4.to (S' := fun b => (S b ∧ b < w.heap.size) ∨ (w.heap.size + 1 < b ∧ b ≠ w4.heap.size)) (fun b h1 h2 => by
    rcases h1 with h1 | h1
    · exact h1.1.elim
    · simp at h1
      exact .inr ⟨by omega, by omega⟩)).ext hx5)
  have hx6 := ext_trans hx0 (ext_trans hx4 hx5)
  clear hT4 hx0 hx4 hx5 hMp
  generalize w4.alloc (.cells (El.arr ⟨ok, ox, od, oy, oka, on, okc, oca, om, occ⟩) 26) = w5 at hb9 hb1 hb2 hT5 hx6 ⊢
  generalize w4.heap.size = b9 at hb9 hb92 hT5 ⊢
  go_wp2_with fail
  go_loopw [4] (fun i wr => Ext w wr ∧ Box wr w.heap.size (El.arr ⟨5, ex, ed, ey, eka, en, ekc, eca, en, ecc⟩) 26 ∧ Box wr (w.heap.size + 1) (El.arr El0) 26 ∧ ∃ (j : Nat) (eo : El), j ≤ en ∧ i = .int .i64 j ∧ Box wr b9 eo.arr 26 ∧ TreeAt (fun b => (S b ∧ b < w.heap.size) ∨ (w.heap.size + 1 < b ∧ b ≠ b9)) wr eo (mapT (L.take j))) (fun i _ => en - (intOf i).toNat)
  case atStart => exact ⟨hx6, hb1, hb2, 0, _, Nat.zero_le _, rfl, hb9, hT5.out⟩
  case round =>
    clear hb1 hb2 hb9 hx6 hT5
    obtain ⟨hx, hb1, hb2, j, eo, hj, rfl, hb9, hTo⟩ := hrel
    obtain ⟨q0, q1, q2, q3, q4, q5⟩ := hb1.six
    have hTo := Lib.hid hTo
    have hb9l := hb9.lt
    by_cases hlt : j < en
    · obtain ⟨key, hk⟩ := some_of_lt HN.out hlt
      obtain ⟨kid, hkd⟩ := some_of_lt HM.out hlt
      obtain ⟨b, off, rfl, hSb, hc⟩ := H5.out.2.2.2 j key hk
      obtain ⟨b2, off2, g, rfl, hSb2, hc6, hTk⟩ := H6.out.get hkd
      have hcw := hx.cell hc
      have hc6 := CellsAt.ext hx hc6
      have hc := hcw
      have hkeysz := HSZ.out key (List.mem_of_getElem? hk)
      have HP := Lib.hid (HG.out j kid key hkd hk)
      have hF := HIH.out kid (List.mem_of_getElem? hkd) (fun b => S b ∧ b < w.heap.size) g wr (hTk.ext hx) (HOS.out kid (List.mem_of_getElem? hkd)) (fun s hs => (HLOW.out s (HT.out s j kid key hkd hk (.inr hs))).ext hx)
      have HLW := Lib.hid (fun (h1 : opKey key = true) (h2 : kid.kind = 1) => HLOW.out kid.text (HT.out kid.text j kid key hkd hk (.inl ⟨h1, h2, rfl⟩)))
      have HS := Lib.hid (fun (w : World) => hasSuffix_any key ⟨#[111, 112, 101, 114, 97, 116, 111, 114]⟩ w (by omega))
      have hfk := foldT_kind lw kid
      have hfi := fun (h : kid.kind = 1) => foldT_id lw (t := kid) (by omega)
      have HFI := Lib.hid hfi
      clear hk hkd hkeysz hTk hfi
      obtain ⟨kk, kx, kd, ky, kka, kn, kkc, kca, km, kcc⟩ := g
      simp only [El.val] at hF
      go_upto_region 8 with (go_at_call 45; refine hF.mono ?_; rintro r w6 ⟨⟨gk, gx, gd, gy, gka, gn, gkc, gca, gm, gcc⟩, rfl, hTk, hx6⟩; simp only)
      have hx7 : Ext wr (w6.alloc (.cells (El.arr ⟨gk, gx, gd, gy, gka, gn, gkc, gca, gm, gcc⟩) 26)) := ext_alloc hx6 _
      have hb11 : Box (w6.alloc (.cells (El.arr ⟨gk, gx, gd, gy, gka, gn, gkc, gca, gm, gcc⟩) 26)) w6.heap.size (El.arr ⟨gk, gx, gd, gy, gka, gn, gkc, gca, gm, gcc⟩) 26 := Box.at rfl _ _
      have hbk9 : wr.heap.size ≤ w6.heap.size := hx6.sz
      have hTk := Lib.hid ((hTk.to (S' := fun b => (S b ∧ b < w.heap.size) ∨ (w.heap.size + 1 < b ∧ b ≠ b9)) (fun b h1 _ => by
        rcases h1 with h1 | h1
        · exact .inl h1.1
        · exact .inr ⟨by omega, by omega⟩)).ext (ext_alloc (ext_refl w6) (.cells (El.arr ⟨gk, gx, gd, gy, gka, gn, gkc, gca, gm, gcc⟩) 26)))
      have HGK := Lib.hid (show gk = kid.kind from hTk.out.parts.1.trans hfk)
      have hTx := Lib.hid hTk.out.parts.2.1
      have hc := hx7.cell hc
      have hb1' := hb1.ext hx7
      clear q0 q1 q2 q3 q4 q5 hx6 hc6 hF
      generalize w6.alloc (.cells (El.arr ⟨gk, gx, gd, gy, gka, gn, gkc, gca, gm, gcc⟩) 26) = w7 at hx7 hb11 hTk hc hb1' ⊢
      generalize w6.heap.size = bk at hb11 hbk9 ⊢
      obtain ⟨q0, q1, q2, q3, q4, q5⟩ := hb1'.six
      obtain ⟨m0, m1, m2, m3, m4, m5⟩ := hb11.six
      have hHS := HS.out w7
      go_cut [5, 42] (fun s5 s42 wc => s5 = .pointer (some ⟨bk, 0, none⟩) ∧ s42 = .bool (opKey key && (gk == 1)) ∧ wc = w7)
      case first =>
        cases hb : Lib.hasSuffix key.data.toList [111, 112, 101, 114, 97, 116, 111, 114]
        · cases hs : key.toList == [109, 111, 100, 105, 102, 105, 101, 114]
          · have hop : opKey key = false := by
              rw [opKey, hb, seq, show (⟨#[109, 111, 100, 105, 102, 105, 101, 114]⟩ : ByteArray).toList = [109, 111, 100, 105, 102, 105, 101, 114] by rw [Lib.toList_data], hs]; rfl
            go_wp2_with (go_at_call 76; refine hHS.mono ?_; rintro r w' ⟨rfl, rfl⟩; rw [hb])
            go_meet
            case rel => exact ⟨rfl, by rw [hop]; rfl, rfl⟩
          · have hop : opKey key = true := by
              rw [opKey, hb, seq, show (⟨#[109, 111, 100, 105, 102, 105, 101, 114]⟩ : ByteArray).toList = [109, 111, 100, 105, 102, 105, 101, 114] by rw [Lib.toList_data], hs]; rfl
            go_wp2_with (go_at_call 76; refine hHS.mono ?_; rintro r w' ⟨rfl, rfl⟩; rw [hb])
            go_meet
            case rel => exact ⟨rfl, by rw [hop, Bool.true_and], rfl⟩
        · have hop : opKey key = true := by rw [opKey, hb]; rfl
          go_wp2_with (go_at_call 76; refine hHS.mono ?_; rintro r w' ⟨rfl, rfl⟩; rw [hb])
          go_meet
          case rel => exact ⟨rfl, by rw [hop, Bool.true_and], rfl⟩
      case rest =>
        obtain ⟨rfl, rfl, rfl⟩ := hcut
        go_upto_if 42 with fail
        go_cut [5] (fun s5 wc => s5 = .pointer (some ⟨bk, 0, none⟩) ∧ Ext wr wc ∧ ∃ gq : El, Box wc bk gq.arr 26 ∧ TreeAt (fun b => (S b ∧ b < w.heap.size) ∨ (w.heap.size + 1 < b ∧ b ≠ b9)) wc gq (lowT lw key (foldT lw kid)))
        case first =>
          cases hcd : (opKey key && (gk == 1))
          · go_wp2_with fail
            go_meet
            case rel =>
              refine ⟨rfl, hx7, _, hb11, ?_⟩
              have : lowT lw key (foldT lw kid) = foldT lw kid := by
                unfold lowT
                rw [if_neg]
                rintro ⟨h1, h2⟩
                rw [h1, HGK.out, ← hfk, h2] at hcd
                exact absurd hcd (by decide)
              rw [this]
              exact hTk.out
          · rw [Bool.and_eq_true, beq_iff_eq] at hcd
            obtain ⟨hc1, hc2⟩ := hcd
            subst hc2
            have hk1 : kid.kind = 1 := HGK.out.symm
            have HGX := Lib.hid (show gx = kid.text by have := hTx.out; rw [HFI.out hk1] at this; exact this)
            have hL := HLW.out hc1 hk1 _ (ext_trans hx hx7)
            rw [← HGX.out] at hL
            have HK1 := Lib.hid hk1
            clear hk1
            go_wp2_with (first
              | (go_at_call 77; refine hL.mono ?_; rintro r w8 ⟨rfl, hx8⟩)
              | (go_at_call 67; refine (text_any _ _).mono ?_; rintro r w9 ⟨gt, rfl, hTt, hx9⟩; simp only [El.val]; have hbt := hb11.ext (ext_trans hx8 hx9); obtain ⟨o0, o1, o2, o3, o4, o5⟩ := hbt.six; have f0 := hbt.free 0; have f1 := hbt.free 1; have f2 := hbt.free 2; have f3 := hbt.free 3; have f4 := hbt.free 4; have f5 := hbt.free 5))
            go_meet
            case rel =>
              refine ⟨rfl, ext_sto6 (ext_trans hx7 (ext_trans hx8 hx9)) (by omega) _ _ _ _ _ _, gt, hbt.sto gt, ?_⟩
              have : lowT lw key (foldT lw kid) = textT (lw gx) := by
                rw [HFI.out HK1.out, HGX.out]
                unfold lowT
                rw [if_pos ⟨hc1, HK1.out⟩]
              rw [this]
              exact TreeAt.keep (fun _ h _ => h.elim) (keeps_sto (S := fun _ => False) w9 (fun h => h) gt) _ (hTt (fun _ => False))
        case rest =>
          obtain ⟨rfl, hxc, gq, hbq, hTq⟩ := hcut
          clear q0 q1 q2 q3 q4 q5 m0 m1 m2 m3 m4 m5 hTk hTx HGK hb1' hHS hx7 hb11 hc
          have hcc := hxc.cell hcw
          have hb1c := hb1.ext hxc
          have hb2c := hb2.ext hxc
          have hb9c := hb9.ext hxc
          have hb9cl := hb9c.lt
          go_upto_region 10 with fail
          have hS : Six wc.drew b9 eo ∧ Six wc.drew w.heap.size ⟨5, ex, ed, ey, some ⟨b, off, none⟩, en, ekc, some ⟨b2, off2, none⟩, en, ecc⟩ ∧ Six wc.drew bk gq ∧ wc.drew.cell? ⟨b, off + j, none⟩ = some (.string key) := ⟨hb9c.Six, hb1c.Six, hbq.Six, hcc⟩
          refine wp_region_order (fun w' => Six w' b9 eo ∧ Six w' w.heap.size ⟨5, ex, ed, ey, some ⟨b, off, none⟩, en, ekc, some ⟨b2, off2, none⟩, en, ecc⟩ ∧ Six w' bk gq ∧ w'.cell? ⟨b, off + j, none⟩ = some (.string key)) [0, 1, 2, 3, 4, 5, 6] [0, 1, 2, 3, 4, 5, 6, 7, 8] (by kernel_rfl) (by kernel_rfl) (fun d _ _ _ _ h => by cases d <;> exact h) (by kernel_rfl) ?_
          iterate 7 (apply ord_held rfl rfl (by assumption) rfl; (focus ((intro w' hS'); go_simp; (try with_reducible rfl))); (try simp only [Act.put, List.setIfInBounds_toArray, List.set_cons_zero, List.set_cons_succ]))
          (apply ord_loud rfl rfl rfl; intro K hK; go_simp)
          have hlen2 := mapT_len (L.take j)
          have hj2 : (L.take j).length ≤ j := List.length_take_le _ _
          refine (with_any (S := fun b => (S b ∧ b < w.heap.size) ∨ (w.heap.size + 1 < b ∧ b ≠ b9)) eo (mapT (L.take j)) key gq (lowT lw key (foldT lw kid)) _ ((hTo.out.ext hxc).ext (ext_drew (ext_refl _))) (hTq.ext (ext_drew (ext_refl _))) (by omega) (by omega) (by omega)).mono ?_
          rintro r w8 ⟨e2, rfl, hT2, hx2⟩
          have hx3 : Ext wc w8 := ext_trans (ext_drew (ext_refl _)) hx2
          refine hK _ _ (fun _ => ⟨Six.ext hx2 hS.1, Six.ext hx2 hS.2.1, Six.ext hx2 hS.2.2.1, hx2.cell hS.2.2.2⟩) ?_
          clear hK K hS
          simp only [El.val]
          (try simp only [Act.put, List.setIfInBounds_toArray, List.set_cons_zero, List.set_cons_succ])
          have hb93 := hb9c.ext hx3
          obtain ⟨z0, z1, z2, z3, z4, z5⟩ := hb93.six
          have f0 := hb93.free 0
          have f1 := hb93.free 1
          have f2 := hb93.free 2
          have f3 := hb93.free 3
          have f4 := hb93.free 4
          have f5 := hb93.free 5
          (apply ord_last rfl rfl rfl (by kernel_rfl); intro K hK; go_simp; refine hK _ _ ?_; clear hK K; (try simp only [Act.put, List.setIfInBounds_toArray, List.set_cons_zero, List.set_cons_succ]))
          refine ord_end ?_
          have hxx := hx.sz
          have hxcs := hxc.sz
          have hN : ¬ ((fun b => (S b ∧ b < w.heap.size) ∨ (w.heap.size + 1 < b ∧ b ≠ b9)) b9) := by simp; omega
          have hT3 := Lib.hid (TreeAt.keep (S' := fun b => (S b ∧ b < w.heap.size) ∨ (w.heap.size + 1 < b ∧ b ≠ b9)) (fun _ h _ => h) (keeps_sto w8 hN e2) _ (hT2.to (fun q h _ => by
            rcases h with h | h
            · exact h
            · exact .inr ⟨by simp at h; omega, by simp at h; omega⟩)))
          clear hT2
          go_wp2_with fail
          go_roundw
          case rel => exact ⟨ext_sto6 (ext_trans hx (ext_trans hxc hx3)) (by omega) _ _ _ _ _ _, (hb1c.ext hx3).sto6' (by omega) _ _ _ _ _ _, (hb2c.ext hx3).sto6' (by omega) _ _ _ _ _ _, j + 1, e2, by omega, by go_num, hb93.sto e2, by
            rw [show mapT (L.take (j + 1)) = withT (mapT (L.take j)) key (lowT lw key (foldT lw kid)) from foldl_snoc _ _ HP.out]
            exact hT3.out⟩
          case measure => simp [intOf]; omega
    · have hjn : j = en := by omega
      have hfin : mapT (L.take j) = mapT L := by rw [List.take_of_length_le (by have := HL.out; omega)]
      rw [hfin] at hTo
      have hxx := hx.sz
      have hN : ¬ ((fun b => (S b ∧ b < w.heap.size) ∨ (w.heap.size + 1 < b ∧ b ≠ b9)) (w.heap.size + 1)) := by simp
      have hfT := TreeAt.keep (S' := fun b => (S b ∧ b < w.heap.size) ∨ w.heap.size ≤ b) (fun q h _ => by
        rcases h with h | h
        · exact .inl h
        · exact .inr (by omega)) (keeps_sto wr hN eo) _ hTo.out
      obtain ⟨eok, eox, eod, eoy, eoka, eon, eokc, eoca, eom, eocc⟩ := eo
      obtain ⟨z0, z1, z2, z3, z4, z5⟩ := hb9.six
      obtain ⟨o0, o1, o2, o3, o4, o5⟩ := hb2.six
      have f0 := hb2.free 0
      have f1 := hb2.free 1
      have f2 := hb2.free 2
      have f3 := hb2.free 3
      have f4 := hb2.free 4
      have f5 := hb2.free 5
      go_wp2_with fail
      refine post_tree rfl rfl (hb2.sto ⟨eok, eox, eod, eoy, eoka, eon, eokc, eoca, eom, eocc⟩) rfl ⟨⟨eok, eox, eod, eoy, eoka, eon, eokc, eoca, eom, eocc⟩, rfl, hfT, ext_sto6 hx (by omega) _ _ _ _ _ _⟩

set_option maxHeartbeats 1000000 in
theorem folded_not {S : Nat → Prop} (t : T) (hk : t.kind ≠ 5) (e : El) (w : World) (h : TreeAt S w e t) :
    Calls Tryz.prog 45 #[e.val] w fun r w' => ∃ g : El, r = .returned g.val ∧ TreeAt S w' g t ∧ Ext w w' := by
  have hek : (e.k == 5) = false := by rw [h.parts.1]; simpa using hk
  have H := Lib.hid h
  clear h hk
  obtain ⟨k, x, d, y, ka, n, kc, ca, m, cc⟩ := e
  simp only at hek
  simp only [El.val]
  go_enter Tryz.func45, Tryz.ntmps45
  go_wp2_with fail
  refine post_tree rfl rfl (Box.at (by simp) _ _) rfl ⟨⟨k, x, d, y, ka, n, kc, ca, m, cc⟩, rfl, H.out.ext (by (repeat (first | exact ext_refl _ | assumption | refine ext_alloc ?_ _ | refine ext_drew ?_ | refine ext_set ?_ (by simp) _ | refine ext_trans ?_ (by assumption)))), by (repeat (first | exact ext_refl _ | assumption | refine ext_alloc ?_ _ | refine ext_drew ?_ | refine ext_set ?_ (by simp) _ | refine ext_trans ?_ (by assumption)))⟩

theorem folded_upto (lw : ByteArray → ByteArray) (N : Nat) : ∀ (S : Nat → Prop) (t : T) (e : El) (w : World), SizeOf.sizeOf t ≤ N → TreeAt S w e t → okF t → (∀ s ∈ opTexts t, LowerAt lw w s) →
    Calls Tryz.prog 45 #[e.val] w fun r w' => ∃ g : El, r = .returned g.val ∧ TreeAt (fun b => (S b ∧ b < w.heap.size) ∨ w.heap.size ≤ b) w' g (foldT lw t) ∧ Ext w w' := by
  induction N with
  | zero => intro S t e w h; cases t; simp at h
  | succ N ih =>
    intro S t e w h ht ho hl
    by_cases hk : t.kind = 5
    · obtain ⟨k, x, d, y, ks, xs⟩ := t
      simp only [T.kind] at hk
      subst hk
      have := folded_map (S := S) lw x d y ks xs e w ht ho (fun s hs => hl s (by simpa only [opTexts, if_pos] using hs)) fun x' hx S e w' h1 h2 h3 => ih S x' e w' (by
        have := List.sizeOf_lt_of_mem hx
        simp at h
        omega) h1 h2 h3
      simpa only [foldT, if_pos] using this
    · rw [foldT_id lw hk]
      exact folded_not t hk e w (ht.to (S' := fun b => (S b ∧ b < w.heap.size) ∨ w.heap.size ≤ b) fun b h1 h2 => .inl ⟨h1, h2⟩)
theorem folded_any {S : Nat → Prop} (lw : ByteArray → ByteArray) (t : T) (e : El) (w : World) (h : TreeAt S w e t) (ho : okF t) (hl : ∀ s ∈ opTexts t, LowerAt lw w s) :
    Calls Tryz.prog 45 #[e.val] w fun r w' => ∃ g : El, r = .returned g.val ∧ TreeAt (fun b => (S b ∧ b < w.heap.size) ∨ w.heap.size ≤ b) w' g (foldT lw t) ∧ Ext w w' :=
  folded_upto lw (SizeOf.sizeOf t) S t e w (Nat.le_refl _) h ho hl
end Go.Proofs.YtfngaoicoecncaaGreatDoor
