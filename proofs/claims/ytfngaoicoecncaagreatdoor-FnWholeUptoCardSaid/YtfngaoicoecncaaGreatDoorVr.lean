/-
  Queries of a field: as they are told (InField, Valued), and as they are read (ReadValued).
-/
import Derived.Test.YtfngaoicoecncaaGreatDoorVw
import Derived.Test.YtfngaoicoecncaaGreatDoorP5
import Derived.Test.YtfngaoicoecncaaGreatDoorTr
namespace Go.Proofs.YtfngaoicoecncaaGreatDoor
open Go.RowKit

set_option maxHeartbeats 1000000 in
theorem infield_any {S : Nat → Prop} (kind field : ByteArray) (a : Option Addr) (n c : Nat) (ps : List (ByteArray × T)) (w : World) (h : PairsAt S w a n c ps) (hb : (n + 3) * 88 ≤ 140737488355328) :
    Calls Tryz.prog 50 #[.string kind, .string field, .slice a n c] w fun r w' => ∃ g : El, r = .returned g.val ∧ TreeAt (fun b => (S b ∧ b < w.heap.size) ∨ w.heap.size ≤ b) w' g (mapT [(kind, mapT [(field, mapT ps)])]) ∧ Ext w w' := by
  have HP := Lib.hid (h.keep (S' := fun b => S b ∧ b < w.heap.size) (fun b h1 h2 => ⟨h1, h2⟩) (fun _ _ _ => rfl))
  clear h
  go_enter Tryz.func50, Tryz.ntmps50
  go_upto_region 1 with fail
  have hx0 : Ext w (w.alloc (.cells (El.arr El0) 26)) := ext_alloc (ext_refl _) _
  have hb0 : Box (w.alloc (.cells (El.arr El0) 26)) w.heap.size (El.arr El0) 26 := Box.at rfl _ _
  have hM1 := Lib.hid (map_any (S := fun b => S b ∧ b < w.heap.size) a n c ps _ (HP.out.ext hx0) hb)
  have hM2 := Lib.hid (fun (w2 : World) (v : Nat) (g : El) (t : T) (hb : Box w2 v #[.string field, .int .i64 g.k, .string g.x, .float .f64 g.d, .bool g.y, .slice g.ka g.n g.kc, .slice g.ca g.m g.cc] 72) (hv : w.heap.size + 1 ≤ v) (ht : TreeAt (fun b => (S b ∧ b < w.heap.size) ∨ w.heap.size + 1 ≤ b) w2 g t) =>
    beside_any (S := fun b => (S b ∧ b < w.heap.size) ∨ w.heap.size + 1 ≤ b) kind (some ⟨v, 0, none⟩) 1 1 [(field, t)] w2 (pairs_one hb (.inr hv) ht) (by decide))
  go_wp2_with (first
    | (go_at_call 42; refine hM1.out.mono ?_; rintro r w2 ⟨g1, rfl, hT1, hx1⟩; simp only [El.val]; clear hM1
       have hT1' : TreeAt (fun b => (S b ∧ b < w.heap.size) ∨ w.heap.size + 1 ≤ b) w2 g1 (mapT ps) := hT1.to fun b h1 _ => by
         rcases h1 with h1 | h1
         · exact .inl h1.1
         · simp at h1
           exact .inr h1
       have hM3 := hM2.out (w2.alloc (.cells #[.string field, .int .i64 g1.k, .string g1.x, .float .f64 g1.d, .bool g1.y, .slice g1.ka g1.n g1.kc, .slice g1.ca g1.m g1.cc] 72)) w2.heap.size g1 (mapT ps) (Box.at rfl _ _) (by have := hx1.sz; simp at this; omega) (hT1'.ext (ext_alloc (ext_refl _) _)))
    | (go_at_call 46; refine hM3.mono ?_; rintro r w3 ⟨g2, rfl, hT2, hx2⟩; simp only [El.val]
       have hb3 := (hb0.ext hx1).ext (ext_trans (ext_alloc (ext_refl _) _) hx2); obtain ⟨o0, o1, o2, o3, o4, o5⟩ := hb3.six; have f0 := hb3.free 0; have f1 := hb3.free 1; have f2 := hb3.free 2; have f3 := hb3.free 3; have f4 := hb3.free 4; have f5 := hb3.free 5))
  have hx3 : Ext w w3 := ext_trans (ext_trans hx0 (ext_trans hx1 (ext_alloc (ext_refl _) _))) hx2
  refine post_tree rfl rfl (hb3.sto g2) rfl ⟨g2, rfl, ?_, ext_sto6 hx3 (Nat.le_refl _) _ _ _ _ _ _⟩
  have hs1 := hx1.sz
  refine TreeAt.keep (S := fun b => (S b ∧ b < w.heap.size) ∨ w.heap.size + 1 ≤ b) (fun b hb _ => ?_) (keeps_sto w3 (by omega) g2) _ (hT2.to fun b h1 _ => ?_)
  · rcases hb with h | h
    · exact .inl h
    · exact .inr (by omega)
  · rcases h1 with h | h
    · exact h.1
    · simp at h hs1
      exact .inr (by omega)

theorem last_filter {f : ByteArray} (l : List (ByteArray × T)) (k : ByteArray) : lastOf (l.filter fun p => !seq p.1 f) k = if k = f then none else lastOf l k := by
  induction l with
  | nil => simp [lastOf]
  | cons p r ih =>
    by_cases hp : p.1 = f
    · rw [List.filter_cons_of_neg (by simp [seq_iff.2 hp]), ih, lastOf_cons]
      by_cases hk : k = f
      · rw [if_pos hk, if_pos hk]
      · rw [if_neg hk, if_neg hk, seq_false.2 (fun e => hk (e.symm.trans hp))]
        simp
    · rw [List.filter_cons_of_pos (by simp [seq_false.2 hp]), lastOf_cons, lastOf_cons, ih]
      by_cases hk : k = f
      · rw [if_pos hk, if_pos hk, seq_false.2 (fun e => hp (e.trans hk))]
        simp
      · rw [if_neg hk, if_neg hk]
theorem mapT_snoc (l : List (ByteArray × T)) (p : ByteArray × T) : mapT (l ++ [p]) = withT (mapT l) p.1 p.2 := by
  unfold mapT
  rw [List.foldl_append]
  rfl
theorem TreeAt.move {S : Nat → Prop} {w a b : World} (x : Ext w a) (y : Ext w b) {e : El} {t : T} (h : TreeAt (fun q => S q ∧ q < w.heap.size) a e t) : TreeAt (fun q => S q ∧ q < w.heap.size) b e t :=
  TreeAt.keep (fun _ h _ => h) (fun q hq _ => (y.block q hq.2).trans (x.block q hq.2).symm) t h
theorem StrsAt.move {S : Nat → Prop} {w a b : World} (x : Ext w a) (y : Ext w b) {p : Option Addr} {n c : Nat} {t : List ByteArray} (h : StrsAt (fun q => S q ∧ q < w.heap.size) a p n c t) : StrsAt (fun q => S q ∧ q < w.heap.size) b p n c t :=
  h.keep (fun _ h _ => h) (fun q hq _ => (y.block q hq.2).trans (x.block q hq.2).symm)
theorem KidsAt.move {S : Nat → Prop} {w a b : World} (x : Ext w a) (y : Ext w b) {p : Option Addr} {n c : Nat} {t : List T} (h : KidsAt (fun q => S q ∧ q < w.heap.size) a p n c t) : KidsAt (fun q => S q ∧ q < w.heap.size) b p n c t :=
  h.keep (fun _ h _ => h) (fun q hq _ => (y.block q hq.2).trans (x.block q hq.2).symm)

set_option maxRecDepth 20000 in
set_option maxHeartbeats 8000000 in
theorem readValued_moreF {S : Nat → Prop} (lw : ByteArray → ByteArray) (kind field main other : ByteArray) (o : T) (A R : List (ByteArray × T)) (e : El) (w : World) (h : TreeAt S w e (mapT [(kind, mapT ((field, o) :: R))])) (hown : FieldOwn main o A) (hoth : lastOf A other = none)
    (hf1 : field ≠ s_name) (hf2 : field ≠ s_boost) (hR : ∀ p ∈ R, p.1 = s_name ∨ p.1 = s_boost) (hks : kind.size ≤ 2147483647) (hfs : field.size ≤ 2147483647) (hA : ∀ p ∈ A ++ R, p.1.size ≤ 2147483647 ∧ okF p.2) (hlen : A.length + R.length ≤ 30000)
    (hlow : ∀ s ∈ opTexts (mapT [(kind, mapT [(field, mapT (A ++ R))])]), LowerAt lw w s) :
    Calls Tryz.prog 12 #[.string kind, .string field, .string main, .string other, e.val] w fun r w' => ∃ g : El, r = .returned g.val ∧ TreeAt (fun b => (S b ∧ b < w.heap.size) ∨ w.heap.size ≤ b) w' g (readV lw kind field (A ++ R)) ∧ Ext w w' := by
  have h := h.to (S' := fun b => S b ∧ b < w.heap.size) (fun b h1 h2 => ⟨h1, h2⟩)
  have hRf : lastOf R field = none := lastOf_none fun i p hp e => by
    rcases hR p (List.mem_of_getElem? hp) with h | h
    · exact hf1 (e.symm.trans h)
    · exact hf2 (e.symm.trans h)
  have hlo : lastOf ((field, o) :: R) field = some o := by rw [lastOf_cons, hRf, seq_self]; rfl
  obtain ⟨l, hm, hRi, hl⟩ := mapT_told ((field, o) :: R)
  have hll : l.length ≤ 30001 := by have := (mapT_len ((field, o) :: R)).1; rw [hm] at this; unfold mapOf at this; simp [T.keys] at this; omega
  have hkl : ∀ p ∈ l, p.1 = field ∨ p.1 = s_name ∨ p.1 = s_boost := fun p hp => by
    rcases List.mem_cons.1 (mem_told hRi hl hp) with h | h
    · exact .inl (by rw [h])
    · exact .inr (hR p h)
  have hfin : mapT (A ++ l.filter fun p => !seq p.1 field) = mapT (A ++ R) := mapT_congr fun k => by
    rw [lastOf_append, lastOf_append, last_filter, hl]
    by_cases hk : k = field
    · rw [if_pos hk, hk, hRf]
    · rw [if_neg hk, lastOf_cons, seq_false.2 (fun e => hk e.symm)]
      simp
  have hokT := readV_okF kind field hks hfs hA (by rw [List.length_append]; omega)
  have hW := fun w' (x : Ext w w') => within_one kind ((field, o) :: R) e w' (h.ext x)
  have HW := Lib.hid hW
  have HM := Lib.hid hm
  have HLL := Lib.hid hll
  have HKL := Lib.hid hkl
  have HFIN := Lib.hid hfin
  have HOKT := Lib.hid hokT
  have HLOW := Lib.hid hlow
  have HLEN := Lib.hid hlen
  have HLO := Lib.hid hlo
  have HOTH := Lib.hid hoth
  have HF1 := Lib.hid hf1
  have HF2 := Lib.hid hf2
  clear h hRf hlo hm hRi hl hll hkl hfin hokT hW hlow hlen hA hR hks hfs hoth hf1 hf2
  obtain ⟨ek, ex, ed, ey, eka, en, ekc, eca, em, ecc⟩ := e
  simp only [El.val] at HW ⊢
  have hx0 : Ext w ((w.alloc (.cells (El.arr ⟨ek, ex, ed, ey, eka, en, ekc, eca, em, ecc⟩) 26)).alloc (.cells (El.arr El0) 26)) := ext_alloc (ext_alloc (ext_refl _) _) _
  have hb2 : Box ((w.alloc (.cells (El.arr ⟨ek, ex, ed, ey, eka, en, ekc, eca, em, ecc⟩) 26)).alloc (.cells (El.arr El0) 26)) (w.heap.size + 1) (El.arr El0) 26 := Box.at (by simp) _ _
  go_enter Tryz.func12, Tryz.ntmps12
  go_upto_region 2 with (go_at_call 40; refine (HW.out _ hx0).mono ?_; rintro r w2 ⟨⟨gk, gx, gd, gy, gka, gn, gkc, gca, gm, gcc⟩, rfl, hT, hx⟩; simp only)
  have hx2 : Ext w2 (w2.alloc (.cells (El.arr ⟨gk, gx, gd, gy, gka, gn, gkc, gca, gm, gcc⟩) 26)) := ext_alloc (ext_refl _) _
  have hb11 : Box (w2.alloc (.cells (El.arr ⟨gk, gx, gd, gy, gka, gn, gkc, gca, gm, gcc⟩) 26)) w2.heap.size (El.arr ⟨gk, gx, gd, gy, gka, gn, gkc, gca, gm, gcc⟩) 26 := Box.at rfl _ _
  have hb112 : w.heap.size + 1 < w2.heap.size := (hb2.ext hx).lt
  have hb2 := (hb2.ext hx).ext hx2
  have hT3 := Lib.hid ((hT.to (S' := fun b => S b ∧ b < w.heap.size) (fun b h1 _ => h1.1)).ext hx2)
  have hx3 := ext_trans hx0 (ext_trans hx hx2)
  clear hT hx0 hx hx2 HW
  generalize w2.alloc (.cells (El.arr ⟨gk, gx, gd, gy, gka, gn, gkc, gca, gm, gcc⟩) 26) = w3 at hb11 hb2 hT3 hx3 ⊢
  generalize w2.heap.size = b11 at hb11 hb112 ⊢
  have hb11l := hb11.lt
  have hAt := at_map ((field, o) :: R) ⟨gk, gx, gd, gy, gka, gn, gkc, gca, gm, gcc⟩ field w3 hT3.out
  rw [HLO.out] at hAt
  simp only [Option.isSome_some, Option.getD_some, El.val] at hAt
  obtain ⟨q0, q1, q2, q3, q4, q5⟩ := hb11.six
  go_upto_region 3 with (go_at_call 41; refine hAt.mono ?_; rintro r w4 ⟨⟨pk, px, pd, py, pka, pn, pkc, pca, pm, pcc⟩, rfl, hTo, hx4⟩; simp only)
  have hx5 : Ext w4 (w4.alloc (.cells (El.arr ⟨pk, px, pd, py, pka, pn, pkc, pca, pm, pcc⟩) 26)) := ext_alloc (ext_refl _) _
  have hb13 : Box (w4.alloc (.cells (El.arr ⟨pk, px, pd, py, pka, pn, pkc, pca, pm, pcc⟩) 26)) w4.heap.size (El.arr ⟨pk, px, pd, py, pka, pn, pkc, pca, pm, pcc⟩) 26 := Box.at rfl _ _
  have hb1311 : b11 < w4.heap.size := (hb11.ext hx4).lt
  have hb11 := (hb11.ext hx4).ext hx5
  have hb2 := (hb2.ext hx4).ext hx5
  have hTo := Lib.hid (hTo.ext hx5)
  have hx6 := ext_trans hx3 (ext_trans hx4 hx5)
  clear hAt hx4 hx5 q0 q1 q2 q3 q4 q5 hb11l
  generalize w4.alloc (.cells (El.arr ⟨pk, px, pd, py, pka, pn, pkc, pca, pm, pcc⟩) 26) = w5 at hb13 hb11 hb2 hTo hx6 ⊢
  generalize w4.heap.size = b13 at hb13 hb1311 ⊢
  have HPK := Lib.hid (show pk = o.kind from hTo.out.parts.1)
  have hb13l := hb13.lt
  obtain ⟨z0, z1, z2, z3, z4, z5⟩ := hb13.six
  go_upto_if 39 with fail
  go_cut [] (fun wc => Ext w wc ∧ Box wc b11 (El.arr ⟨gk, gx, gd, gy, gka, gn, gkc, gca, gm, gcc⟩) 26 ∧ Box wc (w.heap.size + 1) (El.arr El0) 26 ∧ ∃ eo : El, Box wc b13 eo.arr 26 ∧ TreeAt (fun b => (S b ∧ b < w.heap.size) ∨ (w.heap.size + 1 < b ∧ b ≠ b13)) wc eo (mapT A))
  case first =>
    rcases hown with ⟨hk5, rfl⟩ | rfl
    · have hp5 : (pk == 5) = false := by rw [HPK.out]; simpa using hk5
      have hxp : Ext w5 (w5.alloc (.cells #[.string main, .int .i64 pk, .string px, .float .f64 pd, .bool py, .slice pka pn pkc, .slice pca pm pcc] 72)) := ext_alloc (ext_refl _) _
      have hM := map_any (S := fun b => (S b ∧ b < w.heap.size) ∨ (w.heap.size + 1 < b ∧ b ≠ b13)) (some ⟨w5.heap.size, 0, none⟩) 1 1 [(main, o)] (w5.alloc (.cells #[.string main, .int .i64 pk, .string px, .float .f64 pd, .bool py, .slice pka pn pkc, .slice pca pm pcc] 72)) (pairs_one (e := ⟨pk, px, pd, py, pka, pn, pkc, pca, pm, pcc⟩) (Box.at rfl _ _) (.inr ⟨by omega, by omega⟩) ((hTo.out.ext hxp).to fun q h1 _ => .inl h1)) (by decide)
      go_wp2_with (go_at_call 42; refine hM.mono ?_; rintro r w6 ⟨g2, rfl, hT2, hx7⟩; simp only [El.val]; have hbo := (hb13.ext hxp).ext hx7; obtain ⟨o0, o1, o2, o3, o4, o5⟩ := hbo.six; have f0 := hbo.free 0; have f1 := hbo.free 1; have f2 := hbo.free 2; have f3 := hbo.free 3; have f4 := hbo.free 4; have f5 := hbo.free 5)
      go_meet
      case rel =>
        have hx8 := ext_trans hxp hx7
        have hN : ¬ ((fun b => (S b ∧ b < w.heap.size) ∨ (w.heap.size + 1 < b ∧ b ≠ b13)) b13) := by simp; omega
        refine ⟨ext_sto6 (ext_trans hx6 hx8) (by omega) _ _ _ _ _ _, (hb11.ext hx8).sto6' (by omega) _ _ _ _ _ _, (hb2.ext hx8).sto6' (by omega) _ _ _ _ _ _, g2, hbo.sto g2, ?_⟩
        exact TreeAt.keep (fun _ h _ => h) (keeps_sto w6 hN g2) _ (hT2.to fun q h1 _ => by
          rcases h1 with h | h
          · exact h.1
          · simp at h
            exact .inr ⟨by omega, by omega⟩)
    · have hp5 : (pk == 5) = true := by rw [HPK.out, mapT_kind]; rfl
      go_wp2_with fail
      go_meet
      case rel => exact ⟨hx6, hb11, hb2, _, hb13, hTo.out.to fun q h1 _ => .inl h1⟩
  case rest =>
    have hTx := Lib.hid (fun (b : World) (y : Ext w b) => TreeAt.move hx3 y hT3.out)
    clear hb2 hb11 hb13 hTo hx6 hx3 hT3 z0 z1 z2 z3 z4 z5 HPK hown
    obtain ⟨hxc, hb11, hb2, ⟨ok, ox, od, oy, oka, on, okc, oca, om, occ⟩, hb13, hTo⟩ := hcut
    obtain ⟨z0, z1, z2, z3, z4, z5⟩ := hb13.six
    have hAt := at_map A ⟨ok, ox, od, oy, oka, on, okc, oca, om, occ⟩ other wc hTo
    rw [HOTH.out] at hAt
    simp only [Option.isSome_none, Option.getD_none, El.val] at hAt
    have hTo := Lib.hid hTo
    have hb13l := hb13.lt
    go_upto_region 8 with (go_at_call 41; refine hAt.mono ?_; rintro r w6 ⟨⟨vk, vx, vd, vy, vka, vn, vkc, vca, vm, vcc⟩, rfl, -, hx7⟩; simp only)
    have hx8 : Ext wc (w6.alloc (.cells (El.arr ⟨vk, vx, vd, vy, vka, vn, vkc, vca, vm, vcc⟩) 26)) := ext_alloc hx7 _
    have hb11 := hb11.ext hx8
    have hb2 := hb2.ext hx8
    have hb13 := hb13.ext hx8
    have hTo := Lib.hid (hTo.out.ext hx8)
    have hxc := ext_trans hxc hx8
    clear hAt hx7 hx8 z0 z1 z2 z3 z4 z5 HOTH
    generalize w6.alloc (.cells (El.arr ⟨vk, vx, vd, vy, vka, vn, vkc, vca, vm, vcc⟩) 26) = w7 at hb11 hb2 hb13 hTo hxc ⊢
    have hTX0 := hTx.out w7 hxc
    rw [HM.out] at hTX0
    have hk5 := hTX0.parts.2.2.2.2.1
    have hk6 := hTX0.parts.2.2.2.2.2
    have hgn : l.length = gn := by have := hk5.1; unfold mapOf at this; simpa [T.keys] using this
    have hgm : l.length = gm := by have := hk6.1; unfold mapOf at this; simpa [T.kids] using this
    obtain rfl : gn = gm := hgn.symm.trans hgm
    have hkc := hk5.2.1
    have hkm := hk5.2.2.1
    have hcc := hk6.2.1
    have hcm := hk6.2.2.1
    unfold maxLen at hkm hcm
    have HN := Lib.hid hgn
    have H5 := Lib.hid (fun (b : World) (y : Ext w b) => StrsAt.move hxc y hk5)
    have H6 := Lib.hid (fun (b : World) (y : Ext w b) => KidsAt.move hxc y hk6)
    clear hTX0 hk5 hk6 hgn hgm hTx
    go_wp2_with fail
    go_loopw [17] (fun i wr => Ext w wr ∧ Box wr b11 (El.arr ⟨gk, gx, gd, gy, gka, gn, gkc, gca, gn, gcc⟩) 26 ∧ Box wr (w.heap.size + 1) (El.arr El0) 26 ∧ ∃ (j : Nat) (eo : El), j ≤ gn ∧ i = .int .i64 j ∧ Box wr b13 eo.arr 26 ∧ TreeAt (fun b => (S b ∧ b < w.heap.size) ∨ (w.heap.size + 1 < b ∧ b ≠ b13)) wr eo (mapT (A ++ (l.take j).filter fun p => !seq p.1 field))) (fun i _ => gn - (intOf i).toNat)
    case atStart => exact ⟨hxc, hb11, hb2, 0, _, Nat.zero_le _, rfl, hb13, by simpa using hTo.out⟩
    case round =>
      clear hb11 hb2 hb13 hTo hxc
      obtain ⟨hx, hb11, hb2, j, eo, hj, rfl, hb13, hTo⟩ := hrel
      obtain ⟨q0, q1, q2, q3, q4, q5⟩ := hb11.six
      have hTo := Lib.hid hTo
      have hb13l := hb13.lt
      have hxx := hx.sz
      by_cases hlt : j < gn
      · obtain ⟨p, hp⟩ := some_of_lt HN.out hlt
        obtain ⟨hp1, hp2⟩ := mapOf_keys l j p hp
        obtain ⟨b, off, rfl, hSb, hcc⟩ := (H5.out wr hx).2.2.2 j p.1 hp1
        obtain ⟨b2, off2, g, rfl, hSb2, hc6, hTk⟩ := (H6.out wr hx).get hp2
        have hkp := HKL.out p (List.mem_of_getElem? hp)
        have HP := Lib.hid hp
        have HTk := Lib.hid hTk
        clear hp hp1 hp2 hTk
        obtain ⟨kk, kx, kd, ky, kka, kn, kkc, kca, km, kcc⟩ := g
        by_cases hpf : p.1 = field
        · have e1 : (p.1.toList == [95, 110, 97, 109, 101]) = false := by
            have h9 : seq p.1 s_name = false := seq_false.2 (by rw [hpf]; exact HF1.out)
            rw [seq, show s_name.toList = [95, 110, 97, 109, 101] by rw [Lib.toList_data]] at h9
            exact h9
          have e2 : (p.1.toList == [98, 111, 111, 115, 116]) = false := by
            have h9 : seq p.1 s_boost = false := seq_false.2 (by rw [hpf]; exact HF2.out)
            rw [seq, show s_boost.toList = [98, 111, 111, 115, 116] by rw [Lib.toList_data]] at h9
            exact h9
          have e3 : (p.1.toList == field.toList) = true := seq_iff.2 hpf
          have HPF := Lib.hid hpf
          clear hpf hkp
          go_wp2_with fail
          go_roundw
          case rel => exact ⟨hx, hb11, hb2, j + 1, eo, by omega, by go_num, hb13, by
            rw [show (l.take (j + 1)).filter (fun p => !seq p.1 field) = (l.take j).filter (fun p => !seq p.1 field) by rw [List.take_add_one, HP.out, List.filter_append]; simp [seq_iff.2 HPF.out]]
            exact hTo.out⟩
          case measure => simp [intOf]; omega
        · have hkp := hkp.resolve_left hpf
          cases e1 : p.1.toList == [95, 110, 97, 109, 101]
          · have e2 : (p.1.toList == [98, 111, 111, 115, 116]) = true := by
              rcases hkp with h | h
              · have h9 : seq p.1 s_name = true := seq_iff.2 h
                rw [seq, show s_name.toList = [95, 110, 97, 109, 101] by rw [Lib.toList_data], e1] at h9
                cases h9
              · have h9 : seq p.1 s_boost = true := seq_iff.2 h
                rw [seq, show s_boost.toList = [98, 111, 111, 115, 116] by rw [Lib.toList_data]] at h9
                exact h9
            have hHD := Lib.hid hcc
            go_upto_region 14 with fail
            have hS : Six wr.drew b13 eo ∧ Six wr.drew b11 ⟨gk, gx, gd, gy, some ⟨b, off, none⟩, gn, gkc, some ⟨b2, off2, none⟩, gn, gcc⟩ ∧ CellsAt wr.drew b2 (off2 + j * 6) ⟨kk, kx, kd, ky, kka, kn, kkc, kca, km, kcc⟩ ∧ wr.drew.cell? ⟨b, off + j, none⟩ = some (.string p.1) := ⟨hb13.Six, hb11.Six, hc6, hcc⟩
            refine wp_region_order (fun w' => Six w' b13 eo ∧ Six w' b11 ⟨gk, gx, gd, gy, some ⟨b, off, none⟩, gn, gkc, some ⟨b2, off2, none⟩, gn, gcc⟩ ∧ CellsAt w' b2 (off2 + j * 6) ⟨kk, kx, kd, ky, kka, kn, kkc, kca, km, kcc⟩ ∧ w'.cell? ⟨b, off + j, none⟩ = some (.string p.1)) [0, 1, 2, 3, 4, 5, 6, 7, 8, 9, 10] [0, 1, 2, 3, 4, 5, 6, 7, 8, 9, 10, 11, 12] (by kernel_rfl) (by kernel_rfl) (fun d _ _ _ _ h => by cases d <;> exact h) (by kernel_rfl) ?_
            iterate 11 (apply ord_held rfl rfl (by assumption) rfl; (focus ((intro w' hS'); go_simp; (try with_reducible rfl))); (try simp only [Act.put, List.setIfInBounds_toArray, List.set_cons_zero, List.set_cons_succ]))
            (apply ord_loud rfl rfl rfl; intro K hK; go_simp)
            have hlen2 := mapT_len (A ++ (l.take j).filter fun p => !seq p.1 field)
            have hj2 : ((l.take j).filter fun p => !seq p.1 field).length ≤ j := Nat.le_trans (List.length_filter_le _ _) (List.length_take_le _ _)
            rw [List.length_append] at hlen2
            have hgl := HLL.out
            have hgn2 := HN.out
            have hAl := HLEN.out
            refine (with_any (S := fun b => (S b ∧ b < w.heap.size) ∨ (w.heap.size + 1 < b ∧ b ≠ b13)) eo (mapT (A ++ (l.take j).filter fun p => !seq p.1 field)) p.1 ⟨kk, kx, kd, ky, kka, kn, kkc, kca, km, kcc⟩ p.2 _ (hTo.out.ext (ext_drew (ext_refl _))) ((HTk.out.to (fun b h1 _ => .inl h1)).ext (ext_drew (ext_refl _))) (by omega) (by omega) (by omega)).mono ?_
            rintro r w8 ⟨e2, rfl, hT2, hx2⟩
            have hx3 : Ext wr w8 := ext_trans (ext_drew (ext_refl _)) hx2
            refine hK _ _ (fun _ => ⟨Six.ext hx2 hS.1, Six.ext hx2 hS.2.1, CellsAt.ext hx2 hS.2.2.1, hx2.cell hS.2.2.2⟩) ?_
            clear hK K hS
            simp only [El.val]
            (try simp only [Act.put, List.setIfInBounds_toArray, List.set_cons_zero, List.set_cons_succ])
            have hb93 := hb13.ext hx3
            obtain ⟨z0, z1, z2, z3, z4, z5⟩ := hb93.six
            have f0 := hb93.free 0
            have f1 := hb93.free 1
            have f2 := hb93.free 2
            have f3 := hb93.free 3
            have f4 := hb93.free 4
            have f5 := hb93.free 5
            (apply ord_last rfl rfl rfl (by kernel_rfl); intro K hK; go_simp; refine hK _ _ ?_; clear hK K; (try simp only [Act.put, List.setIfInBounds_toArray, List.set_cons_zero, List.set_cons_succ]))
            refine ord_end ?_
            have hN : ¬ ((fun b => (S b ∧ b < w.heap.size) ∨ (w.heap.size + 1 < b ∧ b ≠ b13)) b13) := by simp; omega
            have hT3 := Lib.hid (TreeAt.keep (S' := fun b => (S b ∧ b < w.heap.size) ∨ (w.heap.size + 1 < b ∧ b ≠ b13)) (fun _ h _ => h) (keeps_sto w8 hN e2) _ (hT2.to (fun q h _ => by
              rcases h with h | h
              · exact h
              · exact .inr ⟨by simp at h; omega, by simp at h; omega⟩)))
            clear hT2
            go_wp2_with fail
            go_roundw
            case rel => exact ⟨ext_sto6 (ext_trans hx hx3) (by omega) _ _ _ _ _ _, (hb11.ext hx3).sto6' (by omega) _ _ _ _ _ _, (hb2.ext hx3).sto6' (by omega) _ _ _ _ _ _, j + 1, e2, by omega, by go_num, hb93.sto e2, by
              rw [show (l.take (j + 1)).filter (fun p => !seq p.1 field) = (l.take j).filter (fun p => !seq p.1 field) ++ [p] by rw [List.take_add_one, HP.out, List.filter_append]; simp [seq_false.2 hpf], ← List.append_assoc, mapT_snoc]
              exact hT3.out⟩
            case measure => simp [intOf]; omega
          · skip
            have hHD := Lib.hid hcc
            go_upto_region 14 with fail
            have hS : Six wr.drew b13 eo ∧ Six wr.drew b11 ⟨gk, gx, gd, gy, some ⟨b, off, none⟩, gn, gkc, some ⟨b2, off2, none⟩, gn, gcc⟩ ∧ CellsAt wr.drew b2 (off2 + j * 6) ⟨kk, kx, kd, ky, kka, kn, kkc, kca, km, kcc⟩ ∧ wr.drew.cell? ⟨b, off + j, none⟩ = some (.string p.1) := ⟨hb13.Six, hb11.Six, hc6, hcc⟩
            refine wp_region_order (fun w' => Six w' b13 eo ∧ Six w' b11 ⟨gk, gx, gd, gy, some ⟨b, off, none⟩, gn, gkc, some ⟨b2, off2, none⟩, gn, gcc⟩ ∧ CellsAt w' b2 (off2 + j * 6) ⟨kk, kx, kd, ky, kka, kn, kkc, kca, km, kcc⟩ ∧ w'.cell? ⟨b, off + j, none⟩ = some (.string p.1)) [0, 1, 2, 3, 4, 5, 6, 7, 8, 9, 10] [0, 1, 2, 3, 4, 5, 6, 7, 8, 9, 10, 11, 12] (by kernel_rfl) (by kernel_rfl) (fun d _ _ _ _ h => by cases d <;> exact h) (by kernel_rfl) ?_
            iterate 11 (apply ord_held rfl rfl (by assumption) rfl; (focus ((intro w' hS'); go_simp; (try with_reducible rfl))); (try simp only [Act.put, List.setIfInBounds_toArray, List.set_cons_zero, List.set_cons_succ]))
            (apply ord_loud rfl rfl rfl; intro K hK; go_simp)
            have hlen2 := mapT_len (A ++ (l.take j).filter fun p => !seq p.1 field)
            have hj2 : ((l.take j).filter fun p => !seq p.1 field).length ≤ j := Nat.le_trans (List.length_filter_le _ _) (List.length_take_le _ _)
            rw [List.length_append] at hlen2
            have hgl := HLL.out
            have hgn2 := HN.out
            have hAl := HLEN.out
            refine (with_any (S := fun b => (S b ∧ b < w.heap.size) ∨ (w.heap.size + 1 < b ∧ b ≠ b13)) eo (mapT (A ++ (l.take j).filter fun p => !seq p.1 field)) p.1 ⟨kk, kx, kd, ky, kka, kn, kkc, kca, km, kcc⟩ p.2 _ (hTo.out.ext (ext_drew (ext_refl _))) ((HTk.out.to (fun b h1 _ => .inl h1)).ext (ext_drew (ext_refl _))) (by omega) (by omega) (by omega)).mono ?_
            rintro r w8 ⟨e2, rfl, hT2, hx2⟩
            have hx3 : Ext wr w8 := ext_trans (ext_drew (ext_refl _)) hx2
            refine hK _ _ (fun _ => ⟨Six.ext hx2 hS.1, Six.ext hx2 hS.2.1, CellsAt.ext hx2 hS.2.2.1, hx2.cell hS.2.2.2⟩) ?_
            clear hK K hS
            simp only [El.val]
            (try simp only [Act.put, List.setIfInBounds_toArray, List.set_cons_zero, List.set_cons_succ])
            have hb93 := hb13.ext hx3
            obtain ⟨z0, z1, z2, z3, z4, z5⟩ := hb93.six
            have f0 := hb93.free 0
            have f1 := hb93.free 1
            have f2 := hb93.free 2
            have f3 := hb93.free 3
            have f4 := hb93.free 4
            have f5 := hb93.free 5
            (apply ord_last rfl rfl rfl (by kernel_rfl); intro K hK; go_simp; refine hK _ _ ?_; clear hK K; (try simp only [Act.put, List.setIfInBounds_toArray, List.set_cons_zero, List.set_cons_succ]))
            refine ord_end ?_
            have hN : ¬ ((fun b => (S b ∧ b < w.heap.size) ∨ (w.heap.size + 1 < b ∧ b ≠ b13)) b13) := by simp; omega
            have hT3 := Lib.hid (TreeAt.keep (S' := fun b => (S b ∧ b < w.heap.size) ∨ (w.heap.size + 1 < b ∧ b ≠ b13)) (fun _ h _ => h) (keeps_sto w8 hN e2) _ (hT2.to (fun q h _ => by
              rcases h with h | h
              · exact h
              · exact .inr ⟨by simp at h; omega, by simp at h; omega⟩)))
            clear hT2
            go_wp2_with fail
            go_roundw
            case rel => exact ⟨ext_sto6 (ext_trans hx hx3) (by omega) _ _ _ _ _ _, (hb11.ext hx3).sto6' (by omega) _ _ _ _ _ _, (hb2.ext hx3).sto6' (by omega) _ _ _ _ _ _, j + 1, e2, by omega, by go_num, hb93.sto e2, by
              rw [show (l.take (j + 1)).filter (fun p => !seq p.1 field) = (l.take j).filter (fun p => !seq p.1 field) ++ [p] by rw [List.take_add_one, HP.out, List.filter_append]; simp [seq_false.2 hpf], ← List.append_assoc, mapT_snoc]
              exact hT3.out⟩
            case measure => simp [intOf]; omega
      · have hjn : j = gn := by omega
        have hft : mapT (A ++ (l.take j).filter fun p => !seq p.1 field) = mapT (A ++ R) := by
          rw [List.take_of_length_le (by have := HN.out; omega)]
          exact HFIN.out
        rw [hft] at hTo
        obtain ⟨ok, ox, od, oy, oka, on, okc, oca, om, occ⟩ := eo
        obtain ⟨z0, z1, z2, z3, z4, z5⟩ := hb13.six
        have hxp : Ext wr (wr.alloc (.cells #[.string field, .int .i64 ok, .string ox, .float .f64 od, .bool oy, .slice oka on okc, .slice oca om occ] 72)) := ext_alloc (ext_refl _) _
        have hB := beside_any (S := fun b => (S b ∧ b < w.heap.size) ∨ (w.heap.size + 1 < b ∧ b ≠ b13)) kind (some ⟨wr.heap.size, 0, none⟩) 1 1 [(field, mapT (A ++ R))] (wr.alloc (.cells #[.string field, .int .i64 ok, .string ox, .float .f64 od, .bool oy, .slice oka on okc, .slice oca om occ] 72)) (pairs_one (e := ⟨ok, ox, od, oy, oka, on, okc, oca, om, occ⟩) (Box.at rfl _ _) (.inr ⟨by omega, by omega⟩) (hTo.out.ext hxp)) (by decide)
        go_wp2_with (first
          | (go_at_call 46; refine hB.mono ?_; rintro r w8 ⟨g2, rfl, hT2, hx9⟩; simp only [El.val]
             have hF := folded_any (S := fun b => (S b ∧ b < w.heap.size) ∨ w.heap.size + 1 < b) lw (mapT [(kind, mapT [(field, mapT (A ++ R))])]) g2 w8 (hT2.to fun q h1 _ => by
               rcases h1 with h | h
               · rcases h.1 with h | h
                 · exact .inl h
                 · exact .inr h.1
               · simp at h
                 exact .inr (by omega)) HOKT.out (fun s hs => (HLOW.out s hs).ext (ext_trans hx (ext_trans hxp hx9)))
             simp only [El.val] at hF)
          | (go_at_call 45; refine hF.mono ?_; rintro r w9 ⟨g3, rfl, hT3, hx10⟩; try simp only
             have hbr := ((hb2.ext hxp).ext hx9).ext hx10; obtain ⟨o0, o1, o2, o3, o4, o5⟩ := hbr.six; have f0 := hbr.free 0; have f1 := hbr.free 1; have f2 := hbr.free 2; have f3 := hbr.free 3; have f4 := hbr.free 4; have f5 := hbr.free 5)
          | fail)
        have hx11 := ext_trans hx (ext_trans (ext_trans hxp hx9) hx10)
        have hs8 := (ext_trans hxp hx9).sz
        refine post_tree rfl rfl (hbr.sto g3) rfl ⟨g3, rfl, ?_, ext_sto6 hx11 (by omega) _ _ _ _ _ _⟩
        refine TreeAt.keep (S := fun b => (S b ∧ b < w.heap.size) ∨ w.heap.size + 1 < b) (fun q h _ => by
          rcases h with h | h
          · exact .inl h
          · exact .inr (by omega)) (keeps_sto w9 (by omega) g3) _ (hT3.to fun q h1 _ => ?_)
        rcases h1 with h | h
        · exact h.1
        · exact .inr (by omega)
theorem readValued_more {S : Nat → Prop} (lw : ByteArray → ByteArray) (kind field main other : ByteArray) (o : T) (A R : List (ByteArray × T)) (e : El) (w : World) (h : TreeAt S w e (mapT [(kind, mapT ((field, o) :: R))])) (hown : FieldOwn main o A) (hoth : lastOf A other = none)
    (hf1 : field ≠ s_name) (hf2 : field ≠ s_boost) (hR : ∀ p ∈ R, p.1 = s_name ∨ p.1 = s_boost) (hks : kind.size ≤ 2147483647) (hfs : field.size ≤ 2147483647) (hA : ∀ p ∈ A ++ R, p.1.size ≤ 2147483647 ∧ p.2.kind ≠ 5) (hlen : A.length + R.length ≤ 30000)
    (hlow : ∀ s ∈ opTexts (mapT [(kind, mapT [(field, mapT (A ++ R))])]), LowerAt lw w s) :
    Calls Tryz.prog 12 #[.string kind, .string field, .string main, .string other, e.val] w fun r w' => ∃ g : El, r = .returned g.val ∧ TreeAt (fun b => (S b ∧ b < w.heap.size) ∨ w.heap.size ≤ b) w' g (readV lw kind field (A ++ R)) ∧ Ext w w' :=
  readValued_moreF lw kind field main other o A R e w h hown hoth hf1 hf2 hR hks hfs (fun p hp => ⟨(hA p hp).1, okF_id (hA p hp).2⟩) hlen hlow
theorem readValued_anyF {S : Nat → Prop} (lw : ByteArray → ByteArray) (kind field main other : ByteArray) (o : T) (A : List (ByteArray × T)) (e : El) (w : World) (h : TreeAt S w e (mapT [(kind, mapT [(field, o)])])) (hown : FieldOwn main o A) (hoth : lastOf A other = none)
    (hf1 : field ≠ s_name) (hf2 : field ≠ s_boost) (hks : kind.size ≤ 2147483647) (hfs : field.size ≤ 2147483647) (hA : ∀ p ∈ A, p.1.size ≤ 2147483647 ∧ okF p.2) (hlen : A.length ≤ 30000)
    (hlow : ∀ s ∈ opTexts (mapT [(kind, mapT [(field, mapT A)])]), LowerAt lw w s) :
    Calls Tryz.prog 12 #[.string kind, .string field, .string main, .string other, e.val] w fun r w' => ∃ g : El, r = .returned g.val ∧ TreeAt (fun _ => True) w' g (readV lw kind field A) ∧ Ext w w' := by
  have := readValued_moreF lw kind field main other o A [] e w h hown hoth hf1 hf2 (fun p hp => by simp at hp) hks hfs (by simpa using hA) (by simpa using hlen) (by simpa using hlow)
  refine this.mono ?_
  rintro r w' ⟨g, h1, h2, h3⟩
  rw [List.append_nil] at h2
  exact ⟨g, h1, h2.any, h3⟩
theorem readValued_any {S : Nat → Prop} (lw : ByteArray → ByteArray) (kind field main other : ByteArray) (o : T) (A : List (ByteArray × T)) (e : El) (w : World) (h : TreeAt S w e (mapT [(kind, mapT [(field, o)])])) (hown : FieldOwn main o A) (hoth : lastOf A other = none)
    (hf1 : field ≠ s_name) (hf2 : field ≠ s_boost) (hks : kind.size ≤ 2147483647) (hfs : field.size ≤ 2147483647) (hA : ∀ p ∈ A, p.1.size ≤ 2147483647 ∧ p.2.kind ≠ 5) (hlen : A.length ≤ 30000)
    (hlow : ∀ s ∈ opTexts (mapT [(kind, mapT [(field, mapT A)])]), LowerAt lw w s) :
    Calls Tryz.prog 12 #[.string kind, .string field, .string main, .string other, e.val] w fun r w' => ∃ g : El, r = .returned g.val ∧ TreeAt (fun _ => True) w' g (readV lw kind field A) ∧ Ext w w' := by
  have := readValued_more lw kind field main other o A [] e w h hown hoth hf1 hf2 (fun p hp => by simp at hp) hks hfs (by simpa using hA) (by simpa using hlen) (by simpa using hlow)
  refine this.mono ?_
  rintro r w' ⟨g, h1, h2, h3⟩
  rw [List.append_nil] at h2
  exact ⟨g, h1, h2.any, h3⟩
end Go.Proofs.YtfngaoicoecncaaGreatDoor
