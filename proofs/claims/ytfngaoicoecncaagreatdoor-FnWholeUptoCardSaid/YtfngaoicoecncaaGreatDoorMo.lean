/-
  A map handed over becomes a tree: the walk.
-/
import Derived.Test.YtfngaoicoecncaaGreatDoorMt
import Derived.Test.YtfngaoicoecncaaGreatDoorShelf
namespace Go.Proofs.YtfngaoicoecncaaGreatDoor
open Go.RowKit Go.Maps Go.Sort

theorem keyInv (key : Value) (kl : Lit) (h : keyOf Tryz.prog 9 key = some kl) : ∃ x, key = encStr x := by
  obtain ⟨x, hx, _⟩ := Maps.keyOf_str Tryz.underlying9 h
  exact ⟨x, hx⟩
theorem size_le {w : World} {b n : Nat} {D : DataW Value} (h : w.ownsMap Tryz.prog 9 hR b n D) : Maps.size D ≤ n := by
  obtain ⟨es, clock, _, _, hs, rfl⟩ := h
  show (List.foldr DataW.insert [] _).length ≤ n
  rw [length_sorted]
  simpa using hs

set_option maxHeartbeats 4000000 in
theorem mapAny {S : Nat → Prop} (ks : List ByteArray) (js : List J) (hT : ∀ j ∈ js, Told j) (b : Nat) (vs : List Value) (w : World) (hbb : ks.length ≤ 4294967296) (hl : ks.length = js.length) (hM : MapAt w b (ks.zip vs)) (hJ : JsAt S w vs js) :
    Calls Tryz.prog 103 #[.map (some b)] w fun r w' => ∃ g : El, r = .returned g.val ∧ TreeAt (fun b => w.heap.size ≤ b) w' g (mapT (ks.zip (treesJ js))) ∧ Ext w w' := by
  have HM := Lib.hid hM
  have HJ := Lib.hid hJ
  have HL := Lib.hid hl
  clear hJ hl
  obtain ⟨D, n, hown, hn, ha, hz, hks⟩ := hM
  have hn : n ≤ 4294967296 := by rw [List.length_zip] at hn; omega
  have hsz := size_le hown
  have HA := Lib.hid ha
  have HZ := Lib.hid hz
  have hblt := hown.lt
  clear ha hz
  have hown2 := hown.kept (grown_of_ext (ext_alloc (ext_alloc (ext_refl w) (.cells #[.int .i64 0, .string ⟨#[]⟩, .float .f64 0, .bool false, .slice none 0 0, .slice none 0 0] 26)) (.cells #[.int .i64 5, .string ⟨#[]⟩, .float .f64 0, .bool false, .slice none 0 0, .slice none 0 0] 26)) none) (by simp)
  go_enter Tryz.func103, Tryz.ntmps103
  go_wp2_with (first
    | (at_range; refine wpList_range_own _ rfl _ 109 rfl 9 20 lawK Tryz.underlying109 hR b n D rfl hown2 ?_; intro w0 hrg0 hg0 hs0)
    | fail)
  go_frame
  simp only [World.size_alloc] at hrg0 hs0 ⊢
  have hx0 : Ext w w0 := ext_grown (w0 := w) (by (repeat (first | exact ext_refl _ | assumption | refine ext_alloc ?_ _ | refine ext_drew ?_ | refine ext_set ?_ (by simp) _ | refine ext_trans ?_ (by assumption)))) hg0 (fun k h => by cases h)
  have hb0 : Box w0 w.heap.size (El.arr ⟨0, ⟨#[]⟩, 0, false, none, 0, 0, none, 0, 0⟩) 26 := ((Box.at rfl _ _).alloc _).grown hg0 (by simp)
  have M0 : Making w0 (w.heap.size + 3) (w.heap.size + 1) 5 [] [] none 0 0 none 0 0 := ⟨(Box.at (by simp) _ _).grown hg0 (by simp), World.ownsRow_nil _ _ _ _, World.ownsRow_nil _ _ _ _, by omega, fun _ h => by cases h⟩
  have HRG := Lib.hid hrg0
  clear hg0 hown2 hs0 hrg0
  go_loopw [] (fun wr => Ext w wr ∧ Box wr w.heap.size (El.arr ⟨0, ⟨#[]⟩, 0, false, none, 0, 0, none, 0, 0⟩) 26 ∧ ∃ (left : Lit → Bool) (cnt : Nat) (ss : List (List UInt8)) (ka : Option Addr) (kn kc : Nat), wr.ranges Tryz.prog 9 hR b (w.heap.size + 1 + 1) n D left cnt ∧ ss.length + cnt ≤ n ∧
    Making wr (w.heap.size + 3) (w.heap.size + 1) 5 (ss.map mkB) [] ka kn kc none 0 0 ∧ Collected D left ss) (fun wr => wr.rangeLeft b (w.heap.size + 1 + 1))
  case atStart => exact ⟨hx0, hb0, _, _, [], none, 0, 0, HRG.out, by simpa using hsz, M0, Collected.start D⟩
  case round =>
    obtain ⟨hx, hb1, left, cnt, ss, ka, kn, kc, hrg, hcs, M, hC⟩ := hrel
    have HC := Lib.hid hC
    clear hC M0 hb0 hx0
    go_wp2_with (first
      | (at_next; refine wpList_next_ranges _ rfl _ rfl 9 lawK hR encStr id keyInv (fun v _ _ => ⟨v, rfl⟩) b (w.heap.size + 1 + 1) n D _ _ rfl hrg ?_ ?_)
      | fail)
    · intro hc0 hl0
      have hMw : MapAt wr b (ks.zip vs) := HM.out.ext hx
      have hKR : ((ss.mergeSort leB).map mkB).Pairwise lt := sorted_rising HC.out.1
      have hKm : ∀ k, k ∈ (ss.mergeSort leB).map mkB ↔ (lastOf (ks.zip (treesJ js)) k).isSome = true := fun k => by
        rw [zip_some ks (treesJ js) vs (by rw [treesJ_len]; exact HJ.out.len.symm) k]
        have h1 : k ∈ (ss.mergeSort leB).map mkB ↔ k.data.toList ∈ ss := by
          rw [List.mem_map]
          constructor
          · rintro ⟨x, hx, rfl⟩
            rw [mkB_data]
            exact (List.mergeSort_perm ss leB).mem_iff.1 hx
          · intro h
            exact ⟨_, (List.mergeSort_perm ss leB).mem_iff.2 h, by simp [mkB]⟩
        rw [h1, HC.out.2, hl0]
        cases hv : lastOf (ks.zip vs) k with
        | none => simp [HZ.out k hv]
        | some u => simp [has_true_of_atKey (HA.out k u hv)]
      have hrl := hrg.lt
      have hsort : Calls Tryz.prog 109 #[.slice ka kn kc] wr fun r w' => r = .returned (.tuple #[]) ∧ w.heap.size + 3 ≤ w'.heap.size ∧ Ext w w' ∧ Box w' w.heap.size (El.arr ⟨0, ⟨#[]⟩, 0, false, none, 0, 0, none, 0, 0⟩) 26 ∧ MapAt w' b (ks.zip vs) ∧
          Making w' (w.heap.size + 3) (w.heap.size + 1) 5 ((ss.mergeSort leB).map mkB) [] ka kn kc none 0 0 := by
        have hlen : ((ss.mergeSort leB).map mkB).length = ss.length := by simp
        have hkeys := M.keys
        rcases hkeys.2 with ⟨hnil, h0⟩ | ⟨g, cap, cur, hv, hbase, hb, h1, h2, h3, h4⟩
        · cases hnil
          refine (sort_nil wr).mono ?_
          rintro r w' ⟨rfl, rfl⟩
          have hss : ss = [] := List.length_eq_zero_iff.1 (by simpa using h0)
          subst hss
          exact ⟨rfl, by omega, hx, hb1, hMw, by simpa using M⟩
        · have e1 : (ss.map mkB).map Value.string = ss.map encStr := by rw [List.map_map]; rfl
          have e2 : ((ss.mergeSort leB).map mkB).map Value.string = (ss.mergeSort leB).map encStr := by rw [List.map_map]; rfl
          rw [e1] at h4
          simp only [List.length_map, Nat.mul_one] at hv h1 h4
          cases hv
          have hH : Holds encStr wr g 0 ss.toArray := holds_of_block hb h4
          have hg : g < wr.heap.size := (Array.getElem?_eq_some_iff.1 hb).1
          refine (Tryz.slices_Sort_string g 0 kc ss wr hH hg (by omega)).mono ?_
          rintro r w' ⟨rfl, nn, os, rfl⟩
          have hgr := grownBy_sorted (w := wr) (g := g) (n := nn) (os := os) ((ss.mergeSort leB).toArray)
          refine ⟨rfl, Nat.le_trans (show w.heap.size + 3 ≤ wr.heap.size by omega) hgr.size, ext_grown hx hgr (fun k hk => by injection hk with hk; omega), hb1.grown hgr (fun e => by injection e with e; omega), hMw.grown hgr (fun e => by injection e with e; omega), ⟨M.box.grown hgr (fun e => by injection e with e; omega), ?_, World.ownsRow_nil _ _ _ _, M.low, fun _ _ e => by cases e⟩⟩
          have := ownsRow_sorted (n := nn) (os := os) (ss := ss) (ts := ss.mergeSort leB) (by simp) hbase hb h1 h2 h3
          unfold OwnStrs
          rw [hlen, e2]
          exact this
      obtain ⟨-, -, -, -, o4, o5⟩ := M.box.six
      clear hMw M hrg hb1 hx
      generalize hKd : (ss.mergeSort leB).map mkB = K at hKR hKm hsort
      have hKl : K.length ≤ 4294967296 := by rw [← hKd]; simp; omega
      clear hKd
      have HKm := Lib.hid hKm
      have HKR := Lib.hid hKR
      clear hKm hKR
      go_wp2_with (go_at_call 109; refine hsort.mono ?_; rintro r w3 ⟨rfl, hw3, hx, hb1, hMw, M⟩; clear o4 o5; obtain ⟨-, -, -, -, o4, o5⟩ := M.box.six)
      have hkl := M.keys
      obtain ⟨kaa, kcc, hke, hkS⟩ := M.keys.strs (S := fun _ => True) (fun _ _ => trivial)
      simp only [Value.slice.injEq] at hke
      obtain ⟨rfl, rfl, rfl⟩ := hke
      clear hsort hown hn hsz
      have hkc := hkS.2.1
      have hkm := hkS.2.2.1
      unfold maxLen at hkm
      clear hkS hkl
      generalize hKT : (K.map fun k => (lastOf (ks.zip (treesJ js)) k).getD nullT) = KT
      have HKT := Lib.hid hKT
      clear hKT
      go_loopw [26] (fun i wr => Ext w wr ∧ w.heap.size + 3 ≤ wr.heap.size ∧ Box wr w.heap.size (El.arr ⟨0, ⟨#[]⟩, 0, false, none, 0, 0, none, 0, 0⟩) 26 ∧ ∃ (j : Nat) (es : List El) (ca : Option Addr) (cn cc : Nat), j ≤ K.length ∧ i = .int .i64 j ∧ es.length = j ∧
        Making wr (w.heap.size + 3) (w.heap.size + 1) 5 K es ka K.length kc ca cn cc ∧ Kin wr (w.heap.size + 3) (.slice ca cn cc) es (KT.take j)) (fun i _ => K.length - (intOf i).toNat)
      case atStart => exact ⟨hx, hw3, hb1, 0, [], none, 0, 0, Nat.zero_le _, rfl, rfl, M, Kin.nil _ _ _⟩
      case round =>
        obtain ⟨hx, hwr, hb1, j, es, ca, cn, cc, hj, rfl, hes, M, HK⟩ := hrel
        have HES := Lib.hid hes
        have HK := Lib.hid HK
        clear hes
        by_cases hlt : j < K.length
        · obtain ⟨k, hk⟩ := some_of_lt (l := K) rfl hlt
          obtain ⟨ka2, kc2, hke, hkS⟩ := M.keys.strs (S := fun _ => True) (fun _ _ => trivial)
          simp only [Value.slice.injEq] at hke
          obtain ⟨rfl, -, rfl⟩ := hke
          obtain ⟨g, off, rfl, -, hcell⟩ := hkS.2.2.2 j k hk
          clear hkS
          obtain ⟨t, ht⟩ := Option.isSome_iff_exists.1 ((HKm.out k).1 (List.mem_of_getElem? hk))
          obtain ⟨u, q, hu, hq, hqt, hqJ⟩ := zip_last HJ.out ht
          have hKj : KT[j]? = some t := by rw [← HKT.out, List.getElem?_map, hk]; simp [ht]
          have HKJ := Lib.hid hKj
          have HQJ := Lib.hid hqJ
          have HQT := Lib.hid hqt
          have hMr : MapAt wr b (ks.zip vs) := HM.out.ext hx
          have hlook : (Instr.lookup 109 (.map (some b)) (.string k) false).run Tryz.prog wr.drew = .ok u wr.drew := hMr.drew.lookup Tryz.underlying109 (z := .nilIface) (by simp [go_sem]) hu
          clear ht hk hqJ hKj hqt hMr
          go_upto_region 10 with fail
          obtain ⟨o0, o1, o2, o3, o4, o5⟩ := M.box.six
          refine wp_region_order (C1 ⟨w.heap.size + 1, 5, none⟩ (.slice ca cn cc)) [0, 1, 2, 3, 8] [0, 1, 2, 3, 4, 5, 6, 7, 8, 9] (by kernel_rfl) (by kernel_rfl) (fun d _ _ _ _ h => by cases d <;> exact h) (by kernel_rfl) ?_
          have hS : C1 ⟨w.heap.size + 1, 5, none⟩ (.slice ca cn cc) wr.drew := o5
          iterate 4 (apply ord_held rfl rfl (by assumption) rfl; (focus ((intro w' hS'); go_simp; (try with_reducible rfl))); (try simp only [Act.put, List.setIfInBounds_toArray, List.set_cons_zero, List.set_cons_succ]))
          (apply ord_loud rfl rfl rfl; intro K hK; go_simp)
          refine hK _ _ (fun _ => hS) ?_
          clear hK K
          (apply ord_loud rfl rfl rfl; intro K hK; go_simp)
          have x0 : Ext wr wr.drew := ext_drew (ext_refl _)
          refine (hT q hq S u _ (HQJ.out.ext (ext_trans hx x0))).mono ?_
          rintro r w2 ⟨e2, rfl, hT2, hx2⟩
          have x2 : Ext wr w2 := ext_trans x0 hx2
          refine hK _ _ (fun _ => x2.cell o5) ?_
          clear hK K
          simp only [El.val]
          (try simp only [Act.put, List.setIfInBounds_toArray, List.set_cons_zero, List.set_cons_succ])
          have x3 : Ext wr (w2.alloc (.cells #[.int .i64 e2.k, .string e2.x, .float .f64 e2.d, .bool e2.y, .slice e2.ka e2.n e2.kc, .slice e2.ca e2.m e2.cc] 26)) := ext_alloc x2 _
          have hbz : Box (w2.alloc (.cells #[.int .i64 e2.k, .string e2.x, .float .f64 e2.d, .bool e2.y, .slice e2.ka e2.n e2.kc, .slice e2.ca e2.m e2.cc] 26)) w2.heap.size e2.arr 26 := Box.new _ _ _
          have hT3 := hT2.ext (ext_alloc (ext_refl w2) (.cells #[.int .i64 e2.k, .string e2.x, .float .f64 e2.d, .bool e2.y, .slice e2.ka e2.n e2.kc, .slice e2.ca e2.m e2.cc] 26))
          (apply ord_loud rfl rfl rfl; intro K hK; go_simp)
          refine hK _ _ (fun _ => x3.cell o5) ?_
          clear hK K
          have M1 := M.ext x3
          have hMlt := M.box.lt
          have hs2 := x2.sz
          have hbd : ∀ q, (Value.slice ca cn cc).ownBlock = some q → q < wr.heap.size := fun q h => (M.kids.block h).2
          apply ord_loud rfl rfl rfl
          intro K hK
          refine wp_append_tree _ _ _ rfl (w.heap.size + 3) _ es rfl M1.kids w2.heap.size e2 rfl (boxCells hbz) (by have := HES.out; omega) (by simp; omega) ?_
          intro g1 cap1 w4 hown hgrow hlies hglt
          have hS : C1 ⟨w.heap.size + 1, 5, none⟩ (.slice ca cn cc) w4 := hgrow.cell (x3.cell o5) (fun e => absurd (M1.kids.block e.symm).1 (by simp))
          have q5 := (M1.boxMid' hgrow).free 5
          refine hK _ _ (fun _ => hS) ?_
          clear hK K
          (try simp only [Act.put, List.setIfInBounds_toArray, List.set_cons_zero, List.set_cons_succ])
          (apply ord_held rfl rfl (by assumption) rfl; (focus ((intro w' hS'); go_simp; (try with_reducible rfl))); (try simp only [Act.put, List.setIfInBounds_toArray, List.set_cons_zero, List.set_cons_succ]))
          have o5 := hS
          (apply ord_last rfl rfl rfl (by kernel_rfl); intro K hK; go_simp; refine hK _ _ ?_; clear hK K; (try simp only [Act.put, List.setIfInBounds_toArray, List.set_cons_zero, List.set_cons_succ]))
          refine ord_end ?_
          have hw4 : w.heap.size + 3 ≤ (w4.setCell ⟨w.heap.size + 1, 5, none⟩ (.slice (some ⟨g1, 0, none⟩) (es.length + 1) cap1)).heap.size := by
            have h1 := hgrow.size
            have h2 := x3.sz
            simp only [World.size_setCell]
            omega
          have M2 := M1.kid hown hgrow hlies
          have hb2 := M1.boxKid (hb1.ext x3) (by omega) (by omega) hgrow 5 (.slice (some ⟨g1, 0, none⟩) (es.length + 1) cap1)
          have x4 := M1.extKid (ext_trans hx x3) (by omega) hgrow 5 (.slice (some ⟨g1, 0, none⟩) (es.length + 1) cap1)
          have HK2 := Lib.hid ((HK.out.ext x3).step (hT3.to fun b h1 h2 => ⟨Nat.le_trans (show w.heap.size + 3 ≤ wr.heap.size by omega) h1, fun e => absurd (hbd b e) (Nat.not_lt.2 h1)⟩) hgrow hlies (by omega : w.heap.size + 1 < w.heap.size + 3) 5 (.slice (some ⟨g1, 0, none⟩) (es.length + 1) cap1) (es.length + 1) cap1)
          clear hown hgrow hlies hglt hS q5 M1 M o0 o1 o2 o3 o4 o5 hT2 hT3 hbz HK
          generalize w4.setCell ⟨w.heap.size + 1, 5, none⟩ (.slice (some ⟨g1, 0, none⟩) (es.length + 1) cap1) = w5 at M2 hb2 x4 hw4 HK2 ⊢
          go_wp2_with fail
          go_roundw
          case rel => exact ⟨x4, hw4, hb2, j + 1, es ++ [e2], _, _, _, by omega, by go_num, by simp [HES.out], M2, by rw [take_snoc HKJ.out, ← HQT.out]; exact HK2.out⟩
          case measure => simp [intOf]; omega
        · obtain ⟨o0, o1, o2, o3, o4, o5⟩ := M.box.six
          obtain ⟨r0, r1, r2, r3, r4, r5⟩ := hb1.six
          have e0 := hb1.free 0
          have e1 := hb1.free 1
          have e2 := hb1.free 2
          have e3 := hb1.free 3
          have e4 := hb1.free 4
          have e5 := hb1.free 5
          have hMlt := M.box.lt
          go_wp2_with fail
          have M6 := M.sto6 (b := w.heap.size) (by omega) (by omega) (.int .i64 5) (.string ⟨#[]⟩) (.float .f64 0) (.bool false) (.slice ka K.length kc) (.slice ca cn cc)
          refine post_tree rfl rfl (hb1.sto ⟨5, ⟨#[]⟩, 0, false, ka, K.length, kc, ca, cn, cc⟩) rfl ⟨⟨5, ⟨#[]⟩, 0, false, ka, K.length, kc, ca, cn, cc⟩, rfl, ?_, ext_sto6 hx (by omega) _ _ _ _ _ _⟩
          rw [keys_told HKR.out HKm.out]
          have hfull : KT.take j = K.map fun k => (lastOf (ks.zip (treesJ js)) k).getD nullT := by rw [HKT.out, List.take_of_length_le (by rw [← HKT.out, List.length_map]; omega)]
          have hK := HK.out
          rw [hfull] at hK
          refine M6.tree hK.1 (fun b hb => by have := (M6.keys.block hb).1; omega) (fun b hb => by have := (M6.kids.block hb).1; omega) fun i e t h1 h2 => ?_
          refine TreeAt.keep (S := fun b => w.heap.size + 3 ≤ b ∧ (Value.slice ca cn cc).ownBlock ≠ some b) (fun b hb _ => by have := hb.1; omega) (keeps_grown (grown_sto6 _ _ _ _ _ _ _ _) (fun b hb e => by injection e with e; have := hb.1; omega)) _ (hK.2 i e t h1 h2)
    · intro x c kl yd yp w2 cnt2 hkey hlk hv hv2 hat hrg2 hlt hg2 hs2 hen
      obtain ⟨x', ex, rfl, hxl⟩ := Maps.keyOf_str Tryz.underlying9 hkey
      obtain rfl : x = x' := encStr_inj ex
      have hx2 : Ext w w2 := ext_grown hx hg2 (fun k h => by injection h with h; omega)
      have hb2 := hb1.grown hg2 (fun e => by injection e with e; omega)
      have hM2 : Making w2 (w.heap.size + 3) (w.heap.size + 1) 5 (ss.map mkB) [] ka kn kc none 0 0 := ⟨M.box.grown hg2 (fun e => by injection e with e; omega), M.keys.grown hg2 (.inr fun e => by have := (M.keys.block e).1; omega), World.ownsRow_nil _ _ _ _, M.low, fun _ _ e => by cases e⟩
      obtain ⟨-, -, -, -, o4, o5⟩ := hM2.box.six
      have HAT := Lib.hid hat
      have HLK := Lib.hid hlk
      have HEN := hen
      have HME := hrg.left_eq
      clear hs2 hg2 hrg hb1 hx hkey hv hv2 hat hlk M
      unfold encStr at HEN
      go_wp2_with (first
        | (at_builtin; refine list_append_str _ rfl _ _ rfl (w.heap.size + 3) _ (ss.map mkB) rfl ?a1 _ (mkB x) rfl ?a2 ?a3 ?a4 ?a5)
        | fail)
      case a1 => exact (hM2.ext (ext_alloc (ext_refl _) _)).keys
      try case a2 => simp
      case a3 => omega
      case a4 => have := hM2.box.lt; omega
      intro g cap w3 hown3 hgrow hlies hglt
      have M' := hM2.ext (ext_alloc (ext_refl w2) (.cells #[encStr x] 9))
      have hown4 : OwnStrs w3 (w.heap.size + 3) (.slice (some ⟨g, 0, none⟩) ((ss.map mkB).length + 1) cap) (ss.map mkB ++ [mkB x]) := by rw [List.length_map]; exact hown3
      have hb3 := M'.boxMid hgrow
      obtain ⟨-, -, -, -, p4, p5⟩ := hb3.six
      have q4 := hb3.free 4
      have x3 := M'.extKey (ext_trans hx2 (ext_alloc (ext_refl _) _)) (by omega) hgrow 4 (.slice (some ⟨g, 0, none⟩) (ss.length + 1) cap)
      have hb4 := M'.boxKey (hb2.ext (ext_alloc (ext_refl _) _)) (by omega) (by omega) hgrow 4 (.slice (some ⟨g, 0, none⟩) (ss.length + 1) cap)
      have M3 := M'.key hown4 hgrow hlies
      rw [List.length_map] at M3
      have hrg4 := ((hrg2.alloc (.cells #[encStr x] 9)).kept hgrow (fun e => by have := (M'.keys.block e.symm).1; omega) (fun e => by have := (M'.keys.block e.symm).1; omega)).kept (grown_set w3 ⟨w.heap.size + 1, 4, none⟩ (.slice (some ⟨g, 0, none⟩) (ss.length + 1) cap)) (fun e => by injection e with e; simp at e; omega) (fun e => by injection e with e; simp at e)
      have HR := Lib.hid hrg4
      clear hown3 hown4 hgrow hlies hglt M' hb3 o4 o5 hrg4 hrg2 hM2 hen HEN
      go_wp2_with fail
      go_roundw
      case rel => exact ⟨x3, hb4, _, cnt2, ss ++ [x], _, _, _, HR.out, by simp; omega, by simpa using M3, HC.out.step HLK.out HAT.out⟩
      case measure => rw [HR.out.left_eq, HME]; exact hlt
end Go.Proofs.YtfngaoicoecncaaGreatDoor
