/-
  PairsOf: the pairs of a map; pick: pairs without some keys.
-/
import Derived.Test.YtocfoheckgdonaaGreatDoorW3
import Derived.Test.YtocfoheckgdonaaGreatDoorVd
import Derived.Test.YtocfoheckgdonaaGreatDoorP4
namespace Go.Proofs.YtocfoheckgdonaaGreatDoor
open Go.RowKit

def nstep {β : Type} (key : ByteArray) (acc : List ByteArray × List β) (p : ByteArray × β) : List ByteArray × List β := if (p.1.toList == key.toList) = true then acc else (acc.1 ++ [p.1], acc.2 ++ [p.2])
theorem nstep_fold {β : Type} (key : ByteArray) (l : List (ByteArray × β)) (acc : List ByteArray × List β) : l.foldl (nstep key) acc = (acc.1 ++ (l.filter fun p => !seq p.1 key).map Prod.fst, acc.2 ++ (l.filter fun p => !seq p.1 key).map Prod.snd) := by
  induction l generalizing acc with
  | nil => simp
  | cons p r ih =>
    rw [List.foldl_cons, ih]
    unfold nstep
    by_cases h : (p.1.toList == key.toList) = true
    · rw [if_pos h, List.filter_cons_of_neg (by simpa [seq] using h)]
    · have h2 : seq p.1 key = false := by simpa [seq] using h
      rw [if_neg h, List.filter_cons_of_pos (by rw [h2]; rfl)]
      simp
/-- The state of Without: what is made so far. -/
def NSt (S : Nat → Prop) (w wr : World) (acc : List ByteArray × List (El × T)) (e : El) : Prop :=
  Ext w wr ∧
  Box wr w.heap.size #[.int .i64 e.k, .string e.x, .float .f64 e.d, .bool e.y, .slice e.ka e.n e.kc, .slice e.ca e.m e.cc] 26 ∧
  Box wr (w.heap.size + 1) #[.int .i64 0, .string ⟨#[]⟩, .float .f64 0, .bool false, .slice none 0 0, .slice none 0 0] 26 ∧
  (∃ ka kn kc ca cn cc, Making wr (w.heap.size + 3) (w.heap.size + 1 + 1) 5 acc.1 (acc.2.map Prod.fst) ka kn kc ca cn cc) ∧
  (∀ y ∈ acc.2, TreeAt S w y.1 y.2)

theorem NSt.key {S : Nat → Prop} {w wr w' w1 : World} {acc : List ByteArray × List (El × T)} {e : El} {ka : Option Addr} {kn kc : Nat} {ca : Option Addr} {cn cc : Nat} {g cap : Nat} {y : ByteArray}
    (h : NSt S w wr acc e) (M : Making wr (w.heap.size + 3) (w.heap.size + 1 + 1) 5 acc.1 (acc.2.map Prod.fst) ka kn kc ca cn cc) (x : Ext wr w')
    (ho : OwnStrs w1 (w.heap.size + 3) (.slice (some ⟨g, 0, none⟩) (acc.1.length + 1) cap) (acc.1 ++ [y])) (hg : w'.grownBy w1 (Value.slice ka kn kc).ownBlock) (hl : Lies w' (.slice ka kn kc) g) :
    NSt S w (w1.setCell ⟨w.heap.size + 1 + 1, 4, none⟩ (.slice (some ⟨g, 0, none⟩) (acc.1.length + 1) cap)) (acc.1 ++ [y], acc.2) e := by
  obtain ⟨h1, h2, h4, -, h6⟩ := h
  have M' := M.ext x
  exact ⟨M'.extKey (ext_trans h1 x) (by omega) hg _ _, M'.boxKey (h2.ext x) (by omega) (by omega) hg _ _, M'.boxKey (h4.ext x) (by omega) (by omega) hg _ _,
    ⟨_, _, _, _, _, _, M'.key ho hg hl⟩, h6⟩
theorem NSt.kid {S : Nat → Prop} {w wr w' w1 : World} {acc : List ByteArray × List (El × T)} {e : El} {ka : Option Addr} {kn kc : Nat} {ca : Option Addr} {cn cc : Nat} {g cap : Nat} {y : El × T}
    (h : NSt S w wr acc e) (M : Making wr (w.heap.size + 3) (w.heap.size + 1 + 1) 5 acc.1 (acc.2.map Prod.fst) ka kn kc ca cn cc) (x : Ext wr w')
    (ho : OwnEls w1 (w.heap.size + 3) (.slice (some ⟨g, 0, none⟩) (acc.2.length + 1) cap) (acc.2.map Prod.fst ++ [y.1])) (hg : w'.grownBy w1 (Value.slice ca cn cc).ownBlock) (hl : Lies w' (.slice ca cn cc) g) (hy : TreeAt S w y.1 y.2) :
    NSt S w (w1.setCell ⟨w.heap.size + 1 + 1, 5, none⟩ (.slice (some ⟨g, 0, none⟩) (acc.2.length + 1) cap)) (acc.1, acc.2 ++ [y]) e := by
  have eL : acc.2.length = (acc.2.map Prod.fst).length := by simp
  rw [eL] at ho ⊢
  obtain ⟨h1, h2, h4, -, h6⟩ := h
  have M' := M.ext x
  refine ⟨M'.extKid (ext_trans h1 x) (by omega) hg _ _, M'.boxKid (h2.ext x) (by omega) (by omega) hg _ _, M'.boxKid (h4.ext x) (by omega) (by omega) hg _ _,
    ⟨_, _, _, _, _, _, by simpa using M'.kid ho hg hl⟩, fun z hz => ?_⟩
  rcases List.mem_append.1 hz with hz | hz
  · exact h6 z hz
  · rw [List.mem_singleton.1 hz]; exact hy
theorem nst_len {β : Type} (key : ByteArray) (l : List (ByteArray × β)) (k : Nat) : ((l.take k).foldl (nstep key) ([], [])).1.length ≤ k ∧ ((l.take k).foldl (nstep key) ([], [])).2.length ≤ k := by
  rw [nstep_fold]
  have h1 : ((l.take k).filter fun p => !seq p.1 key).length ≤ k := Nat.le_trans (List.length_filter_le _ _) (List.length_take_le _ _)
  constructor <;> simpa using h1

set_option maxHeartbeats 4000000 in
theorem without_map {S : Nat → Prop} (e : El) (l : List (ByteArray × T)) (key : ByteArray) (w : World) (he : TreeAt S w e (mapOf l)) (hlen : l.length ≤ 65536) :
    Calls Tryz.prog 48 #[e.val, .string key] w fun r w' => ∃ g : El, r = .returned g.val ∧ TreeAt (fun b => S b ∨ w.heap.size ≤ b) w' g (mapOf (l.filter fun p => !seq p.1 key)) ∧ Ext w w' := by
  have hks : (mapOf l).keys = l.map Prod.fst := rfl
  have hxs : (mapOf l).kids = l.map Prod.snd := rfl
  obtain ⟨-, -, -, -, h5, h6⟩ := he.parts
  obtain ⟨Z, hZ, hZn, hZ1⟩ := h6.els
  rw [hxs] at hZ
  have hZl : Z.length = l.length := by have := congrArg List.length hZ; simpa using this
  have HZ := Lib.hid hZ
  have HZL := Lib.hid hZl
  have HZn := Lib.hid hZn
  clear hZ hZn hZl
  obtain ⟨hk1, hk2, hk3, hk4⟩ := h5
  rw [hks] at hk1 hk4
  have HK := Lib.hid hk1
  have HH := Lib.hid h6
  clear h6 hk1 he
  unfold maxLen at hk3
  have hn : e.n ≤ 65536 := by have := HK.out; simp at this; omega
  have hm : e.m = e.n := by have h1 := HK.out; have h2 := HZn.out; have h3 := HZL.out; simp at h1; omega
  obtain ⟨k, x, d, y, ka, n, kc, ca, m, cc⟩ := e
  simp only at hm hn hk2 hk3 hk4 HK HH HZn
  obtain rfl : n = m := hm.symm
  simp only [El.val]
  go_enter Tryz.func48, Tryz.ntmps48
  go_wp2_with fail
  go_loopw [6] (fun i wr => ∃ (j : Nat) (acc : List ByteArray × List (El × T)), j ≤ n ∧ i = .int .i64 j ∧ acc = (((l.map Prod.fst).zip Z).take j).foldl (nstep key) ([], []) ∧ NSt S w wr acc ⟨k, x, d, y, ka, n, kc, ca, n, cc⟩) (fun i _ => n - (intOf i).toNat)
  case atStart =>
    refine ⟨0, ([], []), Nat.zero_le _, rfl, rfl, by (repeat (first | exact ext_refl _ | assumption | refine ext_alloc ?_ _ | refine ext_drew ?_ | refine ext_set ?_ (by simp) _ | refine ext_trans ?_ (by assumption))), ?_, ?_, ⟨none, 0, 0, none, 0, 0, ⟨?_, World.ownsRow_nil _ _ _ _, World.ownsRow_nil _ _ _ _, by omega, fun _ h => by cases h⟩⟩, fun _ h => by cases h⟩
    · exact ((Box.at rfl _ _).alloc _).alloc _
    · exact (Box.at (by simp) _ _).alloc _
    · exact Box.at (by simp) _ _
  case round =>
    obtain ⟨k1, acc, hk, rfl, hacc, W⟩ := hrel
    have hl0 := nst_len key ((l.map Prod.fst).zip Z) k1
    rw [← hacc] at hl0
    obtain ⟨hl3, hl4⟩ := hl0
    have HA := Lib.hid hacc
    clear hacc
    by_cases hlt : k1 < n
    · obtain ⟨ky, hky⟩ := some_of_lt HK.out hlt
      obtain ⟨b, off, rfl, hSb, hcell⟩ := hk4 k1 ky hky
      have hcell1 := W.1.cell hcell
      obtain ⟨-, -, -, -, t4, t5⟩ := W.2.1.six
      have HKY := Lib.hid hky
      clear hky
      obtain ⟨z, hz⟩ := some_of_lt HZn.out hlt
      obtain ⟨b2, off2, hca, hSb2, hz6, hzT⟩ := hZ1 k1 z hz
      have HZI := Lib.hid hz
      clear hz
      have hz6 := hz6.keep (W.1.keeps S) hSb2
      obtain ⟨z0, z1, z2, z3, z4, z5⟩ := hz6
      try simp only at hca
      subst hca
      obtain ⟨ka2, kn2, kc2, ca2, cn2, cc2, M⟩ := W.2.2.2.1
      obtain ⟨-, -, -, -, o4, o5⟩ := M.box.six
      by_cases he : (ky.toList == key.toList) = true
      · go_wp2_with fail
        go_roundw
        case rel => exact ⟨k1 + 1, acc, by omega, by go_num, by
          rw [foldl_snoc _ _ (zip_get HKY.out HZI.out), ← HA.out]
          exact (if_pos he).symm, W⟩
        case measure => simp [intOf]; omega
      · have hef : (ky.toList == key.toList) = false := by simpa using he
        go_upto_region 6 with fail
        have hlb : b < w.heap.size := lt_of_cell hcell
        have hMb := M.box.lt
        refine wp_region_order (C3 ⟨w.heap.size + 1 + 1, 4, none⟩ (.slice ka2 kn2 kc2) ⟨w.heap.size, 4, none⟩ (.slice (some ⟨b, off, none⟩) n kc) ⟨b, off + k1, none⟩ (.string ky)) [0, 1, 2, 3, 4, 5, 6, 9] [0, 1, 2, 3, 4, 5, 6, 7, 8, 9, 10] (by kernel_rfl) (by kernel_rfl) (fun d _ _ _ _ h => by cases d <;> exact h) (by kernel_rfl) ?_
        have hS : C3 ⟨w.heap.size + 1 + 1, 4, none⟩ (.slice ka2 kn2 kc2) ⟨w.heap.size, 4, none⟩ (.slice (some ⟨b, off, none⟩) n kc) ⟨b, off + k1, none⟩ (.string ky) wr.drew := ⟨o4, t4, hcell1⟩
        iterate 7 (apply ord_held rfl rfl (by assumption) rfl; (focus ((intro w' hS'); go_simp; (try with_reducible rfl))); (try simp only [Act.put, List.setIfInBounds_toArray, List.set_cons_zero, List.set_cons_succ]))
        have x1 : Ext wr (wr.alloc (.cells #[.string ky] 9)).drew := ext_drew (ext_alloc (ext_refl _) _)
        (apply ord_loud rfl rfl rfl; intro K hK; go_simp)
        refine hK _ _ (fun _ => ⟨x1.cell o4, x1.cell t4, x1.cell hcell1⟩) ?_
        clear hK K
        have M1 := M.ext x1
        apply ord_loud rfl rfl rfl
        intro K hK
        refine wp_append_str _ _ _ rfl (w.heap.size + 3) _ acc.1 rfl M1.keys wr.heap.size ky rfl (by simp) (by omega) (by simp; omega) ?_
        intro g cap w2 hown hgrow hlies hglt
        have hS : C3 ⟨w.heap.size + 1 + 1, 4, none⟩ (.slice ka2 kn2 kc2) ⟨w.heap.size, 4, none⟩ (.slice (some ⟨b, off, none⟩) n kc) ⟨b, off + k1, none⟩ (.string ky) w2 := ⟨M1.cellKey hgrow (x1.cell o4) (by simp), M1.cellKey hgrow (x1.cell t4) (by simp), M1.cellKey hgrow (x1.cell hcell1) (by simp; omega)⟩
        have q4 := (M1.boxMid hgrow).free 4
        refine hK _ _ (fun _ => hS) ?_
        clear hK K
        (try simp only [Act.put, List.setIfInBounds_toArray, List.set_cons_zero, List.set_cons_succ])
        (apply ord_held rfl rfl (by assumption) rfl; (focus ((intro w' hS'); go_simp; (try with_reducible rfl))); (try simp only [Act.put, List.setIfInBounds_toArray, List.set_cons_zero, List.set_cons_succ]))
        have o4 := hS.1
        (apply ord_last rfl rfl rfl (by kernel_rfl); intro K hK; go_simp; refine hK _ _ ?_; clear hK K; (try simp only [Act.put, List.setIfInBounds_toArray, List.set_cons_zero, List.set_cons_succ]))
        refine ord_end ?_
        have W2 := W.key M x1 hown hgrow hlies
        clear hown hgrow hlies hglt hS q4 M M1 o4 t4 o5 t5 x1
        generalize w2.setCell ⟨w.heap.size + 1 + 1, 4, none⟩ (.slice (some ⟨g, 0, none⟩) (acc.1.length + 1) cap) = w3 at W2 ⊢
        obtain ⟨ka3, kn3, kc3, ca3, cn3, cc3, M⟩ := W2.2.2.2.1
        obtain ⟨-, -, -, -, o4, o5⟩ := M.box.six
        go_upto_region 7 with fail
        have hZ6 := (hz6.keep (W2.1.keeps S) hSb2)
        obtain ⟨-, -, -, -, t4, t5⟩ := W2.2.1.six
        have hlb2 : b2 < w.heap.size := lt_of_cell hz6.1
        have hMb := M.box.lt
        refine wp_region_order (fun w' => C2 ⟨w.heap.size + 1 + 1, 5, none⟩ (.slice ca3 cn3 cc3) ⟨w.heap.size, 5, none⟩ (.slice (some ⟨b2, off2, none⟩) n cc) w' ∧ CellsAt w' b2 (off2 + k1 * 6) z.1) [0, 1, 2, 3, 4, 5, 6, 9] [0, 1, 2, 3, 4, 5, 6, 7, 8, 9, 10] (by kernel_rfl) (by kernel_rfl) (fun d _ _ _ _ h => by cases d <;> exact h) (by kernel_rfl) ?_
        have hS : C2 ⟨w.heap.size + 1 + 1, 5, none⟩ (.slice ca3 cn3 cc3) ⟨w.heap.size, 5, none⟩ (.slice (some ⟨b2, off2, none⟩) n cc) w3.drew ∧ CellsAt w3.drew b2 (off2 + k1 * 6) z.1 := ⟨⟨o5, t5⟩, hZ6⟩
        iterate 7 (apply ord_held rfl rfl (by assumption) rfl; (focus ((intro w' hS'); go_simp; (try with_reducible rfl))); (try simp only [Act.put, List.setIfInBounds_toArray, List.set_cons_zero, List.set_cons_succ]))
        have x1 : Ext w3 (w3.alloc (.cells #[.int .i64 z.1.k, .string z.1.x, .float .f64 z.1.d, .bool z.1.y, .slice z.1.ka z.1.n z.1.kc, .slice z.1.ca z.1.m z.1.cc] 26)).drew := ext_drew (ext_alloc (ext_refl _) _)
        have hbz : Box (w3.alloc (.cells #[.int .i64 z.1.k, .string z.1.x, .float .f64 z.1.d, .bool z.1.y, .slice z.1.ka z.1.n z.1.kc, .slice z.1.ca z.1.m z.1.cc] 26)).drew w3.heap.size #[.int .i64 z.1.k, .string z.1.x, .float .f64 z.1.d, .bool z.1.y, .slice z.1.ka z.1.n z.1.kc, .slice z.1.ca z.1.m z.1.cc] 26 := (Box.new _ _ _).drew
        (apply ord_loud rfl rfl rfl; intro K hK; go_simp)
        refine hK _ _ (fun _ => ⟨⟨x1.cell o5, x1.cell t5⟩, hZ6.keep (x1.keeps S) hSb2⟩) ?_
        clear hK K
        have M1 := M.ext x1
        apply ord_loud rfl rfl rfl
        intro K hK
        refine wp_append_tree _ _ _ rfl (w.heap.size + 3) _ (acc.2.map Prod.fst) rfl M1.kids w3.heap.size z.1 rfl (boxCells hbz) (by simp only [List.length_map]; omega) (by simp; omega) ?_
        intro g1 cap1 w4 hown hgrow hlies hglt
        have hS : C2 ⟨w.heap.size + 1 + 1, 5, none⟩ (.slice ca3 cn3 cc3) ⟨w.heap.size, 5, none⟩ (.slice (some ⟨b2, off2, none⟩) n cc) w4 ∧ CellsAt w4 b2 (off2 + k1 * 6) z.1 :=
          ⟨⟨M1.cellKid hgrow (x1.cell o5) (by simp), M1.cellKid hgrow (x1.cell t5) (by simp)⟩, (hZ6.keep (x1.keeps S) hSb2).keep (S := fun q => q = b2) (keeps_grown hgrow (fun q hq e => by have := (M1.kids.block e.symm).1; omega)) rfl⟩
        have q5 := (M1.boxMid' hgrow).free 5
        refine hK _ _ (fun _ => hS) ?_
        clear hK K
        (try simp only [Act.put, List.setIfInBounds_toArray, List.set_cons_zero, List.set_cons_succ])
        (apply ord_held rfl rfl (by assumption) rfl; (focus ((intro w' hS'); go_simp; (try with_reducible rfl))); (try simp only [Act.put, List.setIfInBounds_toArray, List.set_cons_zero, List.set_cons_succ]))
        have o5 := hS.1.1
        (apply ord_last rfl rfl rfl (by kernel_rfl); intro K hK; go_simp; refine hK _ _ ?_; clear hK K; (try simp only [Act.put, List.setIfInBounds_toArray, List.set_cons_zero, List.set_cons_succ]))
        refine ord_end ?_
        have W3 := W2.kid (y := z) M x1 (by simpa using hown) hgrow hlies hzT
        clear hown hgrow hlies hglt hS q5 M M1 o4 o5 t4 t5 x1
        generalize w4.setCell ⟨w.heap.size + 1 + 1, 5, none⟩ (.slice (some ⟨g1, 0, none⟩) (acc.2.length + 1) cap1) = w5 at W3 ⊢
        go_wp2_with fail
        go_roundw
        case rel => exact ⟨k1 + 1, (acc.1 ++ [ky], acc.2 ++ [z]), by omega, by go_num, by
          rw [foldl_snoc _ _ (zip_get HKY.out HZI.out), ← HA.out]
          exact (if_neg he).symm, W3⟩
        case measure => simp [intOf]; omega
    · have hkn : k1 = n := by omega
      have HKN := Lib.hid hkn
      clear hkn
      obtain ⟨-, -, -, -, t4, t5⟩ := W.2.1.six
      obtain ⟨ka2, kn2, kc2, ca2, cn2, cc2, M⟩ := W.2.2.2.1
      obtain ⟨o0, o1, o2, o3, o4, o5⟩ := M.box.six
      have hb := W.2.2.1
      obtain ⟨r0, r1, r2, r3, r4, r5⟩ := hb.six
      have e0 := hb.free 0
      have e1 := hb.free 1
      have e2 := hb.free 2
      have e3 := hb.free 3
      have e4 := hb.free 4
      have e5 := hb.free 5
      go_wp2_with fail
      have hb6 := hb.sto6 (.int .i64 5) (.string ⟨#[]⟩) (.float .f64 0) (.bool false) (.slice ka2 kn2 kc2) (.slice ca2 cn2 cc2)
      have M6 := M.sto6 (b := w.heap.size + 1) (by omega) (by omega) (.int .i64 5) (.string ⟨#[]⟩) (.float .f64 0) (.bool false) (.slice ka2 kn2 kc2) (.slice ca2 cn2 cc2)
      have x6 := ext_sto6 W.1 (b := w.heap.size + 1) (by omega) (.int .i64 5) (.string ⟨#[]⟩) (.float .f64 0) (.bool false) (.slice ka2 kn2 kc2) (.slice ca2 cn2 cc2)
      refine post_tree rfl rfl hb6 rfl ⟨⟨5, ⟨#[]⟩, 0, false, ka2, kn2, kc2, ca2, cn2, cc2⟩, rfl, ?_, x6⟩
      have hzl : l = (l.map Prod.fst).zip (l.map Prod.snd) := (zip_unzip l).symm
      have hfin : acc = (((l.map Prod.fst).zip Z).filter fun p => !seq p.1 key).unzip := by
        rw [HA.out, List.take_of_length_le (by rw [List.length_zip]; have := HK.out; have := HKN.out; omega), nstep_fold, List.unzip_eq_map]
        simp
      have hmapZ : ((l.map Prod.fst).zip Z).map (fun p => (p.1, p.2.2)) = l := by
        conv => rhs; rw [hzl, ← HZ.out]
        rw [List.zip_map_right]
        rfl
      have hfk : acc.1 = (l.filter fun p => !seq p.1 key).map Prod.fst := by
        rw [hfin, List.unzip_eq_map]
        conv => rhs; rw [← hmapZ, List.filter_map]
        simp [Function.comp_def]
      have hfx : acc.2.map Prod.snd = (l.filter fun p => !seq p.1 key).map Prod.snd := by
        rw [hfin, List.unzip_eq_map]
        conv => rhs; rw [← hmapZ, List.filter_map]
        simp [Function.comp_def]
      have he2 : mapOf (l.filter fun p => !seq p.1 key) = .mk 5 ⟨#[]⟩ 0 false acc.1 (acc.2.map Prod.snd) := by rw [hfk, hfx]; rfl
      rw [he2]
      refine M6.tree (by simp) (fun b hb => .inr (by have := (M6.keys.block hb).1; omega)) (fun b hb => .inr (by have := (M6.kids.block hb).1; omega)) ?_
      intro i e t' h1 h2
      rw [List.getElem?_map] at h1 h2
      cases hz : acc.2[i]? with
      | none => rw [hz] at h1; cases h1
      | some z =>
        rw [hz] at h1 h2
        cases h1
        cases h2
        exact TreeAt.keep (fun b hb _ => .inl hb) (x6.keeps S) _ (W.2.2.2.2 z (List.mem_of_getElem? hz))
theorem rising_filter {α : Type} {l : List (ByteArray × α)} (h : Rising l) (f : ByteArray × α → Bool) : Rising (l.filter f) := h.sublist List.filter_sublist
theorem last_filter2 {α : Type} {f : ByteArray} (l : List (ByteArray × α)) (k : ByteArray) : lastOf (l.filter fun p => !seq p.1 f) k = if k = f then none else lastOf l k := by
  induction l with
  | nil => simp [lastOf]
  | cons p r ih =>
    by_cases hp : p.1 = f
    · rw [List.filter_cons_of_neg (by simp [seq_iff.2 hp]), ih, lastOf_cons]
      by_cases hk : k = f
      · rw [if_pos hk, if_pos hk]
      · rw [if_neg hk, if_neg hk, seq_false.2 (fun e => hk (e.symm.trans hp))]
        simp
    · rw [List.filter_cons_of_pos (by simp [seq_false.2 hp]), lastOf_cons, lastOf_cons, ih]
      by_cases hk : k = f
      · rw [if_pos hk, if_pos hk, seq_false.2 (fun e => hp (e.trans hk))]
        simp
      · rw [if_neg hk, if_neg hk]
theorem without_any {S : Nat → Prop} (e : El) (ps : List (ByteArray × T)) (key : ByteArray) (w : World) (he : TreeAt S w e (mapT ps)) (hlen : ps.length ≤ 65536) :
    Calls Tryz.prog 48 #[e.val, .string key] w fun r w' => ∃ g : El, r = .returned g.val ∧ TreeAt (fun b => S b ∨ w.heap.size ≤ b) w' g (mapT (ps.filter fun p => !seq p.1 key)) ∧ Ext w w' := by
  obtain ⟨l, hm, hR, hlo⟩ := mapT_told ps
  have hll : l.length ≤ 65536 := by have := (mapT_len ps).1; rw [hm] at this; unfold mapOf at this; simp [T.keys] at this; omega
  rw [hm] at he
  rw [mapT_of (rising_filter hR fun p => !seq p.1 key) (fun k => by rw [last_filter2, last_filter2, hlo])]
  exact without_map e l key w he hll
end Go.Proofs.YtocfoheckgdonaaGreatDoor

namespace Go.Proofs.YtocfoheckgdonaaGreatDoor
open Go.RowKit

theorem ownPairs_mono {w : World} {base base' : Nat} {v : Value} {es : List (ByteArray × El)} (h : OwnPairs w base v es) (hb : base' ≤ base) : OwnPairs w base' v es := by
  obtain ⟨h1, h2⟩ := h
  refine ⟨h1, ?_⟩
  rcases h2 with h2 | ⟨g, cap, cur, e1, hg, r⟩
  · exact .inl h2
  · exact .inr ⟨g, cap, cur, e1, by omega, r⟩
set_option maxHeartbeats 4000000 in
theorem pairsOf_any {S : Nat → Prop} (e : El) (l : List (ByteArray × T)) (w : World) (he : TreeAt S w e (mapOf l)) (hlen : l.length ≤ 65536) :
    Calls Tryz.prog 101 #[e.val] w fun r w' => ∃ v es, r = .returned v ∧ OwnPairs w' w.heap.size v es ∧ Pk (fun b => S b ∧ b < w.heap.size) w' es l ∧ Ext w w' := by
  have he := he.to (S' := fun b => S b ∧ b < w.heap.size) (fun b h1 h2 => ⟨h1, h2⟩)
  have hks : (mapOf l).keys = l.map Prod.fst := rfl
  have hxs : (mapOf l).kids = l.map Prod.snd := rfl
  obtain ⟨-, -, -, -, h5, h6⟩ := he.parts
  rw [hks] at h5
  rw [hxs] at h6
  have hn := h5.1
  have hm := h6.1
  have hkm := h5.2.1
  have hkc := h5.2.2.1
  have hcm := h6.2.1
  have hcc := h6.2.2.1
  unfold maxLen at hkc hcc
  obtain ⟨k, x, d, y, ka, n, kc, ca, m, cc⟩ := e
  simp only at hn hm hkm hkc hcm hcc h5 h6
  rw [List.length_map] at hn hm
  obtain rfl : n = m := hn.symm.trans hm
  have HN := Lib.hid hn
  have H5 := Lib.hid h5
  have H6 := Lib.hid h6
  have hnl : n ≤ 65536 := by omega
  clear he hks hxs h5 h6 hn hm
  simp only [El.val]
  have hx0 : Ext w ((w.alloc (.cells (El.arr ⟨k, x, d, y, ka, n, kc, ca, n, cc⟩) 26)).alloc (.cells #[] 68)) := ext_alloc (ext_alloc (ext_refl _) _) _
  have hb1 : Box ((w.alloc (.cells (El.arr ⟨k, x, d, y, ka, n, kc, ca, n, cc⟩) 26)).alloc (.cells #[] 68)) w.heap.size (El.arr ⟨k, x, d, y, ka, n, kc, ca, n, cc⟩) 26 := (Box.at rfl _ _).alloc _
  have hb2 : Box ((w.alloc (.cells (El.arr ⟨k, x, d, y, ka, n, kc, ca, n, cc⟩) 26)).alloc (.cells #[] 68)) (w.heap.size + 1) #[] 68 := Box.at (by simp) _ _
  go_enter Tryz.func101, Tryz.ntmps101
  go_wp2_with fail
  go_loopw [3, 4] (fun v i wr => Ext w wr ∧ Box wr w.heap.size (El.arr ⟨k, x, d, y, ka, n, kc, ca, n, cc⟩) 26 ∧ ∃ (j : Nat) (es : List (ByteArray × El)), j ≤ n ∧ i = .int .i64 j ∧ OwnPairs wr (w.heap.size + 1) v es ∧ Pk (fun b => S b ∧ b < w.heap.size) wr es (l.take j)) (fun _ i _ => n - (intOf i).toNat)
  case atStart => exact ⟨hx0, hb1, 0, [], Nat.zero_le _, rfl, ⟨rfl, .inr ⟨w.heap.size + 1, 0, #[], rfl, Nat.le_refl _, hb2, Nat.le_refl _, by simp [maxLen], rfl, rfl⟩⟩, ⟨rfl, fun _ _ _ h => by simp at h⟩⟩
  case round =>
    clear hx0 hb1 hb2
    obtain ⟨hx, hb1, j, es, hj, rfl, hO, hP⟩ := hrel
    have HO := Lib.hid hO
    have HPk := Lib.hid hP
    have hel : es.length ≤ j := by rw [← hP.1]; exact List.length_take_le _ _
    have hbk : ∀ q, u3.ownBlock = some q → w.heap.size + 1 ≤ q ∧ q < wr.heap.size := fun q hq => HO.out.block hq
    clear hO hP
    obtain ⟨q0, q1, q2, q3, q4, q5⟩ := hb1.six
    have hb1l := hb1.lt
    by_cases hlt : j < n
    · obtain ⟨p, hp⟩ := some_of_lt HN.out hlt
      obtain ⟨b, off, rfl, hSb, hc⟩ := H5.out.2.2.2 j p.1 (by rw [List.getElem?_map, hp]; rfl)
      obtain ⟨b2, off2, g, rfl, hSb2, hc6, hTk⟩ := H6.out.get (j := j) (t := p.2) (by rw [List.getElem?_map, hp]; rfl)
      have hc := hx.cell hc
      have hc6 := CellsAt.ext hx hc6
      have hTk := Lib.hid (hTk.ext hx)
      have HP := Lib.hid hp
      clear hp
      go_upto_region 5 with fail
      have hS : Six wr.drew w.heap.size ⟨k, x, d, y, some ⟨b, off, none⟩, n, kc, some ⟨b2, off2, none⟩, n, cc⟩ ∧ CellsAt wr.drew b2 (off2 + j * 6) g ∧ wr.drew.cell? ⟨b, off + j, none⟩ = some (.string p.1) := ⟨hb1.Six, hc6, hc⟩
      refine wp_region_order (fun w' => Six w' w.heap.size ⟨k, x, d, y, some ⟨b, off, none⟩, n, kc, some ⟨b2, off2, none⟩, n, cc⟩ ∧ CellsAt w' b2 (off2 + j * 6) g ∧ w'.cell? ⟨b, off + j, none⟩ = some (.string p.1)) [0, 1, 2, 3, 4, 5, 6, 7, 8, 9, 10, 11] [0, 1, 2, 3, 4, 5, 6, 7, 8, 9, 10, 11, 12, 13, 14] (by kernel_rfl) (by kernel_rfl) (fun d _ _ _ _ h => by cases d <;> exact h) (by kernel_rfl) ?_
      iterate 12 (apply ord_held rfl rfl (by assumption) rfl; (focus ((intro w' hS'); go_simp; (try with_reducible rfl))); (try simp only [Act.put, List.setIfInBounds_toArray, List.set_cons_zero, List.set_cons_succ]))
      have hx4 : Ext wr (wr.alloc (.cells #[.string p.1, .int .i64 g.k, .string g.x, .float .f64 g.d, .bool g.y, .slice g.ka g.n g.kc, .slice g.ca g.m g.cc] 68)).drew := ext_drew (ext_alloc (ext_refl _) _)
      have hbp : Box (wr.alloc (.cells #[.string p.1, .int .i64 g.k, .string g.x, .float .f64 g.d, .bool g.y, .slice g.ka g.n g.kc, .slice g.ca g.m g.cc] 68)).drew wr.heap.size #[.string p.1, .int .i64 g.k, .string g.x, .float .f64 g.d, .bool g.y, .slice g.ka g.n g.kc, .slice g.ca g.m g.cc] 68 := (Box.at rfl _ _).drew
      (apply ord_loud rfl rfl rfl; intro K hK; go_simp)
      refine hK _ _ (fun _ => ⟨Six.ext hx4 hb1.Six, CellsAt.ext hx4 hc6, hx4.cell hc⟩) ?_
      clear hK K
      apply ord_loud rfl rfl rfl
      intro K hK
      refine wp_append_pairs _ _ _ rfl (w.heap.size + 1) _ es rfl (HO.out.ext hx4) wr.heap.size 0 1 [(p.1, g)] (by simp) rfl (fun i f hi => ?_) (by simp; omega) (by simp; omega) ?_
      · cases i with
        | zero => simp at hi; subst hi; exact ⟨hbp.cell 0 _ rfl, hbp.cell 1 _ rfl, hbp.cell 2 _ rfl, hbp.cell 3 _ rfl, hbp.cell 4 _ rfl, hbp.cell 5 _ rfl, hbp.cell 6 _ rfl⟩
        | succ i => simp at hi
      intro g1 cap1 w4 hown hgrow hlies hglt
      have hkeep : Keeps (fun q => q < w.heap.size + 1) _ w4 := keeps_grown hgrow (fun q hq e => by have := (hbk q e.symm).1; omega)
      have hS5 : Six w4 w.heap.size ⟨k, x, d, y, some ⟨b, off, none⟩, n, kc, some ⟨b2, off2, none⟩, n, cc⟩ ∧ CellsAt w4 b2 (off2 + j * 6) g ∧ w4.cell? ⟨b, off + j, none⟩ = some (.string p.1) :=
        ⟨Six.keep hkeep (by omega) (Six.ext hx4 hb1.Six), CellsAt.keep hkeep (by have := hSb2.2; omega) (CellsAt.ext hx4 hc6), hkeep.cell (by have := hSb.2; show b < _; omega) (hx4.cell hc)⟩
      refine hK _ _ (fun _ => hS5) ?_
      clear hK K
      (try simp only [Act.put, List.setIfInBounds_toArray, List.set_cons_zero, List.set_cons_succ])
      (apply ord_last rfl rfl rfl (by kernel_rfl); intro K hK; go_simp; refine hK _ _ ?_; clear hK K; (try simp only [Act.put, List.setIfInBounds_toArray, List.set_cons_zero, List.set_cons_succ]))
      refine ord_end ?_
      have hx5 : Ext w w4 := ext_grown (ext_trans hx hx4) hgrow (fun k hk => by have := (hbk k hk).1; omega)
      have hb5 : Box w4 w.heap.size (El.arr ⟨k, x, d, y, some ⟨b, off, none⟩, n, kc, some ⟨b2, off2, none⟩, n, cc⟩) 26 := (hb1.ext hx4).grown hgrow (fun e => by have := (hbk _ e.symm).1; omega)
      have hPk5 := Lib.hid (Pk.append (Pk.keep (S' := fun b => S b ∧ b < w.heap.size) (fun q hq _ => hq) (keeps_grown hgrow (fun q hq e => by have := (hbk q e.symm).1; have := hq.2; omega)) (HPk.out.ext hx4)) (Pk.one (k := p.1) (TreeAt.keep (S' := fun b => S b ∧ b < w.heap.size) (fun q hq _ => hq) (keeps_grown hgrow (fun q hq e => by have := (hbk q e.symm).1; have := hq.2; omega)) _ (hTk.out.ext hx4))))
      have hO5 := Lib.hid hown
      clear hown hgrow hlies hS5 hbp hx4 hS hc hc6 hbk hkeep
      go_wp2_with fail
      go_roundw
      case rel =>
        refine ⟨hx5, hb5, j + 1, es ++ [(p.1, g)], by omega, by go_num, by simpa using hO5.out, ?_⟩
        rw [List.take_add_one, HP.out]
        exact hPk5.out
      case measure => simp [intOf]; omega
    · have hjr : j = n := by omega
      subst hjr
      go_wp2_with fail
      go_ret
      have h1 := HPk.out
      rw [List.take_of_length_le (by have := HN.out; omega)] at h1
      have hO := HO.out
      exact ⟨u3, rfl, es, ownPairs_mono hO (by omega), h1, hx⟩

set_option maxHeartbeats 4000000 in
theorem pick_any {S : Nat → Prop} (a : Option Addr) (n c : Nat) (ps : List (ByteArray × T)) (ka : Option Addr) (kn kc : Nat) (ks : List ByteArray) (w : World) (hp : PairsAt S w a n c ps) (hk : StrsAt S w ka kn kc ks) (hlen : ps.length ≤ 65536) :
    Calls Tryz.prog 102 #[.slice a n c, .slice ka kn kc] w fun r w' => ∃ v es, r = .returned v ∧ OwnPairs w' w.heap.size v es ∧ Pk (fun b => S b ∧ b < w.heap.size) w' es (ps.filter fun p => !hasS ks p.1) ∧ Ext w w' := by
  have hp := hp.keep (S' := fun b => S b ∧ b < w.heap.size) (fun b h1 h2 => ⟨h1, h2⟩) (fun _ _ _ => rfl)
  have hn := hp.1
  have hnc := hp.2.1
  have hcm := hp.2.2.1
  unfold maxLen at hcm
  have HN := Lib.hid hn
  have HP := Lib.hid hp
  have HK := Lib.hid (fun (s : ByteArray) (w' : World) (x : Ext w w') => has_any ka kn kc ks s w' (hk.ext x))
  have hnl : n ≤ 65536 := by omega
  clear hp hk hn
  have hx0 : Ext w (w.alloc (.cells #[] 68)) := ext_alloc (ext_refl _) _
  have hb2 : Box (w.alloc (.cells #[] 68)) w.heap.size #[] 68 := Box.at rfl _ _
  go_enter Tryz.func102, Tryz.ntmps102
  go_wp2_with fail
  go_loopw [5, 6] (fun v i wr => Ext w wr ∧ ∃ (j : Nat) (es : List (ByteArray × El)), j ≤ n ∧ i = .int .i64 j ∧ OwnPairs wr w.heap.size v es ∧ Pk (fun b => S b ∧ b < w.heap.size) wr es ((ps.take j).filter fun p => !hasS ks p.1)) (fun _ i _ => n - (intOf i).toNat)
  case atStart => exact ⟨hx0, 0, [], Nat.zero_le _, rfl, ⟨rfl, .inr ⟨w.heap.size, 0, #[], rfl, Nat.le_refl _, hb2, Nat.le_refl _, by simp [maxLen], rfl, rfl⟩⟩, ⟨rfl, fun _ _ _ h => by simp at h⟩⟩
  case round =>
    clear hx0 hb2
    obtain ⟨hx, j, es, hj, rfl, hO, hPk⟩ := hrel
    have hel : es.length ≤ j := by rw [← hPk.1]; exact Nat.le_trans (List.length_filter_le _ _) (List.length_take_le _ _)
    have HO := Lib.hid hO
    have HPk := Lib.hid hPk
    have hbk : ∀ q, u5.ownBlock = some q → w.heap.size ≤ q ∧ q < wr.heap.size := fun q hq => HO.out.block hq
    have hxs := hx.sz
    clear hO hPk
    by_cases hlt : j < n
    · obtain ⟨p, hpi⟩ := some_of_lt HN.out hlt
      obtain ⟨b, off, g, rfl, hSb, hc7, hTk⟩ := HP.out.2.2.2 j p hpi
      have hc7 := Cells7.ext hx hc7
      have hTk := Lib.hid (hTk.ext hx)
      have HPI := Lib.hid hpi
      have hH := HK.out p.1 wr hx
      clear hpi
      obtain ⟨z0, z1, z2, z3, z4, z5, z6⟩ := hc7
      cases hh : hasS ks p.1 with
      | true =>
        rw [hh] at hH
        go_wp2_with (go_at_call 32; refine hH.mono ?_; rintro r w' ⟨rfl, rfl⟩)
        go_roundw
        case rel => exact ⟨hx, j + 1, es, by omega, by go_num, HO.out, by
          rw [List.take_add_one, HPI.out, List.filter_append]
          simpa [hh] using HPk.out⟩
        case measure => simp [intOf]; omega
      | false =>
        rw [hh] at hH
        go_upto_region 6 with (go_at_call 32; refine hH.mono ?_; rintro r w' ⟨rfl, rfl⟩)
        have hx4 : Ext wr (wr.alloc (.cells #[.string p.1, .int .i64 g.k, .string g.x, .float .f64 g.d, .bool g.y, .slice g.ka g.n g.kc, .slice g.ca g.m g.cc] 68)) := ext_alloc (ext_refl _) _
        have hbp : Box (wr.alloc (.cells #[.string p.1, .int .i64 g.k, .string g.x, .float .f64 g.d, .bool g.y, .slice g.ka g.n g.kc, .slice g.ca g.m g.cc] 68)) wr.heap.size #[.string p.1, .int .i64 g.k, .string g.x, .float .f64 g.d, .bool g.y, .slice g.ka g.n g.kc, .slice g.ca g.m g.cc] 68 := Box.at rfl _ _
        go_wp2_with (at_builtin; refine list_append_pairs _ rfl _ _ rfl w.heap.size _ es rfl (HO.out.ext hx4) wr.heap.size 0 1 [(p.1, g)] (by simp) rfl (fun i f hi => by
          cases i with
          | zero => simp at hi; subst hi; exact ⟨hbp.cell 0 _ rfl, hbp.cell 1 _ rfl, hbp.cell 2 _ rfl, hbp.cell 3 _ rfl, hbp.cell 4 _ rfl, hbp.cell 5 _ rfl, hbp.cell 6 _ rfl⟩
          | succ i => simp at hi) (by simp; omega) (by simp; omega) ?_; intro g1 cap1 w4 hown hgrow hlies hglt)
        have hx5 : Ext w w4 := ext_grown (ext_trans hx hx4) hgrow (fun k hk => by have := (hbk k hk).1; omega)
        have hPk5 := Lib.hid (Pk.append (Pk.keep (S' := fun b => S b ∧ b < w.heap.size) (fun q hq _ => hq) (keeps_grown hgrow (fun q hq e => by have := (hbk q e.symm).1; have := hq.2; omega)) (HPk.out.ext hx4)) (Pk.one (k := p.1) (TreeAt.keep (S' := fun b => S b ∧ b < w.heap.size) (fun q hq _ => hq) (keeps_grown hgrow (fun q hq e => by have := (hbk q e.symm).1; have := hq.2; omega)) _ (hTk.out.ext hx4))))
        have hO5 := Lib.hid hown
        go_roundw
        case rel => exact ⟨hx5, j + 1, es ++ [(p.1, g)], by omega, by go_num, by simpa using hO5.out, by
          rw [List.take_add_one, HPI.out, List.filter_append]
          simpa [hh] using hPk5.out⟩
        case measure => simp [intOf]; omega
    · have hjr : j = n := by omega
      go_wp2_with fail
      go_ret
      have h1 := HPk.out
      rw [List.take_of_length_le (by have := HN.out; omega)] at h1
      exact ⟨u5, es, rfl, HO.out, h1, hx⟩
end Go.Proofs.YtocfoheckgdonaaGreatDoor

