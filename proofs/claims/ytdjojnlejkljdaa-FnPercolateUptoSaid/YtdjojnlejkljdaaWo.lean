/-
  Without: a map without a key.
-/
import Derived.Test.YtdjojnlejkljdaaW3
import Derived.Test.YtdjojnlejkljdaaVd
namespace Go.Proofs.Ytdjojnlejkljdaa
open Go.RowKit

def nstep {β : Type} (key : ByteArray) (acc : List ByteArray × List β) (p : ByteArray × β) : List ByteArray × List β := if (p.1.toList == key.toList) = true then acc else (acc.1 ++ [p.1], acc.2 ++ [p.2])
theorem nstep_fold {β : Type} (key : ByteArray) (l : List (ByteArray × β)) (acc : List ByteArray × List β) : l.foldl (nstep key) acc = (acc.1 ++ (l.filter fun p => !seq p.1 key).map Prod.fst, acc.2 ++ (l.filter fun p => !seq p.1 key).map Prod.snd) := by
  induction l generalizing acc with
  | nil => simp
  | cons p r ih =>
    rw [List.foldl_cons, ih]
    unfold nstep
    by_cases h : (p.1.toList == key.toList) = true
    · rw [if_pos h, List.filter_cons_of_neg (by simpa [seq] using h)]
    · have h2 : seq p.1 key = false := by simpa [seq] using h
      rw [if_neg h, List.filter_cons_of_pos (by rw [h2]; rfl)]
      simp
/-- The state of Without: what is made so far. -/
def NSt (S : Nat → Prop) (w wr : World) (acc : List ByteArray × List (El × T)) (e : El) : Prop :=
  Ext w wr ∧
  Box wr w.heap.size #[.int .i64 e.k, .string e.x, .float .f64 e.d, .bool e.y, .slice e.ka e.n e.kc, .slice e.ca e.m e.cc] 30 ∧
  Box wr (w.heap.size + 1) #[.int .i64 0, .string ⟨#[]⟩, .float .f64 0, .bool false, .slice none 0 0, .slice none 0 0] 30 ∧
  (∃ ka kn kc ca cn cc, Making wr (w.heap.size + 3) (w.heap.size + 1 + 1) 5 acc.1 (acc.2.map Prod.fst) ka kn kc ca cn cc) ∧
  (∀ y ∈ acc.2, TreeAt S w y.1 y.2)

theorem NSt.key {S : Nat → Prop} {w wr w' w1 : World} {acc : List ByteArray × List (El × T)} {e : El} {ka : Option Addr} {kn kc : Nat} {ca : Option Addr} {cn cc : Nat} {g cap : Nat} {y : ByteArray}
    (h : NSt S w wr acc e) (M : Making wr (w.heap.size + 3) (w.heap.size + 1 + 1) 5 acc.1 (acc.2.map Prod.fst) ka kn kc ca cn cc) (x : Ext wr w')
    (ho : OwnStrs w1 (w.heap.size + 3) (.slice (some ⟨g, 0, none⟩) (acc.1.length + 1) cap) (acc.1 ++ [y])) (hg : w'.grownBy w1 (Value.slice ka kn kc).ownBlock) (hl : Lies w' (.slice ka kn kc) g) :
    NSt S w (w1.setCell ⟨w.heap.size + 1 + 1, 4, none⟩ (.slice (some ⟨g, 0, none⟩) (acc.1.length + 1) cap)) (acc.1 ++ [y], acc.2) e := by
  obtain ⟨h1, h2, h4, -, h6⟩ := h
  have M' := M.ext x
  exact ⟨M'.extKey (ext_trans h1 x) (by omega) hg _ _, M'.boxKey (h2.ext x) (by omega) (by omega) hg _ _, M'.boxKey (h4.ext x) (by omega) (by omega) hg _ _,
    ⟨_, _, _, _, _, _, M'.key ho hg hl⟩, h6⟩
theorem NSt.kid {S : Nat → Prop} {w wr w' w1 : World} {acc : List ByteArray × List (El × T)} {e : El} {ka : Option Addr} {kn kc : Nat} {ca : Option Addr} {cn cc : Nat} {g cap : Nat} {y : El × T}
    (h : NSt S w wr acc e) (M : Making wr (w.heap.size + 3) (w.heap.size + 1 + 1) 5 acc.1 (acc.2.map Prod.fst) ka kn kc ca cn cc) (x : Ext wr w')
    (ho : OwnEls w1 (w.heap.size + 3) (.slice (some ⟨g, 0, none⟩) (acc.2.length + 1) cap) (acc.2.map Prod.fst ++ [y.1])) (hg : w'.grownBy w1 (Value.slice ca cn cc).ownBlock) (hl : Lies w' (.slice ca cn cc) g) (hy : TreeAt S w y.1 y.2) :
    NSt S w (w1.setCell ⟨w.heap.size + 1 + 1, 5, none⟩ (.slice (some ⟨g, 0, none⟩) (acc.2.length + 1) cap)) (acc.1, acc.2 ++ [y]) e := by
  have eL : acc.2.length = (acc.2.map Prod.fst).length := by simp
  rw [eL] at ho ⊢
  obtain ⟨h1, h2, h4, -, h6⟩ := h
  have M' := M.ext x
  refine ⟨M'.extKid (ext_trans h1 x) (by omega) hg _ _, M'.boxKid (h2.ext x) (by omega) (by omega) hg _ _, M'.boxKid (h4.ext x) (by omega) (by omega) hg _ _,
    ⟨_, _, _, _, _, _, by simpa using M'.kid ho hg hl⟩, fun z hz => ?_⟩
  rcases List.mem_append.1 hz with hz | hz
  · exact h6 z hz
  · rw [List.mem_singleton.1 hz]; exact hy
theorem nst_len {β : Type} (key : ByteArray) (l : List (ByteArray × β)) (k : Nat) : ((l.take k).foldl (nstep key) ([], [])).1.length ≤ k ∧ ((l.take k).foldl (nstep key) ([], [])).2.length ≤ k := by
  rw [nstep_fold]
  have h1 : ((l.take k).filter fun p => !seq p.1 key).length ≤ k := Nat.le_trans (List.length_filter_le _ _) (List.length_take_le _ _)
  constructor <;> simpa using h1

set_option maxHeartbeats 4000000 in
theorem without_map {S : Nat → Prop} (e : El) (l : List (ByteArray × T)) (key : ByteArray) (w : World) (he : TreeAt S w e (mapOf l)) (hlen : l.length ≤ 65536) :
    Calls Try.prog 72 #[e.val, .string key] w fun r w' => ∃ g : El, r = .returned g.val ∧ TreeAt (fun b => S b ∨ w.heap.size ≤ b) w' g (mapOf (l.filter fun p => !seq p.1 key)) ∧ Ext w w' := by
  have hks : (mapOf l).keys = l.map Prod.fst := rfl
  have hxs : (mapOf l).kids = l.map Prod.snd := rfl
  obtain ⟨-, -, -, -, h5, h6⟩ := he.parts
  obtain ⟨Z, hZ, hZn, hZ1⟩ := h6.els
  rw [hxs] at hZ
  have hZl : Z.length = l.length := by have := congrArg List.length hZ; simpa using this
  have HZ := Lib.hid hZ
  have HZL := Lib.hid hZl
  have HZn := Lib.hid hZn
  clear hZ hZn hZl
  obtain ⟨hk1, hk2, hk3, hk4⟩ := h5
  rw [hks] at hk1 hk4
  have HK := Lib.hid hk1
  have HH := Lib.hid h6
  clear h6 hk1 he
  unfold maxLen at hk3
  have hn : e.n ≤ 65536 := by have := HK.out; simp at this; omega
  have hm : e.m = e.n := by have h1 := HK.out; have h2 := HZn.out; have h3 := HZL.out; simp at h1; omega
  obtain ⟨k, x, d, y, ka, n, kc, ca, m, cc⟩ := e
  simp only at hm hn hk2 hk3 hk4 HK HH HZn
  obtain rfl : n = m := hm.symm
  simp only [El.val]
  go_enter Try.func72, Try.ntmps72
  go_wp2_with fail
  go_loopw [6] (fun i wr => ∃ (j : Nat) (acc : List ByteArray × List (El × T)), j ≤ n ∧ i = .int .i64 j ∧ acc = (((l.map Prod.fst).zip Z).take j).foldl (nstep key) ([], []) ∧ NSt S w wr acc ⟨k, x, d, y, ka, n, kc, ca, n, cc⟩) (fun i _ => n - (intOf i).toNat)
  case atStart =>
    refine ⟨0, ([], []), Nat.zero_le _, rfl, rfl, by (repeat (first | exact ext_refl _ | assumption | refine ext_alloc ?_ _ | refine ext_drew ?_ | refine ext_set ?_ (by simp) _ | refine ext_trans ?_ (by assumption))), ?_, ?_, ⟨none, 0, 0, none, 0, 0, ⟨?_, World.ownsRow_nil _ _ _ _, World.ownsRow_nil _ _ _ _, by omega, fun _ h => by cases h⟩⟩, fun _ h => by cases h⟩
    · exact ((Box.at rfl _ _).alloc _).alloc _
    · exact (Box.at (by simp) _ _).alloc _
    · exact Box.at (by simp) _ _
  case round =>
    obtain ⟨k1, acc, hk, rfl, hacc, W⟩ := hrel
    have hl0 := nst_len key ((l.map Prod.fst).zip Z) k1
    rw [← hacc] at hl0
    obtain ⟨hl3, hl4⟩ := hl0
    have HA := Lib.hid hacc
    clear hacc
    by_cases hlt : k1 < n
    · obtain ⟨ky, hky⟩ := some_of_lt HK.out hlt
      obtain ⟨b, off, rfl, hSb, hcell⟩ := hk4 k1 ky hky
      have hcell1 := W.1.cell hcell
      obtain ⟨-, -, -, -, t4, t5⟩ := W.2.1.six
      have HKY := Lib.hid hky
      clear hky
      obtain ⟨z, hz⟩ := some_of_lt HZn.out hlt
      obtain ⟨b2, off2, hca, hSb2, hz6, hzT⟩ := hZ1 k1 z hz
      have HZI := Lib.hid hz
      clear hz
      have hz6 := hz6.keep (W.1.keeps S) hSb2
      obtain ⟨z0, z1, z2, z3, z4, z5⟩ := hz6
      try simp only at hca
      subst hca
      obtain ⟨ka2, kn2, kc2, ca2, cn2, cc2, M⟩ := W.2.2.2.1
      obtain ⟨-, -, -, -, o4, o5⟩ := M.box.six
      by_cases he : (ky.toList == key.toList) = true
      · go_wp2_with fail
        go_roundw
        case rel => exact ⟨k1 + 1, acc, by omega, by go_num, by
          rw [foldl_snoc _ _ (zip_get HKY.out HZI.out), ← HA.out]
          exact (if_pos he).symm, W⟩
        case measure => simp [intOf]; omega
      · have hef : (ky.toList == key.toList) = false := by simpa using he
        go_upto_region 6 with fail
        have hlb : b < w.heap.size := lt_of_cell hcell
        have hMb := M.box.lt
        refine wp_region_order (C3 ⟨w.heap.size + 1 + 1, 4, none⟩ (.slice ka2 kn2 kc2) ⟨w.heap.size, 4, none⟩ (.slice (some ⟨b, off, none⟩) n kc) ⟨b, off + k1, none⟩ (.string ky)) [0, 1, 2, 3, 4, 5, 6, 9] [0, 1, 2, 3, 4, 5, 6, 7, 8, 9, 10] (by kernel_rfl) (by kernel_rfl) (fun d _ _ _ _ h => by cases d <;> exact h) (by kernel_rfl) ?_
        have hS : C3 ⟨w.heap.size + 1 + 1, 4, none⟩ (.slice ka2 kn2 kc2) ⟨w.heap.size, 4, none⟩ (.slice (some ⟨b, off, none⟩) n kc) ⟨b, off + k1, none⟩ (.string ky) wr.drew := ⟨o4, t4, hcell1⟩
        iterate 7 (apply ord_held rfl rfl (by assumption) rfl; (focus ((intro w' hS'); go_simp; (try with_reducible rfl))); (try simp only [Act.put, List.setIfInBounds_toArray, List.set_cons_zero, List.set_cons_succ]))
        have x1 : Ext wr (wr.alloc (.cells #[.string ky] 9)).drew := ext_drew (ext_alloc (ext_refl _) _)
        (apply ord_loud rfl rfl rfl; intro K hK; go_simp)
        refine hK _ _ (fun _ => ⟨x1.cell o4, x1.cell t4, x1.cell hcell1⟩) ?_
        clear hK K
        have M1 := M.ext x1
        apply ord_loud rfl rfl rfl
        intro K hK
        refine wp_append_str _ _ _ rfl (w.heap.size + 3) _ acc.1 rfl M1.keys wr.heap.size ky rfl (by simp) (by omega) (by simp; omega) ?_
        intro g cap w2 hown hgrow hlies hglt
        have hS : C3 ⟨w.heap.size + 1 + 1, 4, none⟩ (.slice ka2 kn2 kc2) ⟨w.heap.size, 4, none⟩ (.slice (some ⟨b, off, none⟩) n kc) ⟨b, off + k1, none⟩ (.string ky) w2 := ⟨M1.cellKey hgrow (x1.cell o4) (by simp), M1.cellKey hgrow (x1.cell t4) (by simp), M1.cellKey hgrow (x1.cell hcell1) (by simp; omega)⟩
        have q4 := (M1.boxMid hgrow).free 4
        refine hK _ _ (fun _ => hS) ?_
        clear hK K
        (try simp only [Act.put, List.setIfInBounds_toArray, List.set_cons_zero, List.set_cons_succ])
        (apply ord_held rfl rfl (by assumption) rfl; (focus ((intro w' hS'); go_simp; (try with_reducible rfl))); (try simp only [Act.put, List.setIfInBounds_toArray, List.set_cons_zero, List.set_cons_succ]))
        have o4 := hS.1
        (apply ord_last rfl rfl rfl (by kernel_rfl); intro K hK; go_simp; refine hK _ _ ?_; clear hK K; (try simp only [Act.put, List.setIfInBounds_toArray, List.set_cons_zero, List.set_cons_succ]))
        refine ord_end ?_
        have W2 := W.key M x1 hown hgrow hlies
        clear hown hgrow hlies hglt hS q4 M M1 o4 t4 o5 t5 x1
        generalize w2.setCell ⟨w.heap.size + 1 + 1, 4, none⟩ (.slice (some ⟨g, 0, none⟩) (acc.1.length + 1) cap) = w3 at W2 ⊢
        obtain ⟨ka3, kn3, kc3, ca3, cn3, cc3, M⟩ := W2.2.2.2.1
        obtain ⟨-, -, -, -, o4, o5⟩ := M.box.six
        go_upto_region 7 with fail
        have hZ6 := (hz6.keep (W2.1.keeps S) hSb2)
        obtain ⟨-, -, -, -, t4, t5⟩ := W2.2.1.six
        have hlb2 : b2 < w.heap.size := lt_of_cell hz6.1
        have hMb := M.box.lt
        refine wp_region_order (fun w' => C2 ⟨w.heap.size + 1 + 1, 5, none⟩ (.slice ca3 cn3 cc3) ⟨w.heap.size, 5, none⟩ (.slice (some ⟨b2, off2, none⟩) n cc) w' ∧ CellsAt w' b2 (off2 + k1 * 6) z.1) [0, 1, 2, 3, 4, 5, 6, 9] [0, 1, 2, 3, 4, 5, 6, 7, 8, 9, 10] (by kernel_rfl) (by kernel_rfl) (fun d _ _ _ _ h => by cases d <;> exact h) (by kernel_rfl) ?_
        have hS : C2 ⟨w.heap.size + 1 + 1, 5, none⟩ (.slice ca3 cn3 cc3) ⟨w.heap.size, 5, none⟩ (.slice (some ⟨b2, off2, none⟩) n cc) w3.drew ∧ CellsAt w3.drew b2 (off2 + k1 * 6) z.1 := ⟨⟨o5, t5⟩, hZ6⟩
        iterate 7 (apply ord_held rfl rfl (by assumption) rfl; (focus ((intro w' hS'); go_simp; (try with_reducible rfl))); (try simp only [Act.put, List.setIfInBounds_toArray, List.set_cons_zero, List.set_cons_succ]))
        have x1 : Ext w3 (w3.alloc (.cells #[.int .i64 z.1.k, .string z.1.x, .float .f64 z.1.d, .bool z.1.y, .slice z.1.ka z.1.n z.1.kc, .slice z.1.ca z.1.m z.1.cc] 30)).drew := ext_drew (ext_alloc (ext_refl _) _)
        have hbz : Box (w3.alloc (.cells #[.int .i64 z.1.k, .string z.1.x, .float .f64 z.1.d, .bool z.1.y, .slice z.1.ka z.1.n z.1.kc, .slice z.1.ca z.1.m z.1.cc] 30)).drew w3.heap.size #[.int .i64 z.1.k, .string z.1.x, .float .f64 z.1.d, .bool z.1.y, .slice z.1.ka z.1.n z.1.kc, .slice z.1.ca z.1.m z.1.cc] 30 := (Box.new _ _ _).drew
        (apply ord_loud rfl rfl rfl; intro K hK; go_simp)
        refine hK _ _ (fun _ => ⟨⟨x1.cell o5, x1.cell t5⟩, hZ6.keep (x1.keeps S) hSb2⟩) ?_
        clear hK K
        have M1 := M.ext x1
        apply ord_loud rfl rfl rfl
        intro K hK
        refine wp_append_tree _ _ _ rfl (w.heap.size + 3) _ (acc.2.map Prod.fst) rfl M1.kids w3.heap.size z.1 rfl (boxCells hbz) (by simp only [List.length_map]; omega) (by simp; omega) ?_
        intro g1 cap1 w4 hown hgrow hlies hglt
        have hS : C2 ⟨w.heap.size + 1 + 1, 5, none⟩ (.slice ca3 cn3 cc3) ⟨w.heap.size, 5, none⟩ (.slice (some ⟨b2, off2, none⟩) n cc) w4 ∧ CellsAt w4 b2 (off2 + k1 * 6) z.1 :=
          ⟨⟨M1.cellKid hgrow (x1.cell o5) (by simp), M1.cellKid hgrow (x1.cell t5) (by simp)⟩, (hZ6.keep (x1.keeps S) hSb2).keep (S := fun q => q = b2) (keeps_grown hgrow (fun q hq e => by have := (M1.kids.block e.symm).1; omega)) rfl⟩
        have q5 := (M1.boxMid' hgrow).free 5
        refine hK _ _ (fun _ => hS) ?_
        clear hK K
        (try simp only [Act.put, List.setIfInBounds_toArray, List.set_cons_zero, List.set_cons_succ])
        (apply ord_held rfl rfl (by assumption) rfl; (focus ((intro w' hS'); go_simp; (try with_reducible rfl))); (try simp only [Act.put, List.setIfInBounds_toArray, List.set_cons_zero, List.set_cons_succ]))
        have o5 := hS.1.1
        (apply ord_last rfl rfl rfl (by kernel_rfl); intro K hK; go_simp; refine hK _ _ ?_; clear hK K; (try simp only [Act.put, List.setIfInBounds_toArray, List.set_cons_zero, List.set_cons_succ]))
        refine ord_end ?_
        have W3 := W2.kid (y := z) M x1 (by simpa using hown) hgrow hlies hzT
        clear hown hgrow hlies hglt hS q5 M M1 o4 o5 t4 t5 x1
        generalize w4.setCell ⟨w.heap.size + 1 + 1, 5, none⟩ (.slice (some ⟨g1, 0, none⟩) (acc.2.length + 1) cap1) = w5 at W3 ⊢
        go_wp2_with fail
        go_roundw
        case rel => exact ⟨k1 + 1, (acc.1 ++ [ky], acc.2 ++ [z]), by omega, by go_num, by
          rw [foldl_snoc _ _ (zip_get HKY.out HZI.out), ← HA.out]
          exact (if_neg he).symm, W3⟩
        case measure => simp [intOf]; omega
    · have hkn : k1 = n := by omega
      have HKN := Lib.hid hkn
      clear hkn
      obtain ⟨-, -, -, -, t4, t5⟩ := W.2.1.six
      obtain ⟨ka2, kn2, kc2, ca2, cn2, cc2, M⟩ := W.2.2.2.1
      obtain ⟨o0, o1, o2, o3, o4, o5⟩ := M.box.six
      have hb := W.2.2.1
      obtain ⟨r0, r1, r2, r3, r4, r5⟩ := hb.six
      have e0 := hb.free 0
      have e1 := hb.free 1
      have e2 := hb.free 2
      have e3 := hb.free 3
      have e4 := hb.free 4
      have e5 := hb.free 5
      go_wp2_with fail
      have hb6 := hb.sto6 (.int .i64 5) (.string ⟨#[]⟩) (.float .f64 0) (.bool false) (.slice ka2 kn2 kc2) (.slice ca2 cn2 cc2)
      have M6 := M.sto6 (b := w.heap.size + 1) (by omega) (by omega) (.int .i64 5) (.string ⟨#[]⟩) (.float .f64 0) (.bool false) (.slice ka2 kn2 kc2) (.slice ca2 cn2 cc2)
      have x6 := ext_sto6 W.1 (b := w.heap.size + 1) (by omega) (.int .i64 5) (.string ⟨#[]⟩) (.float .f64 0) (.bool false) (.slice ka2 kn2 kc2) (.slice ca2 cn2 cc2)
      refine post_tree rfl rfl hb6 rfl ⟨⟨5, ⟨#[]⟩, 0, false, ka2, kn2, kc2, ca2, cn2, cc2⟩, rfl, ?_, x6⟩
      have hzl : l = (l.map Prod.fst).zip (l.map Prod.snd) := (zip_unzip l).symm
      have hfin : acc = (((l.map Prod.fst).zip Z).filter fun p => !seq p.1 key).unzip := by
        rw [HA.out, List.take_of_length_le (by rw [List.length_zip]; have := HK.out; have := HKN.out; omega), nstep_fold, List.unzip_eq_map]
        simp
      have hmapZ : ((l.map Prod.fst).zip Z).map (fun p => (p.1, p.2.2)) = l := by
        conv => rhs; rw [hzl, ← HZ.out]
        rw [List.zip_map_right]
        rfl
      have hfk : acc.1 = (l.filter fun p => !seq p.1 key).map Prod.fst := by
        rw [hfin, List.unzip_eq_map]
        conv => rhs; rw [← hmapZ, List.filter_map]
        simp [Function.comp_def]
      have hfx : acc.2.map Prod.snd = (l.filter fun p => !seq p.1 key).map Prod.snd := by
        rw [hfin, List.unzip_eq_map]
        conv => rhs; rw [← hmapZ, List.filter_map]
        simp [Function.comp_def]
      have he2 : mapOf (l.filter fun p => !seq p.1 key) = .mk 5 ⟨#[]⟩ 0 false acc.1 (acc.2.map Prod.snd) := by rw [hfk, hfx]; rfl
      rw [he2]
      refine M6.tree (by simp) (fun b hb => .inr (by have := (M6.keys.block hb).1; omega)) (fun b hb => .inr (by have := (M6.kids.block hb).1; omega)) ?_
      intro i e t' h1 h2
      rw [List.getElem?_map] at h1 h2
      cases hz : acc.2[i]? with
      | none => rw [hz] at h1; cases h1
      | some z =>
        rw [hz] at h1 h2
        cases h1
        cases h2
        exact TreeAt.keep (fun b hb _ => .inl hb) (x6.keeps S) _ (W.2.2.2.2 z (List.mem_of_getElem? hz))
theorem rising_filter {α : Type} {l : List (ByteArray × α)} (h : Rising l) (f : ByteArray × α → Bool) : Rising (l.filter f) := h.sublist List.filter_sublist
theorem last_filter2 {α : Type} {f : ByteArray} (l : List (ByteArray × α)) (k : ByteArray) : lastOf (l.filter fun p => !seq p.1 f) k = if k = f then none else lastOf l k := by
  induction l with
  | nil => simp [lastOf]
  | cons p r ih =>
    by_cases hp : p.1 = f
    · rw [List.filter_cons_of_neg (by simp [seq_iff.2 hp]), ih, lastOf_cons]
      by_cases hk : k = f
      · rw [if_pos hk, if_pos hk]
      · rw [if_neg hk, if_neg hk, seq_false.2 (fun e => hk (e.symm.trans hp))]
        simp
    · rw [List.filter_cons_of_pos (by simp [seq_false.2 hp]), lastOf_cons, lastOf_cons, ih]
      by_cases hk : k = f
      · rw [if_pos hk, if_pos hk, seq_false.2 (fun e => hp (e.trans hk))]
        simp
      · rw [if_neg hk, if_neg hk]
theorem without_any {S : Nat → Prop} (e : El) (ps : List (ByteArray × T)) (key : ByteArray) (w : World) (he : TreeAt S w e (mapT ps)) (hlen : ps.length ≤ 65536) :
    Calls Try.prog 72 #[e.val, .string key] w fun r w' => ∃ g : El, r = .returned g.val ∧ TreeAt (fun b => S b ∨ w.heap.size ≤ b) w' g (mapT (ps.filter fun p => !seq p.1 key)) ∧ Ext w w' := by
  obtain ⟨l, hm, hR, hlo⟩ := mapT_told ps
  have hll : l.length ≤ 65536 := by have := (mapT_len ps).1; rw [hm] at this; unfold mapOf at this; simp [T.keys] at this; omega
  rw [hm] at he
  rw [mapT_of (rising_filter hR fun p => !seq p.1 key) (fun k => by rw [last_filter2, last_filter2, hlo])]
  exact without_map e l key w he hll
end Go.Proofs.Ytdjojnlejkljdaa
