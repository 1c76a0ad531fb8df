/-
  With: a map with a tree for a key.
-/
import Derived.Test.YtfngaoicoecncaaGreatDoorOwn
import Derived.Test.YtfngaoicoecncaaGreatDoorDraw
import Derived.Test.YtfngaoicoecncaaGreatDoorW2
namespace Go.Proofs.YtfngaoicoecncaaGreatDoor
open Go.RowKit

theorem foldl_snoc {α β : Type} (f : β → α → β) (b : β) {l : List α} {k : Nat} {x : α} (h : l[k]? = some x) : (l.take (k + 1)).foldl f b = f ((l.take k).foldl f b) x := by
  rw [List.take_add_one, h]
  simp

theorem zip_get {α β : Type} {l : List α} {m : List β} {i : Nat} {x : α} {y : β} (h1 : l[i]? = some x) (h2 : m[i]? = some y) : (l.zip m)[i]? = some (x, y) := by
  rw [List.getElem?_zip_eq_some]
  exact ⟨h1, h2⟩

/-- The state of With: what is made so far. -/
def WSt (S : Nat → Prop) (w wr : World) (acc : List ByteArray × List (El × T) × Bool) (e f : El) : Prop :=
  Ext w wr ∧
  Box wr w.heap.size #[.int .i64 e.k, .string e.x, .float .f64 e.d, .bool e.y, .slice e.ka e.n e.kc, .slice e.ca e.m e.cc] 26 ∧
  Box wr (w.heap.size + 1) #[.int .i64 f.k, .string f.x, .float .f64 f.d, .bool f.y, .slice f.ka f.n f.kc, .slice f.ca f.m f.cc] 26 ∧
  Box wr (w.heap.size + 1 + 1) #[.int .i64 0, .string ⟨#[]⟩, .float .f64 0, .bool false, .slice none 0 0, .slice none 0 0] 26 ∧
  (∃ ka kn kc ca cn cc, Making wr (w.heap.size + 4) (w.heap.size + 1 + 1 + 1) 5 acc.1 (acc.2.1.map Prod.fst) ka kn kc ca cn cc) ∧
  (∀ y ∈ acc.2.1, TreeAt S w y.1 y.2)

theorem WSt.key {S : Nat → Prop} {w wr w' w1 : World} {acc : List ByteArray × List (El × T) × Bool} {e f : El} {ka : Option Addr} {kn kc : Nat} {ca : Option Addr} {cn cc : Nat} {g cap : Nat} {y : ByteArray}
    (h : WSt S w wr acc e f) (M : Making wr (w.heap.size + 4) (w.heap.size + 1 + 1 + 1) 5 acc.1 (acc.2.1.map Prod.fst) ka kn kc ca cn cc) (x : Ext wr w')
    (ho : OwnStrs w1 (w.heap.size + 4) (.slice (some ⟨g, 0, none⟩) (acc.1.length + 1) cap) (acc.1 ++ [y])) (hg : w'.grownBy w1 (Value.slice ka kn kc).ownBlock) (hl : Lies w' (.slice ka kn kc) g) (dn : Bool) :
    WSt S w (w1.setCell ⟨w.heap.size + 1 + 1 + 1, 4, none⟩ (.slice (some ⟨g, 0, none⟩) (acc.1.length + 1) cap)) (acc.1 ++ [y], acc.2.1, dn) e f := by
  obtain ⟨h1, h2, h3, h4, -, h6⟩ := h
  have M' := M.ext x
  exact ⟨M'.extKey (ext_trans h1 x) (by omega) hg _ _, M'.boxKey (h2.ext x) (by omega) (by omega) hg _ _, M'.boxKey (h3.ext x) (by omega) (by omega) hg _ _, M'.boxKey (h4.ext x) (by omega) (by omega) hg _ _,
    ⟨_, _, _, _, _, _, M'.key ho hg hl⟩, h6⟩
theorem WSt.kid {S : Nat → Prop} {w wr w' w1 : World} {acc : List ByteArray × List (El × T) × Bool} {e f : El} {ka : Option Addr} {kn kc : Nat} {ca : Option Addr} {cn cc : Nat} {g cap : Nat} {y : El × T}
    (h : WSt S w wr acc e f) (M : Making wr (w.heap.size + 4) (w.heap.size + 1 + 1 + 1) 5 acc.1 (acc.2.1.map Prod.fst) ka kn kc ca cn cc) (x : Ext wr w')
    (ho : OwnEls w1 (w.heap.size + 4) (.slice (some ⟨g, 0, none⟩) (acc.2.1.length + 1) cap) (acc.2.1.map Prod.fst ++ [y.1])) (hg : w'.grownBy w1 (Value.slice ca cn cc).ownBlock) (hl : Lies w' (.slice ca cn cc) g) (hy : TreeAt S w y.1 y.2) (dn : Bool) :
    WSt S w (w1.setCell ⟨w.heap.size + 1 + 1 + 1, 5, none⟩ (.slice (some ⟨g, 0, none⟩) (acc.2.1.length + 1) cap)) (acc.1, acc.2.1 ++ [y], dn) e f := by
  have eL : acc.2.1.length = (acc.2.1.map Prod.fst).length := by simp
  rw [eL] at ho ⊢
  obtain ⟨h1, h2, h3, h4, -, h6⟩ := h
  have M' := M.ext x
  refine ⟨M'.extKid (ext_trans h1 x) (by omega) hg _ _, M'.boxKid (h2.ext x) (by omega) (by omega) hg _ _, M'.boxKid (h3.ext x) (by omega) (by omega) hg _ _, M'.boxKid (h4.ext x) (by omega) (by omega) hg _ _,
    ⟨_, _, _, _, _, _, by simpa using M'.kid ho hg hl⟩, fun z hz => ?_⟩
  rcases List.mem_append.1 hz with hz | hz
  · exact h6 z hz
  · rw [List.mem_singleton.1 hz]; exact hy

theorem boxCells {w : World} {b : Nat} {e : El} {t : TypeId} (h : Box w b #[.int .i64 e.k, .string e.x, .float .f64 e.d, .bool e.y, .slice e.ka e.n e.kc, .slice e.ca e.m e.cc] t) : CellsAt w b 0 e :=
  ⟨h.cell 0 _ rfl, h.cell 1 _ rfl, h.cell 2 _ rfl, h.cell 3 _ rfl, h.cell 4 _ rfl, h.cell 5 _ rfl⟩

set_option maxHeartbeats 2000000 in
theorem with_any {S : Nat → Prop} (e : El) (t : T) (key : ByteArray) (f : El) (kid : T) (w : World) (he : TreeAt S w e t) (hf : TreeAt S w f kid) (hlen : t.keys.length ≤ t.kids.length)
    (hbk : (t.keys.length + 2) * 16 ≤ 140737488355328) (hbx : (t.kids.length + 2) * 88 ≤ 140737488355328) :
    Calls Tryz.prog 43 #[e.val, .string key, f.val] w fun r w' => ∃ g : El, r = .returned g.val ∧ TreeAt (fun b => S b ∨ w.heap.size ≤ b) w' g (withT t key kid) ∧ Ext w w' := by
  obtain ⟨-, -, -, -, h5, h6⟩ := he.parts
  obtain ⟨Z, hZ, hZn, hZ1⟩ := h6.els
  have HZ := Lib.hid hZ
  have HZn := Lib.hid hZn
  clear hZ hZn
  obtain ⟨hk1, hk2, hk3, hk4⟩ := h5
  have HK := Lib.hid hk1
  have HH := Lib.hid h6
  clear h6 hk1
  unfold maxLen at hk3
  cases e with | mk k x d y ka n kc ca m cc =>
  cases f with | mk k' x' d' y' ka' n' kc' ca' m' cc' =>
  simp only [El.val]
  go_enter Tryz.func43, Tryz.ntmps43
  go_wp2_with fail
  go_loopw [8, 9] (fun dn i wr => Ext w wr ∧ ∃ (j : Nat) (acc : List ByteArray × List (El × T) × Bool), j ≤ n ∧ i = .int .i64 j ∧ acc = ((t.keys.zip Z).take j).foldl (wstep key (⟨k', x', d', y', ka', n', kc', ca', m', cc'⟩, kid)) ([], [], false) ∧ dn = .bool acc.2.2 ∧
      WSt S w wr acc ⟨k, x, d, y, ka, n, kc, ca, m, cc⟩ ⟨k', x', d', y', ka', n', kc', ca', m', cc'⟩) (fun _ i _ => n - (intOf i).toNat)
  case atStart =>
    refine ⟨by (repeat (first | exact ext_refl _ | assumption | refine ext_alloc ?_ _ | refine ext_drew ?_ | refine ext_set ?_ (by simp) _ | refine ext_trans ?_ (by assumption))), 0, ([], [], false), Nat.zero_le _, rfl, rfl, rfl, by (repeat (first | exact ext_refl _ | assumption | refine ext_alloc ?_ _ | refine ext_drew ?_ | refine ext_set ?_ (by simp) _ | refine ext_trans ?_ (by assumption))), ?_, ?_, ?_, ⟨none, 0, 0, none, 0, 0, ⟨?_, World.ownsRow_nil _ _ _ _, World.ownsRow_nil _ _ _ _, by omega, fun _ h => by cases h⟩⟩, fun _ h => by cases h⟩
    · exact (((Box.at rfl _ _).alloc _).alloc _).alloc _
    · exact ((Box.at (by simp) _ _).alloc _).alloc _
    · exact (Box.at (by simp) _ _).alloc _
    · exact Box.at (by simp) _ _
  case round =>
    obtain ⟨-, k1, acc, hk, rfl, hacc, rfl, W⟩ := hrel
    have hl0 := wtake_len key ((⟨k', x', d', y', ka', n', kc', ca', m', cc'⟩ : El), kid) (t.keys.zip Z) k1
    rw [← hacc] at hl0
    have hdn : acc.2.2.toNat ≤ 1 := Bool.toNat_le _
    have hl1 : acc.1.length ≤ k1 + 1 := by omega
    have hl2 : acc.2.1.length ≤ k1 + 1 := by omega
    clear hl0 hdn
    have HA := Lib.hid hacc
    clear hacc
    by_cases hlt : k1 < n
    · obtain ⟨ky, hky⟩ := some_of_lt HK.out hlt
      obtain ⟨b, off, rfl, hSb, hcell⟩ := hk4 k1 ky hky
      have hcell1 := W.1.cell hcell
      obtain ⟨-, -, -, -, t4, t5⟩ := W.2.1.six
      have HKY := Lib.hid hky
      have hklt : k1 < t.keys.length := by have := HK.out; omega
      clear hky
      go_upto_region 6 with fail
      go_cut [8, 28] (fun dn v wc => dn = .bool acc.2.2 ∧ v = .bool (!acc.2.2 && !(Op.bytesLess ky.toList key.toList)) ∧ wc = wr)
      case first =>
        cases hd : acc.2.2
        · go_wp2_with fail
          go_meet
          case rel => exact ⟨by rw [hd], by rw [hd]; rfl, rfl⟩
        · go_wp2_with fail
          go_meet
          case rel => exact ⟨by rw [hd], by rw [hd]; rfl, rfl⟩
      case rest =>
        obtain ⟨rfl, rfl, rfl⟩ := hcut
        go_upto_if 28 with fail
        go_cut [8] (fun dn wc => ∃ acc1 : List ByteArray × List (El × T) × Bool, acc1 = (if !acc.2.2 && !(Op.bytesLess ky.toList key.toList) then (acc.1 ++ [key], acc.2.1 ++ [(⟨k', x', d', y', ka', n', kc', ca', m', cc'⟩, kid)], true) else acc) ∧ dn = .bool acc1.2.2 ∧ acc1.1.length ≤ k1 + 2 ∧ acc1.2.1.length ≤ k1 + 2 ∧
          WSt S w wc acc1 ⟨k, x, d, y, some ⟨b, off, none⟩, n, kc, ca, m, cc⟩ ⟨k', x', d', y', ka', n', kc', ca', m', cc'⟩)
        case first =>
          by_cases hi : (!acc.2.2 && !(Op.bytesLess ky.toList key.toList)) = true
          · have hi2 := hi
            simp only [Bool.and_eq_true, Bool.not_eq_true'] at hi2
            obtain ⟨-, hi3⟩ := hi2
            obtain ⟨ka1, kn1, kc1, ca1, cn1, cc1, M⟩ := W.2.2.2.2.1
            obtain ⟨-, -, -, -, o4, o5⟩ := M.box.six
            obtain ⟨f0, f1, f2, f3, f4, f5⟩ := W.2.2.1.six
            rw [hi]
            go_wp2_with (at_builtin; refine list_append_str _ rfl _ _ rfl (w.heap.size + 4) _ acc.1 rfl ?a1 _ key rfl ?a2 ?a3 ?a4 ?a5)
            case a1 => exact (M.ext (ext_alloc (ext_refl _) _)).keys
            try case a2 => simp
            case a3 => omega
            case a4 => have := M.box.lt; simp; omega
            intro g cap w1 hown hgrow hlies hglt
            have hb1 := (M.ext (ext_alloc (ext_refl _) _)).boxMid hgrow
            obtain ⟨-, -, -, -, p4, p5⟩ := hb1.six
            have q4 := hb1.free 4
            have W1 := W.key M (ext_alloc (ext_refl _) _) hown hgrow hlies true
            go_upto_region 8 with fail
            generalize w1.setCell ⟨w.heap.size + 1 + 1 + 1, 4, none⟩ (.slice (some ⟨g, 0, none⟩) (acc.1.length + 1) cap) = w2 at W1 ⊢
            clear hown hgrow hlies hglt hb1 p4 p5 q4 M o4 o5 f0 f1 f2 f3 f4 f5
            obtain ⟨ka2, kn2, kc2, ca2, cn2, cc2, M⟩ := W1.2.2.2.2.1
            obtain ⟨-, -, -, -, o4, o5⟩ := M.box.six
            obtain ⟨f0, f1, f2, f3, f4, f5⟩ := W1.2.2.1.six
            go_wp2_with (at_builtin; refine list_append_tree _ rfl _ _ rfl (w.heap.size + 4) _ (acc.2.1.map Prod.fst) rfl ?b1 _ ⟨k', x', d', y', ka', n', kc', ca', m', cc'⟩ rfl ?b2 ?b3 ?b4 ?b5)
            case b1 => exact (M.ext (ext_alloc (ext_refl _) _)).kids
            try case b2 => exact boxCells (Box.new _ _ _)
            case b3 => try simp only [List.length_map]
                       omega
            case b4 => have := M.box.lt; simp; omega
            intro g1 cap1 w3 hown hgrow hlies hglt
            have hb1 := (M.ext (ext_alloc (ext_refl _) _)).boxMid' hgrow
            obtain ⟨-, -, -, -, p4, p5⟩ := hb1.six
            have q5 := hb1.free 5
            have W2 := W1.kid (y := (⟨k', x', d', y', ka', n', kc', ca', m', cc'⟩, kid)) M (ext_alloc (ext_refl _) _) hown hgrow hlies hf true
            go_wp2_with fail
            go_meet
            case rel => exact ⟨_, (if_pos hi).symm, rfl, by simp; omega, by simp; omega, W2⟩
          · have hif : (!acc.2.2 && !Op.bytesLess ky.toList key.toList) = false := by simpa using hi
            rw [hif]
            go_wp2_with fail
            go_meet
            case rel => exact ⟨acc, (if_neg hi).symm, rfl, by omega, by omega, W⟩
        case rest =>
          obtain ⟨acc1, hacc1, rfl, hl3, hl4, W1⟩ := hcut
          have HA1 := Lib.hid hacc1
          clear hacc1 W t4 t5
          have hcell2 := W1.1.cell hcell
          obtain ⟨-, -, -, -, t4, t5⟩ := W1.2.1.six
          have hkm : k1 < m := by have := HH.out.1; omega
          obtain ⟨z, hz⟩ := some_of_lt HZn.out hkm
          obtain ⟨b2, off2, hca, hSb2, hz6, hzT⟩ := hZ1 k1 z hz
          have HZI := Lib.hid hz
          clear hz
          have hz6 := hz6.keep (W1.1.keeps S) hSb2
          obtain ⟨z0, z1, z2, z3, z4, z5⟩ := hz6
          subst hca
          obtain ⟨ka2, kn2, kc2, ca2, cn2, cc2, M⟩ := W1.2.2.2.2.1
          obtain ⟨-, -, -, -, o4, o5⟩ := M.box.six
          by_cases he : (ky.toList == key.toList) = true
          · go_wp2_with fail
            go_roundw
            case rel => exact ⟨W1.1, k1 + 1, acc1, by omega, by go_num, by
              rw [foldl_snoc _ _ (zip_get HKY.out HZI.out), ← HA.out, HA1.out]
              exact (if_pos he).symm, rfl, W1⟩
            case measure => simp [intOf]; omega
          · have hef : (ky.toList == key.toList) = false := by simpa using he
            go_upto_region 11 with fail
            have hlb : b < w.heap.size := lt_of_cell hcell
            have hMb := M.box.lt
            refine wp_region_order (C3 ⟨w.heap.size + 1 + 1 + 1, 4, none⟩ (.slice ka2 kn2 kc2) ⟨w.heap.size, 4, none⟩ (.slice (some ⟨b, off, none⟩) n kc) ⟨b, off + k1, none⟩ (.string ky)) [0, 1, 2, 3, 4, 5, 6, 9] [0, 1, 2, 3, 4, 5, 6, 7, 8, 9, 10] (by kernel_rfl) (by kernel_rfl) (fun d _ _ _ _ h => by cases d <;> exact h) (by kernel_rfl) ?_
            have hS : C3 ⟨w.heap.size + 1 + 1 + 1, 4, none⟩ (.slice ka2 kn2 kc2) ⟨w.heap.size, 4, none⟩ (.slice (some ⟨b, off, none⟩) n kc) ⟨b, off + k1, none⟩ (.string ky) wc.drew := ⟨o4, t4, hcell2⟩
            iterate 7 (apply ord_held rfl rfl (by assumption) rfl; (focus ((intro w' hS'); go_simp; (try with_reducible rfl))); (try simp only [Act.put, List.setIfInBounds_toArray, List.set_cons_zero, List.set_cons_succ]))
            have x1 : Ext wc (wc.alloc (.cells #[.string ky] 9)).drew := ext_drew (ext_alloc (ext_refl _) _)
            (apply ord_loud rfl rfl rfl; intro K hK; go_simp)
            refine hK _ _ (fun _ => ⟨x1.cell o4, x1.cell t4, x1.cell hcell2⟩) ?_
            clear hK K
            have M1 := M.ext x1
            apply ord_loud rfl rfl rfl
            intro K hK
            refine wp_append_str _ _ _ rfl (w.heap.size + 4) _ acc1.1 rfl M1.keys wc.heap.size ky rfl (by simp) (by omega) (by simp; omega) ?_
            intro g cap w2 hown hgrow hlies hglt
            have hS : C3 ⟨w.heap.size + 1 + 1 + 1, 4, none⟩ (.slice ka2 kn2 kc2) ⟨w.heap.size, 4, none⟩ (.slice (some ⟨b, off, none⟩) n kc) ⟨b, off + k1, none⟩ (.string ky) w2 := ⟨M1.cellKey hgrow (x1.cell o4) (by simp), M1.cellKey hgrow (x1.cell t4) (by simp), M1.cellKey hgrow (x1.cell hcell2) (by simp; omega)⟩
            have q4 := (M1.boxMid hgrow).free 4
            refine hK _ _ (fun _ => hS) ?_
            clear hK K
            (try simp only [Act.put, List.setIfInBounds_toArray, List.set_cons_zero, List.set_cons_succ])
            (apply ord_held rfl rfl (by assumption) rfl; (focus ((intro w' hS'); go_simp; (try with_reducible rfl))); (try simp only [Act.put, List.setIfInBounds_toArray, List.set_cons_zero, List.set_cons_succ]))
            have o4 := hS.1
            (apply ord_last rfl rfl rfl (by kernel_rfl); intro K hK; go_simp; refine hK _ _ ?_; clear hK K; (try simp only [Act.put, List.setIfInBounds_toArray, List.set_cons_zero, List.set_cons_succ]))
            refine ord_end ?_
            have W2 := W1.key M x1 hown hgrow hlies acc1.2.2
            clear hown hgrow hlies hglt hS q4 M M1 o4 t4 o5 t5 x1
            generalize w2.setCell ⟨w.heap.size + 1 + 1 + 1, 4, none⟩ (.slice (some ⟨g, 0, none⟩) (acc1.1.length + 1) cap) = w3 at W2 ⊢
            obtain ⟨ka3, kn3, kc3, ca3, cn3, cc3, M⟩ := W2.2.2.2.2.1
            obtain ⟨-, -, -, -, o4, o5⟩ := M.box.six
            go_upto_region 12 with fail
            have hZ6 := (hz6.keep (W2.1.keeps S) hSb2)
            obtain ⟨-, -, -, -, t4, t5⟩ := W2.2.1.six
            have hlb2 : b2 < w.heap.size := lt_of_cell hz6.1
            have hMb := M.box.lt
            refine wp_region_order (fun w' => C2 ⟨w.heap.size + 1 + 1 + 1, 5, none⟩ (.slice ca3 cn3 cc3) ⟨w.heap.size, 5, none⟩ (.slice (some ⟨b2, off2, none⟩) m cc) w' ∧ CellsAt w' b2 (off2 + k1 * 6) z.1) [0, 1, 2, 3, 4, 5, 6, 9] [0, 1, 2, 3, 4, 5, 6, 7, 8, 9, 10] (by kernel_rfl) (by kernel_rfl) (fun d _ _ _ _ h => by cases d <;> exact h) (by kernel_rfl) ?_
            have hS : C2 ⟨w.heap.size + 1 + 1 + 1, 5, none⟩ (.slice ca3 cn3 cc3) ⟨w.heap.size, 5, none⟩ (.slice (some ⟨b2, off2, none⟩) m cc) w3.drew ∧ CellsAt w3.drew b2 (off2 + k1 * 6) z.1 := ⟨⟨o5, t5⟩, hZ6⟩
            iterate 7 (apply ord_held rfl rfl (by assumption) rfl; (focus ((intro w' hS'); go_simp; (try with_reducible rfl))); (try simp only [Act.put, List.setIfInBounds_toArray, List.set_cons_zero, List.set_cons_succ]))
            have x1 : Ext w3 (w3.alloc (.cells #[.int .i64 z.1.k, .string z.1.x, .float .f64 z.1.d, .bool z.1.y, .slice z.1.ka z.1.n z.1.kc, .slice z.1.ca z.1.m z.1.cc] 26)).drew := ext_drew (ext_alloc (ext_refl _) _)
            have hbz : Box (w3.alloc (.cells #[.int .i64 z.1.k, .string z.1.x, .float .f64 z.1.d, .bool z.1.y, .slice z.1.ka z.1.n z.1.kc, .slice z.1.ca z.1.m z.1.cc] 26)).drew w3.heap.size #[.int .i64 z.1.k, .string z.1.x, .float .f64 z.1.d, .bool z.1.y, .slice z.1.ka z.1.n z.1.kc, .slice z.1.ca z.1.m z.1.cc] 26 := (Box.new _ _ _).drew
            (apply ord_loud rfl rfl rfl; intro K hK; go_simp)
            refine hK _ _ (fun _ => ⟨⟨x1.cell o5, x1.cell t5⟩, hZ6.keep (x1.keeps S) hSb2⟩) ?_
            clear hK K
            have M1 := M.ext x1
            apply ord_loud rfl rfl rfl
            intro K hK
            refine wp_append_tree _ _ _ rfl (w.heap.size + 4) _ (acc1.2.1.map Prod.fst) rfl M1.kids w3.heap.size z.1 rfl (boxCells hbz) (by simp only [List.length_map]; omega) (by simp; omega) ?_
            intro g1 cap1 w4 hown hgrow hlies hglt
            have hS : C2 ⟨w.heap.size + 1 + 1 + 1, 5, none⟩ (.slice ca3 cn3 cc3) ⟨w.heap.size, 5, none⟩ (.slice (some ⟨b2, off2, none⟩) m cc) w4 ∧ CellsAt w4 b2 (off2 + k1 * 6) z.1 :=
              ⟨⟨M1.cellKid hgrow (x1.cell o5) (by simp), M1.cellKid hgrow (x1.cell t5) (by simp)⟩, (hZ6.keep (x1.keeps S) hSb2).keep (S := fun q => q = b2) (keeps_grown hgrow (fun q hq e => by have := (M1.kids.block e.symm).1; omega)) rfl⟩
            have q5 := (M1.boxMid' hgrow).free 5
            refine hK _ _ (fun _ => hS) ?_
            clear hK K
            (try simp only [Act.put, List.setIfInBounds_toArray, List.set_cons_zero, List.set_cons_succ])
            (apply ord_held rfl rfl (by assumption) rfl; (focus ((intro w' hS'); go_simp; (try with_reducible rfl))); (try simp only [Act.put, List.setIfInBounds_toArray, List.set_cons_zero, List.set_cons_succ]))
            have o5 := hS.1.1
            (apply ord_last rfl rfl rfl (by kernel_rfl); intro K hK; go_simp; refine hK _ _ ?_; clear hK K; (try simp only [Act.put, List.setIfInBounds_toArray, List.set_cons_zero, List.set_cons_succ]))
            refine ord_end ?_
            have W3 := W2.kid (y := z) M x1 (by simpa using hown) hgrow hlies hzT acc1.2.2
            clear hown hgrow hlies hglt hS q5 M M1 o4 o5 t4 t5 x1
            generalize w4.setCell ⟨w.heap.size + 1 + 1 + 1, 5, none⟩ (.slice (some ⟨g1, 0, none⟩) (acc1.2.1.length + 1) cap1) = w5 at W3 ⊢
            go_wp2_with fail
            go_roundw
            case rel => exact ⟨W3.1, k1 + 1, (acc1.1 ++ [ky], acc1.2.1 ++ [z], acc1.2.2), by omega, by go_num, by
              rw [foldl_snoc _ _ (zip_get HKY.out HZI.out), ← HA.out, HA1.out]
              exact (if_neg he).symm, rfl, W3⟩
            case measure => simp [intOf]; omega
    · have hkn : k1 = n := by omega
      have HKN := Lib.hid hkn
      clear hkn
      obtain ⟨-, -, -, -, t4, t5⟩ := W.2.1.six
      go_upto_if 69 with fail
      go_cut [8] (fun _ wc => ∃ acc1 : List ByteArray × List (El × T) × Bool, acc1 = wend key (⟨k', x', d', y', ka', n', kc', ca', m', cc'⟩, kid) acc ∧ WSt S w wc acc1 ⟨k, x, d, y, ka, n, kc, ca, m, cc⟩ ⟨k', x', d', y', ka', n', kc', ca', m', cc'⟩)
      case first =>
        by_cases hd : acc.2.2 = true
        · rw [hd]
          go_wp2_with fail
          go_meet
          case rel => exact ⟨acc, (if_pos hd).symm, W⟩
        · have hdf : acc.2.2 = false := by simpa using hd
          rw [hdf]
          have hMn := W.1.sz
          obtain ⟨ka1, kn1, kc1, ca1, cn1, cc1, M⟩ := W.2.2.2.2.1
          obtain ⟨-, -, -, -, o4, o5⟩ := M.box.six
          obtain ⟨f0, f1, f2, f3, f4, f5⟩ := W.2.2.1.six
          go_wp2_with (at_builtin; refine list_append_str _ rfl _ _ rfl (w.heap.size + 4) _ acc.1 rfl ?e1 _ key rfl ?e2 ?e3 ?e4 ?e5)
          case e1 => exact (M.ext (ext_alloc (ext_refl _) _)).keys
          try case e2 => simp
          case e3 => have := HK.out; omega
          case e4 => have := M.box.lt; simp; omega
          intro g cap w1 hown hgrow hlies hglt
          have hb1 := (M.ext (ext_alloc (ext_refl _) _)).boxMid hgrow
          obtain ⟨-, -, -, -, p4, p5⟩ := hb1.six
          have q4 := hb1.free 4
          have W1 := W.key M (ext_alloc (ext_refl _) _) hown hgrow hlies acc.2.2
          go_upto_region 15 with fail
          generalize w1.setCell ⟨w.heap.size + 1 + 1 + 1, 4, none⟩ (.slice (some ⟨g, 0, none⟩) (acc.1.length + 1) cap) = w2 at W1 ⊢
          clear hown hgrow hlies hglt hb1 p4 p5 q4 M o4 o5 f0 f1 f2 f3 f4 f5
          obtain ⟨ka2, kn2, kc2, ca2, cn2, cc2, M⟩ := W1.2.2.2.2.1
          obtain ⟨-, -, -, -, o4, o5⟩ := M.box.six
          obtain ⟨f0, f1, f2, f3, f4, f5⟩ := W1.2.2.1.six
          go_wp2_with (at_builtin; refine list_append_tree _ rfl _ _ rfl (w.heap.size + 4) _ (acc.2.1.map Prod.fst) rfl ?g1 _ ⟨k', x', d', y', ka', n', kc', ca', m', cc'⟩ rfl ?g2 ?g3 ?g4 ?g5)
          case g1 => exact (M.ext (ext_alloc (ext_refl _) _)).kids
          try case g2 => exact boxCells (Box.new _ _ _)
          case g3 => try simp only [List.length_map]
                     have := HK.out
                     omega
          case g4 => have := M.box.lt; simp; omega
          intro g1 cap1 w3 hown hgrow hlies hglt
          have hb1 := (M.ext (ext_alloc (ext_refl _) _)).boxMid' hgrow
          obtain ⟨-, -, -, -, p4, p5⟩ := hb1.six
          have q5 := hb1.free 5
          have W2 := W1.kid (y := (⟨k', x', d', y', ka', n', kc', ca', m', cc'⟩, kid)) M (ext_alloc (ext_refl _) _) hown hgrow hlies hf acc.2.2
          go_wp2_with fail
          go_meet
          case rel => exact ⟨_, (if_neg hd).symm, W2⟩
      case rest =>
        obtain ⟨acc1, hacc1, W1⟩ := hcut
        have HA1 := Lib.hid hacc1
        clear hacc1
        obtain ⟨ka2, kn2, kc2, ca2, cn2, cc2, M⟩ := W1.2.2.2.2.1
        obtain ⟨o0, o1, o2, o3, o4, o5⟩ := M.box.six
        have hb := W1.2.2.2.1
        obtain ⟨r0, r1, r2, r3, r4, r5⟩ := hb.six
        have e0 := hb.free 0
        have e1 := hb.free 1
        have e2 := hb.free 2
        have e3 := hb.free 3
        have e4 := hb.free 4
        have e5 := hb.free 5
        go_wp2_with fail
        have hb6 := hb.sto6 (.int .i64 5) (.string ⟨#[]⟩) (.float .f64 0) (.bool false) (.slice ka2 kn2 kc2) (.slice ca2 cn2 cc2)
        have M6 := M.sto6 (b := w.heap.size + 1 + 1) (by omega) (by omega) (.int .i64 5) (.string ⟨#[]⟩) (.float .f64 0) (.bool false) (.slice ka2 kn2 kc2) (.slice ca2 cn2 cc2)
        have x6 := ext_sto6 W1.1 (b := w.heap.size + 1 + 1) (by omega) (.int .i64 5) (.string ⟨#[]⟩) (.float .f64 0) (.bool false) (.slice ka2 kn2 kc2) (.slice ca2 cn2 cc2)
        refine post_tree rfl rfl hb6 rfl ⟨⟨5, ⟨#[]⟩, 0, false, ka2, kn2, kc2, ca2, cn2, cc2⟩, rfl, ?_, x6⟩
        have hfin : acc1 = withL key ((⟨k', x', d', y', ka', n', kc', ca', m', cc'⟩ : El), kid) t.keys Z := by
          rw [HA1.out, HA.out, withL, List.take_of_length_le (by rw [List.length_zip]; have := HK.out; have := HKN.out; omega)]
        have hmap := withL_map Prod.snd key ((⟨k', x', d', y', ka', n', kc', ca', m', cc'⟩ : El), kid) t.keys Z
        rw [← hfin, HZ.out] at hmap
        have he : withT t key kid = .mk 5 ⟨#[]⟩ 0 false acc1.1 (acc1.2.1.map Prod.snd) := by
          unfold withT
          rw [show withL key kid t.keys t.kids = _ from hmap]
        rw [he]
        refine M6.tree (by simp) (fun b hb => .inr (by have := (M6.keys.block hb).1; omega)) (fun b hb => .inr (by have := (M6.kids.block hb).1; omega)) ?_
        intro i e t' h1 h2
        rw [List.getElem?_map] at h1 h2
        cases hz : acc1.2.1[i]? with
        | none => rw [hz] at h1; cases h1
        | some z =>
          rw [hz] at h1 h2
          cases h1
          cases h2
          exact TreeAt.keep (fun b hb _ => .inl hb) (x6.keeps S) _ (W1.2.2.2.2.2 z (List.mem_of_getElem? hz))
end Go.Proofs.YtfngaoicoecncaaGreatDoor
