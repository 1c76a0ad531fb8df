/-
  Map, and the small makers of trees.
-/
import Derived.Test.YtfngaoicoecncaaGreatDoorOwn
import Derived.Test.YtfngaoicoecncaaGreatDoorDraw
import Derived.Test.YtfngaoicoecncaaGreatDoorW3
namespace Go.Proofs.YtfngaoicoecncaaGreatDoor
open Go.RowKit

set_option maxHeartbeats 1000000 in
theorem map_any {S : Nat → Prop} (a : Option Addr) (n c : Nat) (ps : List (ByteArray × T)) (w : World) (h : PairsAt S w a n c ps) (hb : (n + 3) * 88 ≤ 140737488355328) :
    Calls Tryz.prog 42 #[.slice a n c] w fun r w' => ∃ g : El, r = .returned g.val ∧ TreeAt (fun b => (S b ∧ b < w.heap.size) ∨ w.heap.size ≤ b) w' g (mapT ps) ∧ Ext w w' := by
  obtain ⟨hl, hn, hm, hp⟩ := h
  unfold maxLen at hm
  have HL := Lib.hid hl
  clear hl
  go_enter Tryz.func42, Tryz.ntmps42
  go_wp2_with fail
  go_loopw [4] (fun i wr => Ext w wr ∧ Box wr w.heap.size (El.arr ⟨0, ⟨#[]⟩, 0, false, none, 0, 0, none, 0, 0⟩) 26 ∧ ∃ (j : Nat) (e : El), j ≤ n ∧ i = .int .i64 j ∧ Box wr (w.heap.size + 1) e.arr 26 ∧
    TreeAt (fun b => (S b ∧ b < w.heap.size) ∨ w.heap.size + 2 ≤ b) wr e (mapT (ps.take j))) (fun i _ => n - (intOf i).toNat)
  case atStart =>
    refine ⟨by (repeat (first | exact ext_refl _ | assumption | refine ext_alloc ?_ _ | refine ext_drew ?_ | refine ext_set ?_ (by simp) _ | refine ext_trans ?_ (by assumption))), (Box.at rfl _ _).alloc _, 0, ⟨5, ⟨#[]⟩, 0, false, none, 0, 0, none, 0, 0⟩, Nat.zero_le _, rfl, Box.at (by simp) _ _, ?_⟩
    exact TreeAt.of rfl rfl rfl rfl ⟨rfl, Nat.le_refl _, by simp [maxLen], fun _ _ h => by simp [mapT, emptyM, T.keys] at h⟩ (KidsAt.of rfl (Nat.le_refl _) (by simp [maxLen]) fun _ _ h => by simp [mapT, emptyM, T.kids] at h)
  case round =>
    obtain ⟨hx, hb1, j, e, hj, rfl, hb2, hT⟩ := hrel
    have hT := Lib.hid hT
    obtain ⟨o0, o1, o2, o3, o4, o5⟩ := hb2.six
    by_cases hlt : j < n
    · obtain ⟨p, hp1⟩ := some_of_lt HL.out hlt
      obtain ⟨b, off, g, rfl, hSb, hc7, hTp⟩ := hp j p hp1
      have HP := Lib.hid hp1
      clear hp1
      have hc7 := Cells7.ext hx hc7
      go_upto_region 5 with fail
      refine wp_region_order (fun w' => Six w' (w.heap.size + 1) e ∧ Cells7 w' b (off + j * 7) p.1 g) [0, 1, 2, 3, 4, 5, 6, 7, 8, 9, 10] [0, 1, 2, 3, 4, 5, 6, 7, 8, 9, 10, 11, 12] (by kernel_rfl) (by kernel_rfl) (fun d _ _ _ _ h => by cases d <;> exact h) (by kernel_rfl) ?_
      have hS : Six wr.drew (w.heap.size + 1) e ∧ Cells7 wr.drew b (off + j * 7) p.1 g := ⟨hb2.Six, hc7⟩
      iterate 11 (apply ord_held rfl rfl (by assumption) rfl; (focus ((intro w' hS'); go_simp; (try with_reducible rfl))); (try simp only [Act.put, List.setIfInBounds_toArray, List.set_cons_zero, List.set_cons_succ]))
      (apply ord_loud rfl rfl rfl; intro K hK; go_simp)
      have hlen := mapT_len (ps.take j)
      have hj2 : (ps.take j).length ≤ j := List.length_take_le _ _
      refine (with_any (S := fun b => (S b ∧ b < w.heap.size) ∨ w.heap.size + 2 ≤ b) e (mapT (ps.take j)) p.1 g p.2 _ (hT.out.ext (ext_drew (ext_refl _))) ((TreeAt.keep (fun b h1 h2 => .inl ⟨h1, h2⟩) (hx.keeps S) _ hTp).ext (ext_drew (ext_refl _))) (by omega) (by omega) (by omega)).mono ?_
      rintro r w2 ⟨e2, rfl, hT2, hx2⟩
      have hS : Six w2 (w.heap.size + 1) e ∧ Cells7 w2 b (off + j * 7) p.1 g := ⟨Six.ext hx2 hS.1, Cells7.ext hx2 hS.2⟩
      refine hK _ _ (fun _ => hS) ?_
      clear hK K
      simp only [El.val]
      (try simp only [Act.put, List.setIfInBounds_toArray, List.set_cons_zero, List.set_cons_succ])
      have hx3 : Ext wr w2 := ext_trans (ext_drew (ext_refl _)) hx2
      have hb3 := hb2.ext hx3
      obtain ⟨q0, q1, q2, q3, q4, q5⟩ := hb3.six
      have f0 := hb3.free 0
      have f1 := hb3.free 1
      have f2 := hb3.free 2
      have f3 := hb3.free 3
      have f4 := hb3.free 4
      have f5 := hb3.free 5
      clear o0 o1 o2 o3 o4 o5
      (apply ord_last rfl rfl rfl (by kernel_rfl); intro K hK; go_simp; refine hK _ _ ?_; clear hK K; (try simp only [Act.put, List.setIfInBounds_toArray, List.set_cons_zero, List.set_cons_succ]))
      refine ord_end ?_
      have hbs := hb2.lt
      have hN : ¬ ((fun b => (S b ∧ b < w.heap.size) ∨ w.heap.size + 2 ≤ b) (w.heap.size + 1)) := by simp
      have hT3 := TreeAt.keep (S' := fun b => (S b ∧ b < w.heap.size) ∨ w.heap.size + 2 ≤ b) (fun _ h _ => h) (keeps_sto w2 hN e2) _ (hT2.to (fun q h _ => by rcases h with h | h; exact h; exact .inr (by simp at h; omega)))
      have hT3 := Lib.hid hT3
      clear hT2 hS
      go_wp2_with fail
      go_roundw
      case rel => exact ⟨ext_sto6 (ext_trans hx hx3) (by omega) _ _ _ _ _ _, (hb1.ext hx3).sto6' (by omega) _ _ _ _ _ _, j + 1, e2, by omega, by go_num, hb3.sto e2, by
        rw [show mapT (ps.take (j + 1)) = withT (mapT (ps.take j)) p.1 p.2 from foldl_snoc _ _ HP.out]
        exact hT3.out⟩
      case measure => simp [intOf]; omega
    · obtain ⟨r0, r1, r2, r3, r4, r5⟩ := hb1.six
      have e0 := hb1.free 0
      have e1 := hb1.free 1
      have e2 := hb1.free 2
      have e3 := hb1.free 3
      have e4 := hb1.free 4
      have e5 := hb1.free 5
      go_wp2_with fail
      refine post_tree rfl rfl (hb1.sto e) rfl ⟨e, rfl, ?_, ext_sto6 hx (by omega) _ _ _ _ _ _⟩
      have := hT.out
      rw [List.take_of_length_le (by have := HL.out; omega)] at this
      refine TreeAt.keep (S := fun b => (S b ∧ b < w.heap.size) ∨ w.heap.size + 2 ≤ b) (fun b h _ => ?_) (keeps_sto wr (by simp) e) _ this
      rcases h with h | h
      · exact .inl h
      · exact .inr (by omega)

/-- Fields that a maker of trees leaves as they are. -/
theorem strs_none {S : Nat → Prop} (w : World) : StrsAt S w none 0 0 [] := ⟨rfl, Nat.le_refl _, by simp [maxLen], fun _ _ h => by simp at h⟩
theorem kids_none {S : Nat → Prop} (w : World) : KidsAt S w none 0 0 [] := KidsAt.of rfl (Nat.le_refl _) (by simp [maxLen]) fun _ _ h => by simp at h

def textT (s : ByteArray) : T := .mk 1 s 0 false [] []
def listT (l : List T) : T := .mk 4 emptyS 0 false [] l

set_option maxHeartbeats 400000 in
theorem text_any (s : ByteArray) (w : World) : Calls Tryz.prog 67 #[.string s] w fun r w' => ∃ g : El, r = .returned g.val ∧ (∀ S, TreeAt S w' g (textT s)) ∧ Ext w w' := by
  go_enter Tryz.func67, Tryz.ntmps67
  go_wp2
  refine post_tree rfl rfl (Box.at rfl _ _) rfl ⟨⟨1, s, 0, false, none, 0, 0, none, 0, 0⟩, rfl, fun S => TreeAt.of rfl rfl rfl rfl (strs_none _) (kids_none _), by (repeat (first | exact ext_refl _ | assumption | refine ext_alloc ?_ _ | refine ext_drew ?_ | refine ext_set ?_ (by simp) _ | refine ext_trans ?_ (by assumption)))⟩

set_option maxHeartbeats 400000 in
theorem list_any {S : Nat → Prop} (a : Option Addr) (n c : Nat) (ts : List T) (w : World) (h : KidsAt S w a n c ts) : Calls Tryz.prog 66 #[.slice a n c] w fun r w' => ∃ g : El, r = .returned g.val ∧ TreeAt S w' g (listT ts) ∧ Ext w w' := by
  have H := Lib.hid h
  clear h
  go_enter Tryz.func66, Tryz.ntmps66
  go_wp2
  refine post_tree rfl rfl (Box.at rfl _ _) rfl ⟨⟨4, ⟨#[]⟩, 0, false, none, 0, 0, a, n, c⟩, rfl, TreeAt.of rfl rfl rfl rfl (strs_none _) (H.out.ext (by (repeat (first | exact ext_refl _ | assumption | refine ext_alloc ?_ _ | refine ext_drew ?_ | refine ext_set ?_ (by simp) _ | refine ext_trans ?_ (by assumption))))), by (repeat (first | exact ext_refl _ | assumption | refine ext_alloc ?_ _ | refine ext_drew ?_ | refine ext_set ?_ (by simp) _ | refine ext_trans ?_ (by assumption)))⟩
end Go.Proofs.YtfngaoicoecncaaGreatDoor
