/-
  Same: whether two trees are the same.
-/
import Derived.Test.YtfngaoicoecncaaGreatDoorOwn
import Derived.Test.YtfngaoicoecncaaGreatDoorDraw
import Derived.Test.YtfngaoicoecncaaGreatDoorW2
import Derived.Test.YtfngaoicoecncaaGreatDoorW3
namespace Go.Proofs.YtfngaoicoecncaaGreatDoor
open Go.RowKit

/-! ### Same -/
def seqs (a b : List ByteArray) : Bool := (a.zip b).all fun p => seq p.1 p.2
def orderB2 (a b : Nat) : Bool := FloatKind.f64.format.order a b == some .eq
mutual
def sameT : T → T → Bool
  | .mk k x d y ks xs, .mk k' x' d' y' ks' xs' =>
    if k = k' then if xs.length = xs'.length then if ks.length = ks'.length then
      if k = 1 then seq x x' else if k = 2 then orderB2 d d' else if k = 3 then y == y' else if k = 6 then false else seqs ks ks' && samesT xs xs'
    else false else false else false
def samesT : List T → List T → Bool
  | [], _ => true
  | _ :: _, [] => true
  | a :: r, b :: s => sameT a b && samesT r s
end
theorem samesT_eq : ∀ (a b : List T), samesT a b = (a.zip b).all fun p => sameT p.1 p.2
  | [], _ => by simp [samesT]
  | _ :: _, [] => by simp [samesT]
  | a :: r, b :: s => by simp [samesT, samesT_eq r s]

set_option maxHeartbeats 1000000 in
theorem same_step {S : Nat → Prop} (a b : T) (e f : El) (w : World) (he : TreeAt S w e a) (hf : TreeAt S w f b)
    (ih : ∀ x ∈ a.kids, ∀ (y : T) (e f : El) (w : World), TreeAt S w e x → TreeAt S w f y → Calls Tryz.prog 11 #[e.val, f.val] w fun r w' => r = .returned (.bool (sameT x y)) ∧ Ext w w') :
    Calls Tryz.prog 11 #[e.val, f.val] w fun r w' => r = .returned (.bool (sameT a b)) ∧ Ext w w' := by
  obtain ⟨k, x, d, y, ks, xs⟩ := a
  obtain ⟨k', x', d', y', ks', xs'⟩ := b
  obtain ⟨e1, e2, e3, e4, e5, e6⟩ := he.parts
  obtain ⟨f1, f2, f3, f4, f5, f6⟩ := hf.parts
  simp only [T.kind, T.text, T.num, T.yes, T.keys, T.kids] at *
  subst e1 e2 e3 e4 f1 f2 f3 f4
  have hn := e5.1
  have hn' := f5.1
  have hm := e6.1
  have hm' := f6.1
  cases e with | mk k x d y ka n kc ca m cc =>
  cases f with | mk k' x' d' y' ka' n' kc' ca' m' cc' =>
  simp only at *
  simp only [El.val]
  have hbn : n ≤ 9223372036854775807 := by have := e5.2.1; have := e5.2.2.1; unfold maxLen at this; omega
  have hbm : m ≤ 9223372036854775807 := by have := e6.2.1; have := e6.2.2.1; unfold maxLen at this; omega
  have HN := Lib.hid hn
  have HN' := Lib.hid hn'
  have HM := Lib.hid hm
  have HM' := Lib.hid hm'
  simp only [sameT, hn, hn', hm, hm']
  clear hn hn' hm hm'
  have HE := Lib.hid e5
  have HF := Lib.hid f5
  have HX := Lib.hid e6
  have HY := Lib.hid f6
  clear he hf e5 f5 e6 f6
  generalize hR : seqs ks ks' = R1
  generalize hR2 : samesT xs xs' = R2
  have HR := Lib.hid hR
  have HR2 := Lib.hid hR2
  clear hR hR2
  generalize hG : (if k = k' then if m = m' then if n = n' then if k = 1 then seq x x' else if k = 2 then orderB2 d d' else if k = 3 then y == y' else if k = 6 then false else R1 && R2 else false else false else false) = G
  have HG := Lib.hid hG
  clear hG
  by_cases hk : k = k'
  · subst hk
    by_cases hmm : m = m'
    · subst hmm
      by_cases hnn : n = n'
      · subst hnn
        have hg0 : G = (if k = 1 then seq x x' else if k = 2 then orderB2 d d' else if k = 3 then y == y' else if k = 6 then false else R1 && R2) := by rw [← HG.out]; simp
        by_cases k1 : k = 1
        · subst k1
          have hg : G = seq x x' := by rw [hg0]; simp
          subst hg
          clear hg0 HG
          go_enter Tryz.func11, Tryz.ntmps11
          go_wp2
          go_ret
          exact ⟨rfl, by (repeat (first | exact ext_refl _ | assumption | refine ext_alloc ?_ _ | refine ext_drew ?_ | refine ext_set ?_ (by simp) _ | refine ext_trans ?_ (by assumption)))⟩
        by_cases k2 : k = 2
        · subst k2
          have hg : G = orderB2 d d' := by rw [hg0]; simp
          subst hg
          clear hg0 HG k1
          go_enter Tryz.func11, Tryz.ntmps11
          go_wp2
          go_ret
          exact ⟨rfl, by (repeat (first | exact ext_refl _ | assumption | refine ext_alloc ?_ _ | refine ext_drew ?_ | refine ext_set ?_ (by simp) _ | refine ext_trans ?_ (by assumption)))⟩
        by_cases k3 : k = 3
        · subst k3
          have hg : G = (y == y') := by rw [hg0]; simp
          subst hg
          clear hg0 HG k1 k2
          go_enter Tryz.func11, Tryz.ntmps11
          go_wp2
          go_ret
          exact ⟨rfl, by (repeat (first | exact ext_refl _ | assumption | refine ext_alloc ?_ _ | refine ext_drew ?_ | refine ext_set ?_ (by simp) _ | refine ext_trans ?_ (by assumption)))⟩
        by_cases k6 : k = 6
        · subst k6
          have hg : G = false := by rw [hg0]; simp
          subst hg
          clear hg0 HG k1 k2 k3
          go_enter Tryz.func11, Tryz.ntmps11
          go_wp2
          go_ret
          exact ⟨rfl, by (repeat (first | exact ext_refl _ | assumption | refine ext_alloc ?_ _ | refine ext_drew ?_ | refine ext_set ?_ (by simp) _ | refine ext_trans ?_ (by assumption)))⟩
        have hg : G = (R1 && R2) := by rw [hg0, if_neg k1, if_neg k2, if_neg k3, if_neg k6]
        subst hg
        clear hg0 HG
        have q1 : (k == 1) = false := by simpa using k1
        have q2 : (k == 2) = false := by simpa using k2
        have q3 : (k == 3) = false := by simpa using k3
        have q6 : (k == 6) = false := by simpa using k6
        clear k1 k2 k3 k6
        go_enter Tryz.func11, Tryz.ntmps11
        go_wp2_with fail
        go_loopw [5] (fun i wr => Ext w wr ∧ Box wr w.heap.size #[.int .i64 k, .string x, .float .f64 d, .bool y, .slice ka n kc, .slice ca m cc] 26 ∧ Box wr (w.heap.size + 1) #[.int .i64 k, .string x', .float .f64 d', .bool y', .slice ka' n kc', .slice ca' m cc'] 26 ∧
          ∃ j : Nat, j ≤ n ∧ i = .int .i64 j ∧ ((ks.zip ks').take j).all (fun p => seq p.1 p.2) = true) (fun i _ => n - (intOf i).toNat)
        case atStart =>
          refine ⟨by (repeat (first | exact ext_refl _ | assumption | refine ext_alloc ?_ _ | refine ext_drew ?_ | refine ext_set ?_ (by simp) _ | refine ext_trans ?_ (by assumption))), ?_, ?_, 0, Nat.zero_le _, rfl, rfl⟩
          · exact (Box.at rfl _ _).alloc _
          · exact Box.at (by simp) _ _
        case round =>
          obtain ⟨hx, hb1, hb2, j, hj, rfl, hall⟩ := hrel
          have HA := Lib.hid hall
          clear hall
          obtain ⟨-, -, -, -, a4, a5⟩ := hb1.six
          obtain ⟨-, -, -, -, b4, b5⟩ := hb2.six
          by_cases hlt : j < n
          · obtain ⟨s1, hs1⟩ := some_of_lt HN.out hlt
            obtain ⟨s2, hs2⟩ := some_of_lt HN'.out hlt
            obtain ⟨bb, off, hka, -, hc1⟩ := HE.out.2.2.2 j s1 hs1
            obtain ⟨bb', off', hka', -, hc2⟩ := HF.out.2.2.2 j s2 hs2
            subst hka hka'
            have hc1 := hx.cell hc1
            have hc2 := hx.cell hc2
            have HZ := Lib.hid (zip_get hs1 hs2)
            clear hs1 hs2
            go_upto_region 15 with fail
            refine wp_region_order (C4 ⟨w.heap.size, 4, none⟩ (.slice (some ⟨bb, off, none⟩) n kc) ⟨w.heap.size + 1, 4, none⟩ (.slice (some ⟨bb', off', none⟩) n kc') ⟨bb, off + j, none⟩ (.string s1) ⟨bb', off' + j, none⟩ (.string s2)) [0, 1, 2, 3, 4, 5, 6, 7, 8, 9, 10] [0, 1, 2, 3, 4, 5, 6, 7, 8, 9, 10] (by kernel_rfl) (by kernel_rfl) (fun d _ _ _ _ h => by cases d <;> exact h) (by kernel_rfl) ?_
            have hS : C4 ⟨w.heap.size, 4, none⟩ (.slice (some ⟨bb, off, none⟩) n kc) ⟨w.heap.size + 1, 4, none⟩ (.slice (some ⟨bb', off', none⟩) n kc') ⟨bb, off + j, none⟩ (.string s1) ⟨bb', off' + j, none⟩ (.string s2) wr.drew := ⟨a4, b4, hc1, hc2⟩
            iterate 11 (apply ord_held rfl rfl (by assumption) rfl; (focus ((intro w' hS'); go_simp; (try with_reducible rfl))); (try simp only [Act.put, List.setIfInBounds_toArray, List.set_cons_zero, List.set_cons_succ]))
            refine ord_end ?_
            clear hS
            cases hq : seq s1 s2 with
            | false =>
              have hq' : (s1.toList == s2.toList) = false := hq
              rw [hq']
              go_wp2_with fail
              go_ret
              exact ⟨ret_bool (by rw [← HR.out, seqs, all_false HZ.out hq, Bool.false_and]), by (repeat (first | exact ext_refl _ | assumption | refine ext_alloc ?_ _ | refine ext_drew ?_ | refine ext_set ?_ (by simp) _ | refine ext_trans ?_ (by assumption)))⟩
            | true =>
              have hq' : (s1.toList == s2.toList) = true := hq
              rw [hq']
              go_wp2_with fail
              go_roundw
              case rel => exact ⟨ext_drew hx, hb1.drew, hb2.drew, j + 1, by omega, by go_num, by rw [all_snoc HZ.out HA.out]; exact hq⟩
              case measure => simp [intOf]; omega
          · have hks : R1 = true := by
              have := HA.out
              rw [List.take_of_length_le (by rw [List.length_zip]; have := HN.out; omega)] at this
              rw [← HR.out]
              exact this
            subst hks
            go_wp2_with fail
            obtain ⟨wo, rfl⟩ : ∃ wo : World, wo = wr := ⟨_, rfl⟩
            go_loopw [6] (fun i wr => Ext w wr ∧ Box wr w.heap.size #[.int .i64 k, .string x, .float .f64 d, .bool y, .slice ka n kc, .slice ca m cc] 26 ∧ Box wr (w.heap.size + 1) #[.int .i64 k, .string x', .float .f64 d', .bool y', .slice ka' n kc', .slice ca' m cc'] 26 ∧
              ∃ j : Nat, j ≤ m ∧ i = .int .i64 j ∧ ((xs.zip xs').take j).all (fun p => sameT p.1 p.2) = true) (fun i _ => m - (intOf i).toNat)
            case atStart => exact ⟨hx, hb1, hb2, 0, Nat.zero_le _, rfl, rfl⟩
            case round =>
              clear a4 a5 b4 b5 hb1 hb2 hx
              obtain ⟨hx, hb1, hb2, j2, hj2, rfl, hall⟩ := hrel
              have HA2 := Lib.hid hall
              clear hall
              obtain ⟨-, -, -, -, a4, a5⟩ := hb1.six
              obtain ⟨-, -, -, -, b4, b5⟩ := hb2.six
              by_cases hlt2 : j2 < m
              · obtain ⟨t1, ht1⟩ := some_of_lt HM.out hlt2
                obtain ⟨t2, ht2⟩ := some_of_lt HM'.out hlt2
                obtain ⟨bb, off, g1, hka, -, hc1, hT1⟩ := (HX.out.ext hx).get ht1
                obtain ⟨bb', off', g2, hka', -, hc2, hT2⟩ := (HY.out.ext hx).get ht2
                subst hka hka'
                have HZ := Lib.hid (zip_get ht1 ht2)
                have hmem := List.mem_of_getElem? ht1
                clear ht1 ht2
                go_upto_region 20 with fail
                refine wp_region_order (fun w' => C2 ⟨w.heap.size, 5, none⟩ (.slice (some ⟨bb, off, none⟩) m cc) ⟨w.heap.size + 1, 5, none⟩ (.slice (some ⟨bb', off', none⟩) m cc') w' ∧ CellsAt w' bb (off + j2 * 6) g1 ∧ CellsAt w' bb' (off' + j2 * 6) g2) [0, 1, 2, 3, 4, 5, 6, 7, 8, 9, 11] [0, 1, 2, 3, 4, 5, 6, 7, 8, 9, 10, 11] (by kernel_rfl) (by kernel_rfl) (fun d _ _ _ _ h => by cases d <;> exact h) (by kernel_rfl) ?_
                have hS : C2 ⟨w.heap.size, 5, none⟩ (.slice (some ⟨bb, off, none⟩) m cc) ⟨w.heap.size + 1, 5, none⟩ (.slice (some ⟨bb', off', none⟩) m cc') wr.drew ∧ CellsAt wr.drew bb (off + j2 * 6) g1 ∧ CellsAt wr.drew bb' (off' + j2 * 6) g2 := ⟨⟨a5, b5⟩, hc1, hc2⟩
                iterate 10 (apply ord_held rfl rfl (by assumption) rfl; (focus ((intro w' hS'); go_simp; (try with_reducible rfl))); (try simp only [Act.put, List.setIfInBounds_toArray, List.set_cons_zero, List.set_cons_succ]))
                (apply ord_loud rfl rfl rfl; intro K hK; go_simp)
                refine (ih t1 hmem t2 g1 g2 _ (hT1.ext (ext_drew (ext_refl _))) (hT2.ext (ext_drew (ext_refl _)))).mono ?_
                rintro r w2 ⟨rfl, hx2⟩
                have hS : C2 ⟨w.heap.size, 5, none⟩ (.slice (some ⟨bb, off, none⟩) m cc) ⟨w.heap.size + 1, 5, none⟩ (.slice (some ⟨bb', off', none⟩) m cc') w2 ∧ CellsAt w2 bb (off + j2 * 6) g1 ∧ CellsAt w2 bb' (off' + j2 * 6) g2 :=
                  ⟨⟨hx2.cell hS.1.1, hx2.cell hS.1.2⟩, CellsAt.keep (hx2.keeps (fun _ => True)) trivial hS.2.1, CellsAt.keep (hx2.keeps (fun _ => True)) trivial hS.2.2⟩
                refine hK _ _ (fun _ => hS) ?_
                clear hK K
                (try simp only [Act.put, List.setIfInBounds_toArray, List.set_cons_zero, List.set_cons_succ])
                (apply ord_held rfl rfl (by assumption) rfl; (focus ((intro w' hS'); go_simp; (try with_reducible rfl))); (try simp only [Act.put, List.setIfInBounds_toArray, List.set_cons_zero, List.set_cons_succ]))
                refine ord_end ?_
                clear hS
                have hx3 : Ext wr w2 := ext_trans (ext_drew (ext_refl _)) hx2
                cases hq : sameT t1 t2 with
                | false =>
                  go_wp2_with fail
                  go_ret
                  exact ⟨ret_bool (by rw [← HR2.out, samesT_eq, all_false HZ.out hq, Bool.true_and]), by (repeat (first | exact ext_refl _ | assumption | refine ext_alloc ?_ _ | refine ext_drew ?_ | refine ext_set ?_ (by simp) _ | refine ext_trans ?_ (by assumption)))⟩
                | true =>
                  go_wp2_with fail
                  go_roundw
                  case rel => exact ⟨ext_trans hx hx3, hb1.ext hx3, hb2.ext hx3, j2 + 1, by omega, by go_num, by rw [all_snoc HZ.out HA2.out]; exact hq⟩
                  case measure => simp [intOf]; omega
              · go_wp2_with fail
                go_ret
                exact ⟨ret_bool (by
                  have := HA2.out
                  rw [List.take_of_length_le (by rw [List.length_zip]; have := HM.out; omega), ← samesT_eq] at this
                  rw [← HR2.out, this, Bool.and_self]), by (repeat (first | exact ext_refl _ | assumption | refine ext_alloc ?_ _ | refine ext_drew ?_ | refine ext_set ?_ (by simp) _ | refine ext_trans ?_ (by assumption)))⟩
      · have hg : G = false := by rw [← HG.out]; simp [hnn]
        subst hg
        go_enter Tryz.func11, Tryz.ntmps11
        go_wp2
        all_goals (go_ret; exact ⟨rfl, by (repeat (first | exact ext_refl _ | assumption | refine ext_alloc ?_ _ | refine ext_drew ?_ | refine ext_set ?_ (by simp) _ | refine ext_trans ?_ (by assumption)))⟩)
    · have hg : G = false := by rw [← HG.out]; simp [hmm]
      subst hg
      go_enter Tryz.func11, Tryz.ntmps11
      go_wp2
      all_goals (go_ret; exact ⟨rfl, by (repeat (first | exact ext_refl _ | assumption | refine ext_alloc ?_ _ | refine ext_drew ?_ | refine ext_set ?_ (by simp) _ | refine ext_trans ?_ (by assumption)))⟩)
  · have hg : G = false := by rw [← HG.out, if_neg hk]
    subst hg
    go_enter Tryz.func11, Tryz.ntmps11
    go_wp2
    all_goals (go_ret; exact ⟨rfl, by (repeat (first | exact ext_refl _ | assumption | refine ext_alloc ?_ _ | refine ext_drew ?_ | refine ext_set ?_ (by simp) _ | refine ext_trans ?_ (by assumption)))⟩)

theorem same_upto {S : Nat → Prop} (N : Nat) : ∀ (a b : T) (e f : El) (w : World), SizeOf.sizeOf a ≤ N → TreeAt S w e a → TreeAt S w f b → Calls Tryz.prog 11 #[e.val, f.val] w fun r w' => r = .returned (.bool (sameT a b)) ∧ Ext w w' := by
  induction N with
  | zero => intro a b e f w h; cases a; simp at h
  | succ N ih =>
    intro a b e f w h he hf
    refine same_step a b e f w he hf fun x hx y e f w he hf => ih x y e f w ?_ he hf
    cases a with | mk k' x' d' y' ks xs =>
    have := List.sizeOf_lt_of_mem (show x ∈ (xs : List T) from hx)
    simp at h
    omega
theorem same_any {S : Nat → Prop} (a b : T) (e f : El) (w : World) (he : TreeAt S w e a) (hf : TreeAt S w f b) : Calls Tryz.prog 11 #[e.val, f.val] w fun r w' => r = .returned (.bool (sameT a b)) ∧ Ext w w' :=
  same_upto (SizeOf.sizeOf a) a b e f w (Nat.le_refl _) he hf
end Go.Proofs.YtfngaoicoecncaaGreatDoor
