/-
  Proper trees, queries.
-/
import Derived.Test.YtfngaoicoecncaaGreatDoorPf
import Derived.Test.YtfngaoicoecncaaGreatDoorW5
import Derived.Test.YtfngaoicoecncaaGreatDoorF3
namespace Go.Proofs.YtfngaoicoecncaaGreatDoor
open Go.RowKit

theorem properTs_snoc {l : List T} {t : T} (h : ProperTs l) (k : ProperT t) : ProperTs (l ++ [t]) := (properTs_iff _).2 fun q hq => by
  rcases List.mem_append.1 hq with hq | hq
  · exact (properTs_iff _).1 h q hq
  · simp at hq; subst hq; exact k
theorem pairwise_one (l : List ByteArray) : (l.take (0 + 1)).Pairwise lt := by
  cases l <;> simp
theorem pairwise_snoc {l : List ByteArray} {j : Nat} {s0 s1 : ByteArray} (h : (l.take j).Pairwise lt) (h0 : 0 < j ∧ l[j - 1]? = some s0) (hl : lt s0 s1) : (l.take j ++ [s1]).Pairwise lt := by
  obtain ⟨hj, h0⟩ := h0
  refine List.pairwise_append.2 ⟨h, by simp, fun x hx y hy => ?_⟩
  simp at hy
  subst hy
  obtain ⟨i, rfl⟩ : ∃ i, j = i + 1 := ⟨j - 1, by omega⟩
  rw [Nat.add_sub_cancel] at h0
  rw [take_snoc h0] at hx h
  rcases List.mem_append.1 hx with hx | hx
  · exact lt_trans ((List.pairwise_append.1 h).2.2 x hx s0 (by simp)) hl
  · simp at hx; subst hx; exact hl

set_option maxRecDepth 20000 in
set_option maxHeartbeats 800000 in
theorem proper_zero {S : Nat → Prop} (t : T) (e : El) (w : World) (h : TreeAt S w e t) : Calls Tryz.prog 92 #[e.val, .int .i64 0] w (Yes (ProperT t) w) := by
  obtain ⟨k, x, d, y, ka, kn, kc, ca, m, cc⟩ := e
  have hkk := h.parts.1
  have hSc := Lib.hid fun w' (xx : Ext w w') => scalar_any _ t w' (h.ext xx)
  clear h
  simp only at hkk
  simp only [El.val]
  have hb : Box (w.alloc (.cells (El.arr ⟨k, x, d, y, ka, kn, kc, ca, m, cc⟩) 26)) w.heap.size (El.arr ⟨k, x, d, y, ka, kn, kc, ca, m, cc⟩) 26 := Box.at rfl _ _
  cases hs : scalarT t
  · have HS0 := Lib.hid hs
    clear hs hkk
    go_enter Tryz.func92, Tryz.ntmps92
    go_wp2_with (go_at_call 7; refine (hSc.out _ (by (repeat (first | exact ext_refl _ | assumption | refine ext_alloc ?_ _ | refine ext_drew ?_ | refine ext_set ?_ (by simp) _ | refine ext_trans ?_ (by assumption))))).mono ?_; rintro r w2 ⟨rfl, hx2⟩; rw [HS0.out])
    go_ret
    exact ⟨false, rfl, fun h => (Bool.noConfusion h), by (repeat (first | exact ext_refl _ | assumption | refine ext_alloc ?_ _ | refine ext_drew ?_ | refine ext_set ?_ (by simp) _ | refine ext_trans ?_ (by assumption)))⟩
  · have hP : ProperT t := by cases t; rw [ProperT]; exact .inl hs
    have HP := Lib.hid hP
    have HS0 := Lib.hid hs
    have hk := scalar_kind hs
    rw [← hkk] at hk
    clear hP hkk hs
    have hk4 : (k != 4) = true := by simp; omega
    have hk5 : (k != 5) = true := by simp; omega
    clear hk
    have tok := trivial
    go_enter Tryz.func92, Tryz.ntmps92
    go_wp2_with (first
      | (go_at_call 7; have _t := tok; clear _t tok; refine (hSc.out _ (by (repeat (first | exact ext_refl _ | assumption | refine ext_alloc ?_ _ | refine ext_drew ?_ | refine ext_set ?_ (by simp) _ | refine ext_trans ?_ (by assumption))))).mono ?_; rintro r w2 ⟨rfl, hx2⟩; rw [HS0.out]; have hb2 := hb.ext hx2; obtain ⟨o0, o1, o2, o3, o4, o5⟩ := hb2.six)
      | (go_at_call 7; refine (hSc.out _ (by (repeat (first | exact ext_refl _ | assumption | refine ext_alloc ?_ _ | refine ext_drew ?_ | refine ext_set ?_ (by simp) _ | refine ext_trans ?_ (by assumption))))).mono ?_; rintro r w3 ⟨rfl, hx3⟩; rw [HS0.out]))
    go_ret
    exact ⟨true, rfl, fun _ => HP.out, by (repeat (first | exact ext_refl _ | assumption | refine ext_alloc ?_ _ | refine ext_drew ?_ | refine ext_set ?_ (by simp) _ | refine ext_trans ?_ (by assumption)))⟩
/-- A proper tree at a depth. -/
def PropAt (n : Nat) : Prop := ∀ (S : Nat → Prop) (t : T) (e : El) (D : Int) (w : World), TreeAt S w e t → D = n ∧ n ≤ 1000 → Calls Tryz.prog 92 #[e.val, .int .i64 D] w (Yes (ProperT t) w)
set_option maxRecDepth 20000 in
set_option maxHeartbeats 800000 in
theorem proper_plain {S : Nat → Prop} (t : T) (e : El) (D : Int) (w : World) (h : TreeAt S w e t) (hD1 : 0 < D) (hD2 : D ≤ 1000) (hc : ¬ t.kind = 4 ∧ ¬ t.kind = 5) : Calls Tryz.prog 92 #[e.val, .int .i64 D] w (Yes (ProperT t) w) := by
  obtain ⟨k, x, d, y, ka, kn, kc, ca, m, cc⟩ := e
  have hkk := h.parts.1
  simp only at hkk
  rw [← hkk] at hc
  have hSc := Lib.hid fun w' (xx : Ext w w') => scalar_any _ t w' (h.ext xx)
  clear h hkk
  have hD3 : (D == 0) = false := by simp; omega
  have hk4 : (k != 4) = true := by simp; omega
  have hk5 : (k != 5) = true := by simp; omega
  clear hc
  have hP : scalarT t = true → ProperT t := fun hs => by cases t; rw [ProperT]; exact .inl hs
  have HP := Lib.hid hP
  clear hP
  simp only [El.val]
  go_enter Tryz.func92, Tryz.ntmps92
  go_wp2_with (go_at_call 7; refine (hSc.out _ (by (repeat (first | exact ext_refl _ | assumption | refine ext_alloc ?_ _ | refine ext_drew ?_ | refine ext_set ?_ (by simp) _ | refine ext_trans ?_ (by assumption))))).mono ?_; rintro r w2 ⟨rfl, hx2⟩)
  go_ret
  exact ⟨_, rfl, HP.out, by (repeat (first | exact ext_refl _ | assumption | refine ext_alloc ?_ _ | refine ext_drew ?_ | refine ext_set ?_ (by simp) _ | refine ext_trans ?_ (by assumption)))⟩
set_option maxRecDepth 20000 in
set_option maxHeartbeats 4000000 in
theorem proper_list {S : Nat → Prop} (n : Nat) (ih : PropAt n) (t : T) (e : El) (D : Int) (w : World) (h : TreeAt S w e t) (hD1 : 0 < D) (hD2 : D ≤ 1000) (hDn : D - 1 = n) (hck : t.kind = 4) : Calls Tryz.prog 92 #[e.val, .int .i64 D] w (Yes (ProperT t) w) := by
  obtain ⟨k, x, d, y, ka, kn, kc, ca, m, cc⟩ := e
  have HIH := Lib.hid (ih S)
  clear ih
  obtain ⟨hkk, -, -, -, hS, hK⟩ := h.parts
  clear h
  have hD3 : (D == 0) = false := by simp; omega
  have hnn : n ≤ 1000 := by omega
  simp only at hkk hS hK
  rw [hck] at hkk
  have HCK := Lib.hid hck
  have HSS := Lib.hid hS
  have HK := Lib.hid hK
  have hkl := hS.1
  have hml := hK.1
  have hcb := hK.2.1
  have hkb := hS.2.1
  have hcm := hK.2.2.1
  have hkm := hS.2.2.1
  unfold maxLen at hcm hkm
  have HKL := Lib.hid hkl
  have HML := Lib.hid hml
  subst hkk
  clear hck hS hK hkl hml
  simp only [El.val]
  by_cases hkz : kn = 0
  · subst hkz
    have hb0 : Box (w.alloc (.cells (El.arr ⟨4, x, d, y, ka, 0, kc, ca, m, cc⟩) 26)) w.heap.size (El.arr ⟨4, x, d, y, ka, 0, kc, ca, m, cc⟩) 26 := Box.at rfl _ _
    go_enter Tryz.func92, Tryz.ntmps92
    go_wp2_with fail
    go_loopw [5] (fun i wr => Ext w wr ∧ Box wr w.heap.size (El.arr ⟨4, x, d, y, ka, 0, kc, ca, m, cc⟩) 26 ∧ ∃ (j : Nat), j ≤ m ∧ i = .int .i64 j ∧ ProperTs (t.kids.take j) ∧ ((4:Int) = 5 → (t.keys.take j).Pairwise lt)) (fun i _ => m - (intOf i).toNat)
    case atStart => exact ⟨by (repeat (first | exact ext_refl _ | assumption | refine ext_alloc ?_ _ | refine ext_drew ?_ | refine ext_set ?_ (by simp) _ | refine ext_trans ?_ (by assumption))), hb0, 0, Nat.zero_le _, rfl, by simp [ProperTs], fun _ => by simp⟩
    case round =>
      obtain ⟨hx, hbx, j, hj, rfl, hTS, hPW⟩ := hrel
      have HTS := Lib.hid hTS
      have HPW := Lib.hid hPW
      clear hTS hPW
      obtain ⟨o0, o1, o2, o3, o4, o5⟩ := hbx.six
      by_cases hlt : j < m
      · obtain ⟨t2, ht⟩ := some_of_lt HML.out hlt
        obtain ⟨b, off, e2, rfl, -, hcell, hT2⟩ := (KidsAt.ext hx HK.out).get ht
        have HT := Lib.hid ht
        clear ht
        by_cases hj0 : 0 < j
        · have hjd : decide ((0:Int) < (j:Int)) = true := by rw [decide_eq_true_eq]; omega
          go_upto_region 10 with fail
          refine wp_region_order (fun w' => Six w' w.heap.size ⟨4, x, d, y, ka, 0, kc, some ⟨b, off, none⟩, m, cc⟩ ∧ CellsAt w' b (off + j * 6) e2) [0, 1, 2, 3, 4, 5, 6, 8, 9, 10, 11, 12, 13, 14, 15, 16, 17, 18, 19, 20, 21, 22, 23, 24, 25, 26, 27, 28, 29, 30, 31] [0, 1, 2, 3, 4, 5, 6, 7, 8, 9, 10, 11, 12, 13, 14, 15, 16, 17, 18, 19, 20, 21, 22, 23, 24, 25, 26, 27, 28, 29, 30, 31] (by kernel_rfl) (by kernel_rfl) (fun d _ _ _ _ h => by cases d <;> exact h) (by kernel_rfl) ?_
          have hS : (fun w' => Six w' w.heap.size ⟨4, x, d, y, ka, 0, kc, some ⟨b, off, none⟩, m, cc⟩ ∧ CellsAt w' b (off + j * 6) e2) wr.drew := ⟨hbx.Six, hcell⟩
          (apply ord_held rfl rfl (by assumption) rfl; (focus ((intro w' hS'); go_simp; (try with_reducible rfl))); (try simp only [Act.put, List.setIfInBounds_toArray, List.set_cons_zero, List.set_cons_succ]))
          (apply ord_held rfl rfl (by assumption) rfl; (focus ((intro w' hS'); go_simp; (try with_reducible rfl))); (try simp only [Act.put, List.setIfInBounds_toArray, List.set_cons_zero, List.set_cons_succ]))
          (apply ord_held rfl rfl (by assumption) rfl; (focus ((intro w' hS'); go_simp; (try with_reducible rfl))); (try simp only [Act.put, List.setIfInBounds_toArray, List.set_cons_zero, List.set_cons_succ]))
          (apply ord_held rfl rfl (by assumption) rfl; (focus ((intro w' hS'); go_simp; (try with_reducible rfl))); (try simp only [Act.put, List.setIfInBounds_toArray, List.set_cons_zero, List.set_cons_succ]))
          (apply ord_held rfl rfl (by assumption) rfl; (focus ((intro w' hS'); go_simp; (try with_reducible rfl))); (try simp only [Act.put, List.setIfInBounds_toArray, List.set_cons_zero, List.set_cons_succ]))
          (apply ord_held rfl rfl (by assumption) rfl; (focus ((intro w' hS'); go_simp; (try with_reducible rfl))); (try simp only [Act.put, List.setIfInBounds_toArray, List.set_cons_zero, List.set_cons_succ]))
          (apply ord_held rfl rfl (by assumption) rfl; (focus ((intro w' hS'); go_simp; (try with_reducible rfl))); (try simp only [Act.put, List.setIfInBounds_toArray, List.set_cons_zero, List.set_cons_succ]))
          (apply ord_loud rfl rfl rfl; intro K hK; go_simp)
          refine (HIH.out t2 e2 _ _ (hT2.ext (ext_drew (ext_refl _))) ?arith).mono ?_
          case arith => exact ⟨by first | omega | exact IntWalk.i64_in (by omega) (by omega) | simp (disch := omega) only [IntWalk.i64_in], by omega⟩
          rintro r w2 ⟨b0, rfl, hP2, hx2⟩
          have HP2 := Lib.hid hP2
          clear hP2
          have hS2 : (fun w' => Six w' w.heap.size ⟨4, x, d, y, ka, 0, kc, some ⟨b, off, none⟩, m, cc⟩ ∧ CellsAt w' b (off + j * 6) e2) w2 := ⟨Six.ext hx2 hS.1, hS.2.keep (hx2.keeps (fun _ => True)) trivial⟩
          refine hK _ _ (fun _ => hS2) ?_
          clear hK K hS
          (try simp only [Act.put, List.setIfInBounds_toArray, List.set_cons_zero, List.set_cons_succ])
          cases b0
          · skip
            (apply ord_held rfl rfl (by assumption) rfl; (focus ((intro w' hS'); go_simp; (try with_reducible rfl))); (try simp only [Act.put, List.setIfInBounds_toArray, List.set_cons_zero, List.set_cons_succ]))
            (apply ord_held rfl rfl (by assumption) rfl; (focus ((intro w' hS'); go_simp; (try with_reducible rfl))); (try simp only [Act.put, List.setIfInBounds_toArray, List.set_cons_zero, List.set_cons_succ]))
            (first | (apply ord_guard rfl rfl (by assumption) rfl; (focus ((intro w' hS'); go_simp; (try with_reducible rfl))); (try simp only [Act.put, List.setIfInBounds_toArray, List.set_cons_zero, List.set_cons_succ])) | (apply ord_pass rfl rfl (by assumption) rfl; (try simp only [Act.put, List.setIfInBounds_toArray, List.set_cons_zero, List.set_cons_succ])))
            (first | (apply ord_guard rfl rfl (by assumption) rfl; (focus ((intro w' hS'); go_simp; (try with_reducible rfl))); (try simp only [Act.put, List.setIfInBounds_toArray, List.set_cons_zero, List.set_cons_succ])) | (apply ord_pass rfl rfl (by assumption) rfl; (try simp only [Act.put, List.setIfInBounds_toArray, List.set_cons_zero, List.set_cons_succ])))
            (first | (apply ord_guard rfl rfl (by assumption) rfl; (focus ((intro w' hS'); go_simp; (try with_reducible rfl))); (try simp only [Act.put, List.setIfInBounds_toArray, List.set_cons_zero, List.set_cons_succ])) | (apply ord_pass rfl rfl (by assumption) rfl; (try simp only [Act.put, List.setIfInBounds_toArray, List.set_cons_zero, List.set_cons_succ])))
            (first | (apply ord_guard rfl rfl (by assumption) rfl; (focus ((intro w' hS'); go_simp; (try with_reducible rfl))); (try simp only [Act.put, List.setIfInBounds_toArray, List.set_cons_zero, List.set_cons_succ])) | (apply ord_pass rfl rfl (by assumption) rfl; (try simp only [Act.put, List.setIfInBounds_toArray, List.set_cons_zero, List.set_cons_succ])))
            (first | (apply ord_guard rfl rfl (by assumption) rfl; (focus ((intro w' hS'); go_simp; (try with_reducible rfl))); (try simp only [Act.put, List.setIfInBounds_toArray, List.set_cons_zero, List.set_cons_succ])) | (apply ord_pass rfl rfl (by assumption) rfl; (try simp only [Act.put, List.setIfInBounds_toArray, List.set_cons_zero, List.set_cons_succ])))
            (first | (apply ord_guard rfl rfl (by assumption) rfl; (focus ((intro w' hS'); go_simp; (try with_reducible rfl))); (try simp only [Act.put, List.setIfInBounds_toArray, List.set_cons_zero, List.set_cons_succ])) | (apply ord_pass rfl rfl (by assumption) rfl; (try simp only [Act.put, List.setIfInBounds_toArray, List.set_cons_zero, List.set_cons_succ])))
            (first | (apply ord_guard rfl rfl (by assumption) rfl; (focus ((intro w' hS'); go_simp; (try with_reducible rfl))); (try simp only [Act.put, List.setIfInBounds_toArray, List.set_cons_zero, List.set_cons_succ])) | (apply ord_pass rfl rfl (by assumption) rfl; (try simp only [Act.put, List.setIfInBounds_toArray, List.set_cons_zero, List.set_cons_succ])))
            (first | (apply ord_guard rfl rfl (by assumption) rfl; (focus ((intro w' hS'); go_simp; (try with_reducible rfl))); (try simp only [Act.put, List.setIfInBounds_toArray, List.set_cons_zero, List.set_cons_succ])) | (apply ord_pass rfl rfl (by assumption) rfl; (try simp only [Act.put, List.setIfInBounds_toArray, List.set_cons_zero, List.set_cons_succ])))
            (first | (apply ord_guard rfl rfl (by assumption) rfl; (focus ((intro w' hS'); go_simp; (try with_reducible rfl))); (try simp only [Act.put, List.setIfInBounds_toArray, List.set_cons_zero, List.set_cons_succ])) | (apply ord_pass rfl rfl (by assumption) rfl; (try simp only [Act.put, List.setIfInBounds_toArray, List.set_cons_zero, List.set_cons_succ])))
            (first | (apply ord_guard rfl rfl (by assumption) rfl; (focus ((intro w' hS'); go_simp; (try with_reducible rfl))); (try simp only [Act.put, List.setIfInBounds_toArray, List.set_cons_zero, List.set_cons_succ])) | (apply ord_pass rfl rfl (by assumption) rfl; (try simp only [Act.put, List.setIfInBounds_toArray, List.set_cons_zero, List.set_cons_succ])))
            (first | (apply ord_guard rfl rfl (by assumption) rfl; (focus ((intro w' hS'); go_simp; (try with_reducible rfl))); (try simp only [Act.put, List.setIfInBounds_toArray, List.set_cons_zero, List.set_cons_succ])) | (apply ord_pass rfl rfl (by assumption) rfl; (try simp only [Act.put, List.setIfInBounds_toArray, List.set_cons_zero, List.set_cons_succ])))
            (first | (apply ord_guard rfl rfl (by assumption) rfl; (focus ((intro w' hS'); go_simp; (try with_reducible rfl))); (try simp only [Act.put, List.setIfInBounds_toArray, List.set_cons_zero, List.set_cons_succ])) | (apply ord_pass rfl rfl (by assumption) rfl; (try simp only [Act.put, List.setIfInBounds_toArray, List.set_cons_zero, List.set_cons_succ])))
            (first | (apply ord_guard rfl rfl (by assumption) rfl; (focus ((intro w' hS'); go_simp; (try with_reducible rfl))); (try simp only [Act.put, List.setIfInBounds_toArray, List.set_cons_zero, List.set_cons_succ])) | (apply ord_pass rfl rfl (by assumption) rfl; (try simp only [Act.put, List.setIfInBounds_toArray, List.set_cons_zero, List.set_cons_succ])))
            (first | (apply ord_guard rfl rfl (by assumption) rfl; (focus ((intro w' hS'); go_simp; (try with_reducible rfl))); (try simp only [Act.put, List.setIfInBounds_toArray, List.set_cons_zero, List.set_cons_succ])) | (apply ord_pass rfl rfl (by assumption) rfl; (try simp only [Act.put, List.setIfInBounds_toArray, List.set_cons_zero, List.set_cons_succ])))
            (first | (apply ord_guard rfl rfl (by assumption) rfl; (focus ((intro w' hS'); go_simp; (try with_reducible rfl))); (try simp only [Act.put, List.setIfInBounds_toArray, List.set_cons_zero, List.set_cons_succ])) | (apply ord_pass rfl rfl (by assumption) rfl; (try simp only [Act.put, List.setIfInBounds_toArray, List.set_cons_zero, List.set_cons_succ])))
            (first | (apply ord_guard rfl rfl (by assumption) rfl; (focus ((intro w' hS'); go_simp; (try with_reducible rfl))); (try simp only [Act.put, List.setIfInBounds_toArray, List.set_cons_zero, List.set_cons_succ])) | (apply ord_pass rfl rfl (by assumption) rfl; (try simp only [Act.put, List.setIfInBounds_toArray, List.set_cons_zero, List.set_cons_succ])))
            (first | (apply ord_guard rfl rfl (by assumption) rfl; (focus ((intro w' hS'); go_simp; (try with_reducible rfl))); (try simp only [Act.put, List.setIfInBounds_toArray, List.set_cons_zero, List.set_cons_succ])) | (apply ord_pass rfl rfl (by assumption) rfl; (try simp only [Act.put, List.setIfInBounds_toArray, List.set_cons_zero, List.set_cons_succ])))
            (first | (apply ord_guard rfl rfl (by assumption) rfl; (focus ((intro w' hS'); go_simp; (try with_reducible rfl))); (try simp only [Act.put, List.setIfInBounds_toArray, List.set_cons_zero, List.set_cons_succ])) | (apply ord_pass rfl rfl (by assumption) rfl; (try simp only [Act.put, List.setIfInBounds_toArray, List.set_cons_zero, List.set_cons_succ])))
            (first | (apply ord_guard rfl rfl (by assumption) rfl; (focus ((intro w' hS'); go_simp; (try with_reducible rfl))); (try simp only [Act.put, List.setIfInBounds_toArray, List.set_cons_zero, List.set_cons_succ])) | (apply ord_pass rfl rfl (by assumption) rfl; (try simp only [Act.put, List.setIfInBounds_toArray, List.set_cons_zero, List.set_cons_succ])))
            (first | (apply ord_guard rfl rfl (by assumption) rfl; (focus ((intro w' hS'); go_simp; (try with_reducible rfl))); (try simp only [Act.put, List.setIfInBounds_toArray, List.set_cons_zero, List.set_cons_succ])) | (apply ord_pass rfl rfl (by assumption) rfl; (try simp only [Act.put, List.setIfInBounds_toArray, List.set_cons_zero, List.set_cons_succ])))
            (first | (apply ord_guard rfl rfl (by assumption) rfl; (focus ((intro w' hS'); go_simp; (try with_reducible rfl))); (try simp only [Act.put, List.setIfInBounds_toArray, List.set_cons_zero, List.set_cons_succ])) | (apply ord_pass rfl rfl (by assumption) rfl; (try simp only [Act.put, List.setIfInBounds_toArray, List.set_cons_zero, List.set_cons_succ])))
            (apply ord_held rfl rfl (by assumption) rfl; (focus ((intro w' hS'); go_simp; (try with_reducible rfl))); (try simp only [Act.put, List.setIfInBounds_toArray, List.set_cons_zero, List.set_cons_succ]))
            refine ord_end ?_
            go_wp2_with fail
            go_ret
            exact ⟨false, rfl, fun h => (Bool.noConfusion h), ext_trans hx (ext_trans (ext_drew (ext_refl _)) hx2)⟩
          · have hp2 := HP2.out rfl
            have HPP := Lib.hid hp2
            clear hp2
            (apply ord_held rfl rfl (by assumption) rfl; (focus ((intro w' hS'); go_simp; (try with_reducible rfl))); (try simp only [Act.put, List.setIfInBounds_toArray, List.set_cons_zero, List.set_cons_succ]))
            (apply ord_held rfl rfl (by assumption) rfl; (focus ((intro w' hS'); go_simp; (try with_reducible rfl))); (try simp only [Act.put, List.setIfInBounds_toArray, List.set_cons_zero, List.set_cons_succ]))
            (first | (apply ord_guard rfl rfl (by assumption) rfl; (focus ((intro w' hS'); go_simp; (try with_reducible rfl))); (try simp only [Act.put, List.setIfInBounds_toArray, List.set_cons_zero, List.set_cons_succ])) | (apply ord_pass rfl rfl (by assumption) rfl; (try simp only [Act.put, List.setIfInBounds_toArray, List.set_cons_zero, List.set_cons_succ])))
            (first | (apply ord_guard rfl rfl (by assumption) rfl; (focus ((intro w' hS'); go_simp; (try with_reducible rfl))); (try simp only [Act.put, List.setIfInBounds_toArray, List.set_cons_zero, List.set_cons_succ])) | (apply ord_pass rfl rfl (by assumption) rfl; (try simp only [Act.put, List.setIfInBounds_toArray, List.set_cons_zero, List.set_cons_succ])))
            (first | (apply ord_guard rfl rfl (by assumption) rfl; (focus ((intro w' hS'); go_simp; (try with_reducible rfl))); (try simp only [Act.put, List.setIfInBounds_toArray, List.set_cons_zero, List.set_cons_succ])) | (apply ord_pass rfl rfl (by assumption) rfl; (try simp only [Act.put, List.setIfInBounds_toArray, List.set_cons_zero, List.set_cons_succ])))
            (first | (apply ord_guard rfl rfl (by assumption) rfl; (focus ((intro w' hS'); go_simp; (try with_reducible rfl))); (try simp only [Act.put, List.setIfInBounds_toArray, List.set_cons_zero, List.set_cons_succ])) | (apply ord_pass rfl rfl (by assumption) rfl; (try simp only [Act.put, List.setIfInBounds_toArray, List.set_cons_zero, List.set_cons_succ])))
            (first | (apply ord_guard rfl rfl (by assumption) rfl; (focus ((intro w' hS'); go_simp; (try with_reducible rfl))); (try simp only [Act.put, List.setIfInBounds_toArray, List.set_cons_zero, List.set_cons_succ])) | (apply ord_pass rfl rfl (by assumption) rfl; (try simp only [Act.put, List.setIfInBounds_toArray, List.set_cons_zero, List.set_cons_succ])))
            (first | (apply ord_guard rfl rfl (by assumption) rfl; (focus ((intro w' hS'); go_simp; (try with_reducible rfl))); (try simp only [Act.put, List.setIfInBounds_toArray, List.set_cons_zero, List.set_cons_succ])) | (apply ord_pass rfl rfl (by assumption) rfl; (try simp only [Act.put, List.setIfInBounds_toArray, List.set_cons_zero, List.set_cons_succ])))
            (first | (apply ord_guard rfl rfl (by assumption) rfl; (focus ((intro w' hS'); go_simp; (try with_reducible rfl))); (try simp only [Act.put, List.setIfInBounds_toArray, List.set_cons_zero, List.set_cons_succ])) | (apply ord_pass rfl rfl (by assumption) rfl; (try simp only [Act.put, List.setIfInBounds_toArray, List.set_cons_zero, List.set_cons_succ])))
            (first | (apply ord_guard rfl rfl (by assumption) rfl; (focus ((intro w' hS'); go_simp; (try with_reducible rfl))); (try simp only [Act.put, List.setIfInBounds_toArray, List.set_cons_zero, List.set_cons_succ])) | (apply ord_pass rfl rfl (by assumption) rfl; (try simp only [Act.put, List.setIfInBounds_toArray, List.set_cons_zero, List.set_cons_succ])))
            (first | (apply ord_guard rfl rfl (by assumption) rfl; (focus ((intro w' hS'); go_simp; (try with_reducible rfl))); (try simp only [Act.put, List.setIfInBounds_toArray, List.set_cons_zero, List.set_cons_succ])) | (apply ord_pass rfl rfl (by assumption) rfl; (try simp only [Act.put, List.setIfInBounds_toArray, List.set_cons_zero, List.set_cons_succ])))
            (first | (apply ord_guard rfl rfl (by assumption) rfl; (focus ((intro w' hS'); go_simp; (try with_reducible rfl))); (try simp only [Act.put, List.setIfInBounds_toArray, List.set_cons_zero, List.set_cons_succ])) | (apply ord_pass rfl rfl (by assumption) rfl; (try simp only [Act.put, List.setIfInBounds_toArray, List.set_cons_zero, List.set_cons_succ])))
            (first | (apply ord_guard rfl rfl (by assumption) rfl; (focus ((intro w' hS'); go_simp; (try with_reducible rfl))); (try simp only [Act.put, List.setIfInBounds_toArray, List.set_cons_zero, List.set_cons_succ])) | (apply ord_pass rfl rfl (by assumption) rfl; (try simp only [Act.put, List.setIfInBounds_toArray, List.set_cons_zero, List.set_cons_succ])))
            (first | (apply ord_guard rfl rfl (by assumption) rfl; (focus ((intro w' hS'); go_simp; (try with_reducible rfl))); (try simp only [Act.put, List.setIfInBounds_toArray, List.set_cons_zero, List.set_cons_succ])) | (apply ord_pass rfl rfl (by assumption) rfl; (try simp only [Act.put, List.setIfInBounds_toArray, List.set_cons_zero, List.set_cons_succ])))
            (first | (apply ord_guard rfl rfl (by assumption) rfl; (focus ((intro w' hS'); go_simp; (try with_reducible rfl))); (try simp only [Act.put, List.setIfInBounds_toArray, List.set_cons_zero, List.set_cons_succ])) | (apply ord_pass rfl rfl (by assumption) rfl; (try simp only [Act.put, List.setIfInBounds_toArray, List.set_cons_zero, List.set_cons_succ])))
            (first | (apply ord_guard rfl rfl (by assumption) rfl; (focus ((intro w' hS'); go_simp; (try with_reducible rfl))); (try simp only [Act.put, List.setIfInBounds_toArray, List.set_cons_zero, List.set_cons_succ])) | (apply ord_pass rfl rfl (by assumption) rfl; (try simp only [Act.put, List.setIfInBounds_toArray, List.set_cons_zero, List.set_cons_succ])))
            (first | (apply ord_guard rfl rfl (by assumption) rfl; (focus ((intro w' hS'); go_simp; (try with_reducible rfl))); (try simp only [Act.put, List.setIfInBounds_toArray, List.set_cons_zero, List.set_cons_succ])) | (apply ord_pass rfl rfl (by assumption) rfl; (try simp only [Act.put, List.setIfInBounds_toArray, List.set_cons_zero, List.set_cons_succ])))
            (first | (apply ord_guard rfl rfl (by assumption) rfl; (focus ((intro w' hS'); go_simp; (try with_reducible rfl))); (try simp only [Act.put, List.setIfInBounds_toArray, List.set_cons_zero, List.set_cons_succ])) | (apply ord_pass rfl rfl (by assumption) rfl; (try simp only [Act.put, List.setIfInBounds_toArray, List.set_cons_zero, List.set_cons_succ])))
            (first | (apply ord_guard rfl rfl (by assumption) rfl; (focus ((intro w' hS'); go_simp; (try with_reducible rfl))); (try simp only [Act.put, List.setIfInBounds_toArray, List.set_cons_zero, List.set_cons_succ])) | (apply ord_pass rfl rfl (by assumption) rfl; (try simp only [Act.put, List.setIfInBounds_toArray, List.set_cons_zero, List.set_cons_succ])))
            (first | (apply ord_guard rfl rfl (by assumption) rfl; (focus ((intro w' hS'); go_simp; (try with_reducible rfl))); (try simp only [Act.put, List.setIfInBounds_toArray, List.set_cons_zero, List.set_cons_succ])) | (apply ord_pass rfl rfl (by assumption) rfl; (try simp only [Act.put, List.setIfInBounds_toArray, List.set_cons_zero, List.set_cons_succ])))
            (first | (apply ord_guard rfl rfl (by assumption) rfl; (focus ((intro w' hS'); go_simp; (try with_reducible rfl))); (try simp only [Act.put, List.setIfInBounds_toArray, List.set_cons_zero, List.set_cons_succ])) | (apply ord_pass rfl rfl (by assumption) rfl; (try simp only [Act.put, List.setIfInBounds_toArray, List.set_cons_zero, List.set_cons_succ])))
            (first | (apply ord_guard rfl rfl (by assumption) rfl; (focus ((intro w' hS'); go_simp; (try with_reducible rfl))); (try simp only [Act.put, List.setIfInBounds_toArray, List.set_cons_zero, List.set_cons_succ])) | (apply ord_pass rfl rfl (by assumption) rfl; (try simp only [Act.put, List.setIfInBounds_toArray, List.set_cons_zero, List.set_cons_succ])))
            (first | (apply ord_guard rfl rfl (by assumption) rfl; (focus ((intro w' hS'); go_simp; (try with_reducible rfl))); (try simp only [Act.put, List.setIfInBounds_toArray, List.set_cons_zero, List.set_cons_succ])) | (apply ord_pass rfl rfl (by assumption) rfl; (try simp only [Act.put, List.setIfInBounds_toArray, List.set_cons_zero, List.set_cons_succ])))
            (apply ord_held rfl rfl (by assumption) rfl; (focus ((intro w' hS'); go_simp; (try with_reducible rfl))); (try simp only [Act.put, List.setIfInBounds_toArray, List.set_cons_zero, List.set_cons_succ]))
            refine ord_end ?_
            go_wp2_with fail
            go_roundw
            case rel =>
              refine ⟨ext_trans hx (ext_trans (ext_drew (ext_refl _)) hx2), hbx.ext (ext_trans (ext_drew (ext_refl _)) hx2), j + 1, by omega, by go_num, ?_, ?_⟩
              · rw [take_snoc HT.out]
                exact properTs_snoc HTS.out HPP.out
              · intro h5
                omega
            case measure => simp [intOf]; omega
        · have hjd : decide ((0:Int) < (j:Int)) = false := by rw [decide_eq_false_iff_not]; omega
          go_upto_region 10 with fail
          refine wp_region_order (fun w' => Six w' w.heap.size ⟨4, x, d, y, ka, 0, kc, some ⟨b, off, none⟩, m, cc⟩ ∧ CellsAt w' b (off + j * 6) e2) [0, 1, 2, 3, 4, 5, 6, 8, 9, 10, 11, 12, 13, 14, 15, 16, 17, 18, 19, 20, 21, 22, 23, 24, 25, 26, 27, 28, 29, 30, 31] [0, 1, 2, 3, 4, 5, 6, 7, 8, 9, 10, 11, 12, 13, 14, 15, 16, 17, 18, 19, 20, 21, 22, 23, 24, 25, 26, 27, 28, 29, 30, 31] (by kernel_rfl) (by kernel_rfl) (fun d _ _ _ _ h => by cases d <;> exact h) (by kernel_rfl) ?_
          have hS : (fun w' => Six w' w.heap.size ⟨4, x, d, y, ka, 0, kc, some ⟨b, off, none⟩, m, cc⟩ ∧ CellsAt w' b (off + j * 6) e2) wr.drew := ⟨hbx.Six, hcell⟩
          (apply ord_held rfl rfl (by assumption) rfl; (focus ((intro w' hS'); go_simp; (try with_reducible rfl))); (try simp only [Act.put, List.setIfInBounds_toArray, List.set_cons_zero, List.set_cons_succ]))
          (apply ord_held rfl rfl (by assumption) rfl; (focus ((intro w' hS'); go_simp; (try with_reducible rfl))); (try simp only [Act.put, List.setIfInBounds_toArray, List.set_cons_zero, List.set_cons_succ]))
          (apply ord_held rfl rfl (by assumption) rfl; (focus ((intro w' hS'); go_simp; (try with_reducible rfl))); (try simp only [Act.put, List.setIfInBounds_toArray, List.set_cons_zero, List.set_cons_succ]))
          (apply ord_held rfl rfl (by assumption) rfl; (focus ((intro w' hS'); go_simp; (try with_reducible rfl))); (try simp only [Act.put, List.setIfInBounds_toArray, List.set_cons_zero, List.set_cons_succ]))
          (apply ord_held rfl rfl (by assumption) rfl; (focus ((intro w' hS'); go_simp; (try with_reducible rfl))); (try simp only [Act.put, List.setIfInBounds_toArray, List.set_cons_zero, List.set_cons_succ]))
          (apply ord_held rfl rfl (by assumption) rfl; (focus ((intro w' hS'); go_simp; (try with_reducible rfl))); (try simp only [Act.put, List.setIfInBounds_toArray, List.set_cons_zero, List.set_cons_succ]))
          (apply ord_held rfl rfl (by assumption) rfl; (focus ((intro w' hS'); go_simp; (try with_reducible rfl))); (try simp only [Act.put, List.setIfInBounds_toArray, List.set_cons_zero, List.set_cons_succ]))
          (apply ord_loud rfl rfl rfl; intro K hK; go_simp)
          refine (HIH.out t2 e2 _ _ (hT2.ext (ext_drew (ext_refl _))) ?arith).mono ?_
          case arith => exact ⟨by first | omega | exact IntWalk.i64_in (by omega) (by omega) | simp (disch := omega) only [IntWalk.i64_in], by omega⟩
          rintro r w2 ⟨b0, rfl, hP2, hx2⟩
          have HP2 := Lib.hid hP2
          clear hP2
          have hS2 : (fun w' => Six w' w.heap.size ⟨4, x, d, y, ka, 0, kc, some ⟨b, off, none⟩, m, cc⟩ ∧ CellsAt w' b (off + j * 6) e2) w2 := ⟨Six.ext hx2 hS.1, hS.2.keep (hx2.keeps (fun _ => True)) trivial⟩
          refine hK _ _ (fun _ => hS2) ?_
          clear hK K hS
          (try simp only [Act.put, List.setIfInBounds_toArray, List.set_cons_zero, List.set_cons_succ])
          cases b0
          · skip
            (apply ord_held rfl rfl (by assumption) rfl; (focus ((intro w' hS'); go_simp; (try with_reducible rfl))); (try simp only [Act.put, List.setIfInBounds_toArray, List.set_cons_zero, List.set_cons_succ]))
            (apply ord_held rfl rfl (by assumption) rfl; (focus ((intro w' hS'); go_simp; (try with_reducible rfl))); (try simp only [Act.put, List.setIfInBounds_toArray, List.set_cons_zero, List.set_cons_succ]))
            (first | (apply ord_guard rfl rfl (by assumption) rfl; (focus ((intro w' hS'); go_simp; (try with_reducible rfl))); (try simp only [Act.put, List.setIfInBounds_toArray, List.set_cons_zero, List.set_cons_succ])) | (apply ord_pass rfl rfl (by assumption) rfl; (try simp only [Act.put, List.setIfInBounds_toArray, List.set_cons_zero, List.set_cons_succ])))
            (first | (apply ord_guard rfl rfl (by assumption) rfl; (focus ((intro w' hS'); go_simp; (try with_reducible rfl))); (try simp only [Act.put, List.setIfInBounds_toArray, List.set_cons_zero, List.set_cons_succ])) | (apply ord_pass rfl rfl (by assumption) rfl; (try simp only [Act.put, List.setIfInBounds_toArray, List.set_cons_zero, List.set_cons_succ])))
            (first | (apply ord_guard rfl rfl (by assumption) rfl; (focus ((intro w' hS'); go_simp; (try with_reducible rfl))); (try simp only [Act.put, List.setIfInBounds_toArray, List.set_cons_zero, List.set_cons_succ])) | (apply ord_pass rfl rfl (by assumption) rfl; (try simp only [Act.put, List.setIfInBounds_toArray, List.set_cons_zero, List.set_cons_succ])))
            (first | (apply ord_guard rfl rfl (by assumption) rfl; (focus ((intro w' hS'); go_simp; (try with_reducible rfl))); (try simp only [Act.put, List.setIfInBounds_toArray, List.set_cons_zero, List.set_cons_succ])) | (apply ord_pass rfl rfl (by assumption) rfl; (try simp only [Act.put, List.setIfInBounds_toArray, List.set_cons_zero, List.set_cons_succ])))
            (first | (apply ord_guard rfl rfl (by assumption) rfl; (focus ((intro w' hS'); go_simp; (try with_reducible rfl))); (try simp only [Act.put, List.setIfInBounds_toArray, List.set_cons_zero, List.set_cons_succ])) | (apply ord_pass rfl rfl (by assumption) rfl; (try simp only [Act.put, List.setIfInBounds_toArray, List.set_cons_zero, List.set_cons_succ])))
            (first | (apply ord_guard rfl rfl (by assumption) rfl; (focus ((intro w' hS'); go_simp; (try with_reducible rfl))); (try simp only [Act.put, List.setIfInBounds_toArray, List.set_cons_zero, List.set_cons_succ])) | (apply ord_pass rfl rfl (by assumption) rfl; (try simp only [Act.put, List.setIfInBounds_toArray, List.set_cons_zero, List.set_cons_succ])))
            (first | (apply ord_guard rfl rfl (by assumption) rfl; (focus ((intro w' hS'); go_simp; (try with_reducible rfl))); (try simp only [Act.put, List.setIfInBounds_toArray, List.set_cons_zero, List.set_cons_succ])) | (apply ord_pass rfl rfl (by assumption) rfl; (try simp only [Act.put, List.setIfInBounds_toArray, List.set_cons_zero, List.set_cons_succ])))
            (first | (apply ord_guard rfl rfl (by assumption) rfl; (focus ((intro w' hS'); go_simp; (try with_reducible rfl))); (try simp only [Act.put, List.setIfInBounds_toArray, List.set_cons_zero, List.set_cons_succ])) | (apply ord_pass rfl rfl (by assumption) rfl; (try simp only [Act.put, List.setIfInBounds_toArray, List.set_cons_zero, List.set_cons_succ])))
            (first | (apply ord_guard rfl rfl (by assumption) rfl; (focus ((intro w' hS'); go_simp; (try with_reducible rfl))); (try simp only [Act.put, List.setIfInBounds_toArray, List.set_cons_zero, List.set_cons_succ])) | (apply ord_pass rfl rfl (by assumption) rfl; (try simp only [Act.put, List.setIfInBounds_toArray, List.set_cons_zero, List.set_cons_succ])))
            (first | (apply ord_guard rfl rfl (by assumption) rfl; (focus ((intro w' hS'); go_simp; (try with_reducible rfl))); (try simp only [Act.put, List.setIfInBounds_toArray, List.set_cons_zero, List.set_cons_succ])) | (apply ord_pass rfl rfl (by assumption) rfl; (try simp only [Act.put, List.setIfInBounds_toArray, List.set_cons_zero, List.set_cons_succ])))
            (first | (apply ord_guard rfl rfl (by assumption) rfl; (focus ((intro w' hS'); go_simp; (try with_reducible rfl))); (try simp only [Act.put, List.setIfInBounds_toArray, List.set_cons_zero, List.set_cons_succ])) | (apply ord_pass rfl rfl (by assumption) rfl; (try simp only [Act.put, List.setIfInBounds_toArray, List.set_cons_zero, List.set_cons_succ])))
            (first | (apply ord_guard rfl rfl (by assumption) rfl; (focus ((intro w' hS'); go_simp; (try with_reducible rfl))); (try simp only [Act.put, List.setIfInBounds_toArray, List.set_cons_zero, List.set_cons_succ])) | (apply ord_pass rfl rfl (by assumption) rfl; (try simp only [Act.put, List.setIfInBounds_toArray, List.set_cons_zero, List.set_cons_succ])))
            (first | (apply ord_guard rfl rfl (by assumption) rfl; (focus ((intro w' hS'); go_simp; (try with_reducible rfl))); (try simp only [Act.put, List.setIfInBounds_toArray, List.set_cons_zero, List.set_cons_succ])) | (apply ord_pass rfl rfl (by assumption) rfl; (try simp only [Act.put, List.setIfInBounds_toArray, List.set_cons_zero, List.set_cons_succ])))
            (first | (apply ord_guard rfl rfl (by assumption) rfl; (focus ((intro w' hS'); go_simp; (try with_reducible rfl))); (try simp only [Act.put, List.setIfInBounds_toArray, List.set_cons_zero, List.set_cons_succ])) | (apply ord_pass rfl rfl (by assumption) rfl; (try simp only [Act.put, List.setIfInBounds_toArray, List.set_cons_zero, List.set_cons_succ])))
            (first | (apply ord_guard rfl rfl (by assumption) rfl; (focus ((intro w' hS'); go_simp; (try with_reducible rfl))); (try simp only [Act.put, List.setIfInBounds_toArray, List.set_cons_zero, List.set_cons_succ])) | (apply ord_pass rfl rfl (by assumption) rfl; (try simp only [Act.put, List.setIfInBounds_toArray, List.set_cons_zero, List.set_cons_succ])))
            (first | (apply ord_guard rfl rfl (by assumption) rfl; (focus ((intro w' hS'); go_simp; (try with_reducible rfl))); (try simp only [Act.put, List.setIfInBounds_toArray, List.set_cons_zero, List.set_cons_succ])) | (apply ord_pass rfl rfl (by assumption) rfl; (try simp only [Act.put, List.setIfInBounds_toArray, List.set_cons_zero, List.set_cons_succ])))
            (first | (apply ord_guard rfl rfl (by assumption) rfl; (focus ((intro w' hS'); go_simp; (try with_reducible rfl))); (try simp only [Act.put, List.setIfInBounds_toArray, List.set_cons_zero, List.set_cons_succ])) | (apply ord_pass rfl rfl (by assumption) rfl; (try simp only [Act.put, List.setIfInBounds_toArray, List.set_cons_zero, List.set_cons_succ])))
            (first | (apply ord_guard rfl rfl (by assumption) rfl; (focus ((intro w' hS'); go_simp; (try with_reducible rfl))); (try simp only [Act.put, List.setIfInBounds_toArray, List.set_cons_zero, List.set_cons_succ])) | (apply ord_pass rfl rfl (by assumption) rfl; (try simp only [Act.put, List.setIfInBounds_toArray, List.set_cons_zero, List.set_cons_succ])))
            (first | (apply ord_guard rfl rfl (by assumption) rfl; (focus ((intro w' hS'); go_simp; (try with_reducible rfl))); (try simp only [Act.put, List.setIfInBounds_toArray, List.set_cons_zero, List.set_cons_succ])) | (apply ord_pass rfl rfl (by assumption) rfl; (try simp only [Act.put, List.setIfInBounds_toArray, List.set_cons_zero, List.set_cons_succ])))
            (first | (apply ord_guard rfl rfl (by assumption) rfl; (focus ((intro w' hS'); go_simp; (try with_reducible rfl))); (try simp only [Act.put, List.setIfInBounds_toArray, List.set_cons_zero, List.set_cons_succ])) | (apply ord_pass rfl rfl (by assumption) rfl; (try simp only [Act.put, List.setIfInBounds_toArray, List.set_cons_zero, List.set_cons_succ])))
            (first | (apply ord_guard rfl rfl (by assumption) rfl; (focus ((intro w' hS'); go_simp; (try with_reducible rfl))); (try simp only [Act.put, List.setIfInBounds_toArray, List.set_cons_zero, List.set_cons_succ])) | (apply ord_pass rfl rfl (by assumption) rfl; (try simp only [Act.put, List.setIfInBounds_toArray, List.set_cons_zero, List.set_cons_succ])))
            (apply ord_held rfl rfl (by assumption) rfl; (focus ((intro w' hS'); go_simp; (try with_reducible rfl))); (try simp only [Act.put, List.setIfInBounds_toArray, List.set_cons_zero, List.set_cons_succ]))
            refine ord_end ?_
            go_wp2_with fail
            go_ret
            exact ⟨false, rfl, fun h => (Bool.noConfusion h), ext_trans hx (ext_trans (ext_drew (ext_refl _)) hx2)⟩
          · have hp2 := HP2.out rfl
            have HPP := Lib.hid hp2
            clear hp2
            (apply ord_held rfl rfl (by assumption) rfl; (focus ((intro w' hS'); go_simp; (try with_reducible rfl))); (try simp only [Act.put, List.setIfInBounds_toArray, List.set_cons_zero, List.set_cons_succ]))
            (apply ord_held rfl rfl (by assumption) rfl; (focus ((intro w' hS'); go_simp; (try with_reducible rfl))); (try simp only [Act.put, List.setIfInBounds_toArray, List.set_cons_zero, List.set_cons_succ]))
            (first | (apply ord_guard rfl rfl (by assumption) rfl; (focus ((intro w' hS'); go_simp; (try with_reducible rfl))); (try simp only [Act.put, List.setIfInBounds_toArray, List.set_cons_zero, List.set_cons_succ])) | (apply ord_pass rfl rfl (by assumption) rfl; (try simp only [Act.put, List.setIfInBounds_toArray, List.set_cons_zero, List.set_cons_succ])))
            (first | (apply ord_guard rfl rfl (by assumption) rfl; (focus ((intro w' hS'); go_simp; (try with_reducible rfl))); (try simp only [Act.put, List.setIfInBounds_toArray, List.set_cons_zero, List.set_cons_succ])) | (apply ord_pass rfl rfl (by assumption) rfl; (try simp only [Act.put, List.setIfInBounds_toArray, List.set_cons_zero, List.set_cons_succ])))
            (first | (apply ord_guard rfl rfl (by assumption) rfl; (focus ((intro w' hS'); go_simp; (try with_reducible rfl))); (try simp only [Act.put, List.setIfInBounds_toArray, List.set_cons_zero, List.set_cons_succ])) | (apply ord_pass rfl rfl (by assumption) rfl; (try simp only [Act.put, List.setIfInBounds_toArray, List.set_cons_zero, List.set_cons_succ])))
            (first | (apply ord_guard rfl rfl (by assumption) rfl; (focus ((intro w' hS'); go_simp; (try with_reducible rfl))); (try simp only [Act.put, List.setIfInBounds_toArray, List.set_cons_zero, List.set_cons_succ])) | (apply ord_pass rfl rfl (by assumption) rfl; (try simp only [Act.put, List.setIfInBounds_toArray, List.set_cons_zero, List.set_cons_succ])))
            (first | (apply ord_guard rfl rfl (by assumption) rfl; (focus ((intro w' hS'); go_simp; (try with_reducible rfl))); (try simp only [Act.put, List.setIfInBounds_toArray, List.set_cons_zero, List.set_cons_succ])) | (apply ord_pass rfl rfl (by assumption) rfl; (try simp only [Act.put, List.setIfInBounds_toArray, List.set_cons_zero, List.set_cons_succ])))
            (first | (apply ord_guard rfl rfl (by assumption) rfl; (focus ((intro w' hS'); go_simp; (try with_reducible rfl))); (try simp only [Act.put, List.setIfInBounds_toArray, List.set_cons_zero, List.set_cons_succ])) | (apply ord_pass rfl rfl (by assumption) rfl; (try simp only [Act.put, List.setIfInBounds_toArray, List.set_cons_zero, List.set_cons_succ])))
            (first | (apply ord_guard rfl rfl (by assumption) rfl; (focus ((intro w' hS'); go_simp; (try with_reducible rfl))); (try simp only [Act.put, List.setIfInBounds_toArray, List.set_cons_zero, List.set_cons_succ])) | (apply ord_pass rfl rfl (by assumption) rfl; (try simp only [Act.put, List.setIfInBounds_toArray, List.set_cons_zero, List.set_cons_succ])))
            (first | (apply ord_guard rfl rfl (by assumption) rfl; (focus ((intro w' hS'); go_simp; (try with_reducible rfl))); (try simp only [Act.put, List.setIfInBounds_toArray, List.set_cons_zero, List.set_cons_succ])) | (apply ord_pass rfl rfl (by assumption) rfl; (try simp only [Act.put, List.setIfInBounds_toArray, List.set_cons_zero, List.set_cons_succ])))
            (first | (apply ord_guard rfl rfl (by assumption) rfl; (focus ((intro w' hS'); go_simp; (try with_reducible rfl))); (try simp only [Act.put, List.setIfInBounds_toArray, List.set_cons_zero, List.set_cons_succ])) | (apply ord_pass rfl rfl (by assumption) rfl; (try simp only [Act.put, List.setIfInBounds_toArray, List.set_cons_zero, List.set_cons_succ])))
            (first | (apply ord_guard rfl rfl (by assumption) rfl; (focus ((intro w' hS'); go_simp; (try with_reducible rfl))); (try simp only [Act.put, List.setIfInBounds_toArray, List.set_cons_zero, List.set_cons_succ])) | (apply ord_pass rfl rfl (by assumption) rfl; (try simp only [Act.put, List.setIfInBounds_toArray, List.set_cons_zero, List.set_cons_succ])))
            (first | (apply ord_guard rfl rfl (by assumption) rfl; (focus ((intro w' hS'); go_simp; (try with_reducible rfl))); (try simp only [Act.put, List.setIfInBounds_toArray, List.set_cons_zero, List.set_cons_succ])) | (apply ord_pass rfl rfl (by assumption) rfl; (try simp only [Act.put, List.setIfInBounds_toArray, List.set_cons_zero, List.set_cons_succ])))
            (first | (apply ord_guard rfl rfl (by assumption) rfl; (focus ((intro w' hS'); go_simp; (try with_reducible rfl))); (try simp only [Act.put, List.setIfInBounds_toArray, List.set_cons_zero, List.set_cons_succ])) | (apply ord_pass rfl rfl (by assumption) rfl; (try simp only [Act.put, List.setIfInBounds_toArray, List.set_cons_zero, List.set_cons_succ])))
            (first | (apply ord_guard rfl rfl (by assumption) rfl; (focus ((intro w' hS'); go_simp; (try with_reducible rfl))); (try simp only [Act.put, List.setIfInBounds_toArray, List.set_cons_zero, List.set_cons_succ])) | (apply ord_pass rfl rfl (by assumption) rfl; (try simp only [Act.put, List.setIfInBounds_toArray, List.set_cons_zero, List.set_cons_succ])))
            (first | (apply ord_guard rfl rfl (by assumption) rfl; (focus ((intro w' hS'); go_simp; (try with_reducible rfl))); (try simp only [Act.put, List.setIfInBounds_toArray, List.set_cons_zero, List.set_cons_succ])) | (apply ord_pass rfl rfl (by assumption) rfl; (try simp only [Act.put, List.setIfInBounds_toArray, List.set_cons_zero, List.set_cons_succ])))
            (first | (apply ord_guard rfl rfl (by assumption) rfl; (focus ((intro w' hS'); go_simp; (try with_reducible rfl))); (try simp only [Act.put, List.setIfInBounds_toArray, List.set_cons_zero, List.set_cons_succ])) | (apply ord_pass rfl rfl (by assumption) rfl; (try simp only [Act.put, List.setIfInBounds_toArray, List.set_cons_zero, List.set_cons_succ])))
            (first | (apply ord_guard rfl rfl (by assumption) rfl; (focus ((intro w' hS'); go_simp; (try with_reducible rfl))); (try simp only [Act.put, List.setIfInBounds_toArray, List.set_cons_zero, List.set_cons_succ])) | (apply ord_pass rfl rfl (by assumption) rfl; (try simp only [Act.put, List.setIfInBounds_toArray, List.set_cons_zero, List.set_cons_succ])))
            (first | (apply ord_guard rfl rfl (by assumption) rfl; (focus ((intro w' hS'); go_simp; (try with_reducible rfl))); (try simp only [Act.put, List.setIfInBounds_toArray, List.set_cons_zero, List.set_cons_succ])) | (apply ord_pass rfl rfl (by assumption) rfl; (try simp only [Act.put, List.setIfInBounds_toArray, List.set_cons_zero, List.set_cons_succ])))
            (first | (apply ord_guard rfl rfl (by assumption) rfl; (focus ((intro w' hS'); go_simp; (try with_reducible rfl))); (try simp only [Act.put, List.setIfInBounds_toArray, List.set_cons_zero, List.set_cons_succ])) | (apply ord_pass rfl rfl (by assumption) rfl; (try simp only [Act.put, List.setIfInBounds_toArray, List.set_cons_zero, List.set_cons_succ])))
            (first | (apply ord_guard rfl rfl (by assumption) rfl; (focus ((intro w' hS'); go_simp; (try with_reducible rfl))); (try simp only [Act.put, List.setIfInBounds_toArray, List.set_cons_zero, List.set_cons_succ])) | (apply ord_pass rfl rfl (by assumption) rfl; (try simp only [Act.put, List.setIfInBounds_toArray, List.set_cons_zero, List.set_cons_succ])))
            (first | (apply ord_guard rfl rfl (by assumption) rfl; (focus ((intro w' hS'); go_simp; (try with_reducible rfl))); (try simp only [Act.put, List.setIfInBounds_toArray, List.set_cons_zero, List.set_cons_succ])) | (apply ord_pass rfl rfl (by assumption) rfl; (try simp only [Act.put, List.setIfInBounds_toArray, List.set_cons_zero, List.set_cons_succ])))
            (first | (apply ord_guard rfl rfl (by assumption) rfl; (focus ((intro w' hS'); go_simp; (try with_reducible rfl))); (try simp only [Act.put, List.setIfInBounds_toArray, List.set_cons_zero, List.set_cons_succ])) | (apply ord_pass rfl rfl (by assumption) rfl; (try simp only [Act.put, List.setIfInBounds_toArray, List.set_cons_zero, List.set_cons_succ])))
            (apply ord_held rfl rfl (by assumption) rfl; (focus ((intro w' hS'); go_simp; (try with_reducible rfl))); (try simp only [Act.put, List.setIfInBounds_toArray, List.set_cons_zero, List.set_cons_succ]))
            refine ord_end ?_
            go_wp2_with fail
            go_roundw
            case rel =>
              refine ⟨ext_trans hx (ext_trans (ext_drew (ext_refl _)) hx2), hbx.ext (ext_trans (ext_drew (ext_refl _)) hx2), j + 1, by omega, by go_num, ?_, ?_⟩
              · rw [take_snoc HT.out]
                exact properTs_snoc HTS.out HPP.out
              · intro h5
                omega
            case measure => simp [intOf]; omega
      · skip
        have hjm : j = m := by omega
        subst hjm
        have hfull : t.kids.take j = t.kids := List.take_of_length_le (by have := HML.out; omega)
        have hTS := HTS.out
        rw [hfull] at hTS
        have hP : ProperT t := by
          obtain ⟨tk, tx, td, ty, tks, tkids⟩ := t
          rw [ProperT]
          have h1 := HCK.out
          have h2 := HKL.out
          simp only [T.kind, T.keys, T.kids] at h1 h2 hTS
          exact .inr ⟨.inl ⟨h1, List.length_eq_zero_iff.1 (by omega)⟩, hTS⟩
        have HP := Lib.hid hP
        clear hP hTS
        go_wp2_with fail
        go_ret
        exact ⟨true, rfl, fun _ => HP.out, by (repeat (first | exact ext_refl _ | assumption | refine ext_alloc ?_ _ | refine ext_drew ?_ | refine ext_set ?_ (by simp) _ | refine ext_trans ?_ (by assumption)))⟩
  · go_enter Tryz.func92, Tryz.ntmps92
    go_wp2_with fail
    go_ret
    exact ⟨false, rfl, fun h => (Bool.noConfusion h), by (repeat (first | exact ext_refl _ | assumption | refine ext_alloc ?_ _ | refine ext_drew ?_ | refine ext_set ?_ (by simp) _ | refine ext_trans ?_ (by assumption)))⟩
set_option maxRecDepth 20000 in
set_option maxHeartbeats 4000000 in
theorem proper_map {S : Nat → Prop} (n : Nat) (ih : PropAt n) (t : T) (e : El) (D : Int) (w : World) (h : TreeAt S w e t) (hD1 : 0 < D) (hD2 : D ≤ 1000) (hDn : D - 1 = n) (hck : t.kind = 5) : Calls Tryz.prog 92 #[e.val, .int .i64 D] w (Yes (ProperT t) w) := by
  obtain ⟨k, x, d, y, ka, kn, kc, ca, m, cc⟩ := e
  have HIH := Lib.hid (ih S)
  clear ih
  obtain ⟨hkk, -, -, -, hS, hK⟩ := h.parts
  clear h
  have hD3 : (D == 0) = false := by simp; omega
  have hnn : n ≤ 1000 := by omega
  simp only at hkk hS hK
  rw [hck] at hkk
  have HCK := Lib.hid hck
  have HSS := Lib.hid hS
  have HK := Lib.hid hK
  have hkl := hS.1
  have hml := hK.1
  have hcb := hK.2.1
  have hkb := hS.2.1
  have hcm := hK.2.2.1
  have hkm := hS.2.2.1
  unfold maxLen at hcm hkm
  have HKL := Lib.hid hkl
  have HML := Lib.hid hml
  subst hkk
  clear hck hS hK hkl hml
  simp only [El.val]
  by_cases hkz : kn = m
  · subst hkz
    have hb0 : Box (w.alloc (.cells (El.arr ⟨5, x, d, y, ka, kn, kc, ca, kn, cc⟩) 26)) w.heap.size (El.arr ⟨5, x, d, y, ka, kn, kc, ca, kn, cc⟩) 26 := Box.at rfl _ _
    go_enter Tryz.func92, Tryz.ntmps92
    go_wp2_with fail
    go_loopw [5] (fun i wr => Ext w wr ∧ Box wr w.heap.size (El.arr ⟨5, x, d, y, ka, kn, kc, ca, kn, cc⟩) 26 ∧ ∃ (j : Nat), j ≤ kn ∧ i = .int .i64 j ∧ ProperTs (t.kids.take j) ∧ ((5:Int) = 5 → (t.keys.take j).Pairwise lt)) (fun i _ => kn - (intOf i).toNat)
    case atStart => exact ⟨by (repeat (first | exact ext_refl _ | assumption | refine ext_alloc ?_ _ | refine ext_drew ?_ | refine ext_set ?_ (by simp) _ | refine ext_trans ?_ (by assumption))), hb0, 0, Nat.zero_le _, rfl, by simp [ProperTs], fun _ => by simp⟩
    case round =>
      obtain ⟨hx, hbx, j, hj, rfl, hTS, hPW⟩ := hrel
      have HTS := Lib.hid hTS
      have HPW := Lib.hid hPW
      clear hTS hPW
      obtain ⟨o0, o1, o2, o3, o4, o5⟩ := hbx.six
      by_cases hlt : j < kn
      · obtain ⟨t2, ht⟩ := some_of_lt HML.out hlt
        obtain ⟨b, off, e2, rfl, -, hcell, hT2⟩ := (KidsAt.ext hx HK.out).get ht
        have HT := Lib.hid ht
        clear ht
        by_cases hj0 : 0 < j
        · obtain ⟨s1, hs1⟩ := some_of_lt HKL.out (show j < kn by omega)
          obtain ⟨s0, hs0⟩ := some_of_lt HKL.out (show j - 1 < kn by omega)
          obtain ⟨b2, off2, hka, -, hk1⟩ := (HSS.out.ext hx).2.2.2 j s1 hs1
          obtain ⟨b3, off3, hka2, -, hk0⟩ := (HSS.out.ext hx).2.2.2 (j - 1) s0 hs0
          rw [hka] at hka2
          simp only [Option.some.injEq, Addr.mk.injEq, and_true] at hka2
          obtain ⟨rfl, rfl⟩ := hka2
          subst hka
          have HS1 := Lib.hid hs1
          have HS0 := Lib.hid (show 0 < j ∧ t.keys[j - 1]? = some s0 from ⟨hj0, hs0⟩)
          clear hs0 hs1
          have hjd : decide ((0:Int) < (j:Int)) = true := by rw [decide_eq_true_eq]; omega
          have hwj : IntKind.i64.wrap ((j:Int) - 1) = ((j - 1 : Nat) : Int) := by rw [IntWalk.i64_in _ (by omega)]; omega
          have hjk : j - 1 < kn := by omega
          go_upto_region 10 with fail
          refine wp_region_order (fun w' => Six w' w.heap.size ⟨5, x, d, y, some ⟨b2, off2, none⟩, kn, kc, some ⟨b, off, none⟩, kn, cc⟩ ∧ CellsAt w' b (off + j * 6) e2 ∧ w'.cell? ⟨b2, off2 + (j - 1), none⟩ = some (.string s0) ∧ w'.cell? ⟨b2, off2 + j, none⟩ = some (.string s1)) [0, 1, 2, 3, 4, 5, 6, 8, 9, 10, 11, 12, 13, 14, 15, 16, 17, 18, 19, 20, 21, 22, 23, 24, 25, 26, 27, 28, 29, 30, 31] [0, 1, 2, 3, 4, 5, 6, 7, 8, 9, 10, 11, 12, 13, 14, 15, 16, 17, 18, 19, 20, 21, 22, 23, 24, 25, 26, 27, 28, 29, 30, 31] (by kernel_rfl) (by kernel_rfl) (fun d _ _ _ _ h => by cases d <;> exact h) (by kernel_rfl) ?_
          have hS : (fun w' => Six w' w.heap.size ⟨5, x, d, y, some ⟨b2, off2, none⟩, kn, kc, some ⟨b, off, none⟩, kn, cc⟩ ∧ CellsAt w' b (off + j * 6) e2 ∧ w'.cell? ⟨b2, off2 + (j - 1), none⟩ = some (.string s0) ∧ w'.cell? ⟨b2, off2 + j, none⟩ = some (.string s1)) wr.drew := ⟨hbx.Six, hcell, hk0, hk1⟩
          (apply ord_held rfl rfl (by assumption) rfl; (focus ((intro w' hS'); go_simp; (try with_reducible rfl))); (try simp only [Act.put, List.setIfInBounds_toArray, List.set_cons_zero, List.set_cons_succ]))
          (apply ord_held rfl rfl (by assumption) rfl; (focus ((intro w' hS'); go_simp; (try with_reducible rfl))); (try simp only [Act.put, List.setIfInBounds_toArray, List.set_cons_zero, List.set_cons_succ]))
          (apply ord_held rfl rfl (by assumption) rfl; (focus ((intro w' hS'); go_simp; (try with_reducible rfl))); (try simp only [Act.put, List.setIfInBounds_toArray, List.set_cons_zero, List.set_cons_succ]))
          (apply ord_held rfl rfl (by assumption) rfl; (focus ((intro w' hS'); go_simp; (try with_reducible rfl))); (try simp only [Act.put, List.setIfInBounds_toArray, List.set_cons_zero, List.set_cons_succ]))
          (apply ord_held rfl rfl (by assumption) rfl; (focus ((intro w' hS'); go_simp; (try with_reducible rfl))); (try simp only [Act.put, List.setIfInBounds_toArray, List.set_cons_zero, List.set_cons_succ]))
          (apply ord_held rfl rfl (by assumption) rfl; (focus ((intro w' hS'); go_simp; (try with_reducible rfl))); (try simp only [Act.put, List.setIfInBounds_toArray, List.set_cons_zero, List.set_cons_succ]))
          (apply ord_held rfl rfl (by assumption) rfl; (focus ((intro w' hS'); go_simp; (try with_reducible rfl))); (try simp only [Act.put, List.setIfInBounds_toArray, List.set_cons_zero, List.set_cons_succ]))
          (apply ord_loud rfl rfl rfl; intro K hK; go_simp)
          refine (HIH.out t2 e2 _ _ (hT2.ext (ext_drew (ext_refl _))) ?arith).mono ?_
          case arith => exact ⟨by first | omega | exact IntWalk.i64_in (by omega) (by omega) | simp (disch := omega) only [IntWalk.i64_in], by omega⟩
          rintro r w2 ⟨b0, rfl, hP2, hx2⟩
          have HP2 := Lib.hid hP2
          clear hP2
          have hS2 : (fun w' => Six w' w.heap.size ⟨5, x, d, y, some ⟨b2, off2, none⟩, kn, kc, some ⟨b, off, none⟩, kn, cc⟩ ∧ CellsAt w' b (off + j * 6) e2 ∧ w'.cell? ⟨b2, off2 + (j - 1), none⟩ = some (.string s0) ∧ w'.cell? ⟨b2, off2 + j, none⟩ = some (.string s1)) w2 := ⟨Six.ext hx2 hS.1, hS.2.1.keep (hx2.keeps (fun _ => True)) trivial, hx2.cell hS.2.2.1, hx2.cell hS.2.2.2⟩
          refine hK _ _ (fun _ => hS2) ?_
          clear hK K hS
          (try simp only [Act.put, List.setIfInBounds_toArray, List.set_cons_zero, List.set_cons_succ])
          cases b0
          · skip
            (apply ord_held rfl rfl (by assumption) rfl; (focus ((intro w' hS'); go_simp; (try with_reducible rfl))); (try simp only [Act.put, List.setIfInBounds_toArray, List.set_cons_zero, List.set_cons_succ]))
            (apply ord_held rfl rfl (by assumption) rfl; (focus ((intro w' hS'); go_simp; (try with_reducible rfl))); (try simp only [Act.put, List.setIfInBounds_toArray, List.set_cons_zero, List.set_cons_succ]))
            (first | (apply ord_guard rfl rfl (by assumption) rfl; (focus ((intro w' hS'); go_simp; (try with_reducible rfl))); (try simp only [Act.put, List.setIfInBounds_toArray, List.set_cons_zero, List.set_cons_succ])) | (apply ord_pass rfl rfl (by assumption) rfl; (try simp only [Act.put, List.setIfInBounds_toArray, List.set_cons_zero, List.set_cons_succ])))
            (first | (apply ord_guard rfl rfl (by assumption) rfl; (focus ((intro w' hS'); go_simp; (try with_reducible rfl))); (try simp only [Act.put, List.setIfInBounds_toArray, List.set_cons_zero, List.set_cons_succ])) | (apply ord_pass rfl rfl (by assumption) rfl; (try simp only [Act.put, List.setIfInBounds_toArray, List.set_cons_zero, List.set_cons_succ])))
            (first | (apply ord_guard rfl rfl (by assumption) rfl; (focus ((intro w' hS'); go_simp; (try with_reducible rfl))); (try simp only [Act.put, List.setIfInBounds_toArray, List.set_cons_zero, List.set_cons_succ])) | (apply ord_pass rfl rfl (by assumption) rfl; (try simp only [Act.put, List.setIfInBounds_toArray, List.set_cons_zero, List.set_cons_succ])))
            (first | (apply ord_guard rfl rfl (by assumption) rfl; (focus ((intro w' hS'); go_simp; (try with_reducible rfl))); (try simp only [Act.put, List.setIfInBounds_toArray, List.set_cons_zero, List.set_cons_succ])) | (apply ord_pass rfl rfl (by assumption) rfl; (try simp only [Act.put, List.setIfInBounds_toArray, List.set_cons_zero, List.set_cons_succ])))
            (first | (apply ord_guard rfl rfl (by assumption) rfl; (focus ((intro w' hS'); go_simp; (try with_reducible rfl))); (try simp only [Act.put, List.setIfInBounds_toArray, List.set_cons_zero, List.set_cons_succ])) | (apply ord_pass rfl rfl (by assumption) rfl; (try simp only [Act.put, List.setIfInBounds_toArray, List.set_cons_zero, List.set_cons_succ])))
            (first | (apply ord_guard rfl rfl (by assumption) rfl; (focus ((intro w' hS'); go_simp; (try with_reducible rfl))); (try simp only [Act.put, List.setIfInBounds_toArray, List.set_cons_zero, List.set_cons_succ])) | (apply ord_pass rfl rfl (by assumption) rfl; (try simp only [Act.put, List.setIfInBounds_toArray, List.set_cons_zero, List.set_cons_succ])))
            (first | (apply ord_guard rfl rfl (by assumption) rfl; (focus ((intro w' hS'); go_simp; (try with_reducible rfl))); (try simp only [Act.put, List.setIfInBounds_toArray, List.set_cons_zero, List.set_cons_succ])) | (apply ord_pass rfl rfl (by assumption) rfl; (try simp only [Act.put, List.setIfInBounds_toArray, List.set_cons_zero, List.set_cons_succ])))
            (first | (apply ord_guard rfl rfl (by assumption) rfl; (focus ((intro w' hS'); go_simp; (try with_reducible rfl))); (try simp only [Act.put, List.setIfInBounds_toArray, List.set_cons_zero, List.set_cons_succ])) | (apply ord_pass rfl rfl (by assumption) rfl; (try simp only [Act.put, List.setIfInBounds_toArray, List.set_cons_zero, List.set_cons_succ])))
            (first | (apply ord_guard rfl rfl (by assumption) rfl; (focus ((intro w' hS'); go_simp; (try with_reducible rfl))); (try simp only [Act.put, List.setIfInBounds_toArray, List.set_cons_zero, List.set_cons_succ])) | (apply ord_pass rfl rfl (by assumption) rfl; (try simp only [Act.put, List.setIfInBounds_toArray, List.set_cons_zero, List.set_cons_succ])))
            (first | (apply ord_guard rfl rfl (by assumption) rfl; (focus ((intro w' hS'); go_simp; (try with_reducible rfl))); (try simp only [Act.put, List.setIfInBounds_toArray, List.set_cons_zero, List.set_cons_succ])) | (apply ord_pass rfl rfl (by assumption) rfl; (try simp only [Act.put, List.setIfInBounds_toArray, List.set_cons_zero, List.set_cons_succ])))
            (first | (apply ord_guard rfl rfl (by assumption) rfl; (focus ((intro w' hS'); go_simp; (try with_reducible rfl))); (try simp only [Act.put, List.setIfInBounds_toArray, List.set_cons_zero, List.set_cons_succ])) | (apply ord_pass rfl rfl (by assumption) rfl; (try simp only [Act.put, List.setIfInBounds_toArray, List.set_cons_zero, List.set_cons_succ])))
            (first | (apply ord_guard rfl rfl (by assumption) rfl; (focus ((intro w' hS'); go_simp; (try with_reducible rfl))); (try simp only [Act.put, List.setIfInBounds_toArray, List.set_cons_zero, List.set_cons_succ])) | (apply ord_pass rfl rfl (by assumption) rfl; (try simp only [Act.put, List.setIfInBounds_toArray, List.set_cons_zero, List.set_cons_succ])))
            (first | (apply ord_guard rfl rfl (by assumption) rfl; (focus ((intro w' hS'); go_simp; (try with_reducible rfl))); (try simp only [Act.put, List.setIfInBounds_toArray, List.set_cons_zero, List.set_cons_succ])) | (apply ord_pass rfl rfl (by assumption) rfl; (try simp only [Act.put, List.setIfInBounds_toArray, List.set_cons_zero, List.set_cons_succ])))
            (first | (apply ord_guard rfl rfl (by assumption) rfl; (focus ((intro w' hS'); go_simp; (try with_reducible rfl))); (try simp only [Act.put, List.setIfInBounds_toArray, List.set_cons_zero, List.set_cons_succ])) | (apply ord_pass rfl rfl (by assumption) rfl; (try simp only [Act.put, List.setIfInBounds_toArray, List.set_cons_zero, List.set_cons_succ])))
            (first | (apply ord_guard rfl rfl (by assumption) rfl; (focus ((intro w' hS'); go_simp; (try with_reducible rfl))); (try simp only [Act.put, List.setIfInBounds_toArray, List.set_cons_zero, List.set_cons_succ])) | (apply ord_pass rfl rfl (by assumption) rfl; (try simp only [Act.put, List.setIfInBounds_toArray, List.set_cons_zero, List.set_cons_succ])))
            (first | (apply ord_guard rfl rfl (by assumption) rfl; (focus ((intro w' hS'); go_simp; (try with_reducible rfl))); (try simp only [Act.put, List.setIfInBounds_toArray, List.set_cons_zero, List.set_cons_succ])) | (apply ord_pass rfl rfl (by assumption) rfl; (try simp only [Act.put, List.setIfInBounds_toArray, List.set_cons_zero, List.set_cons_succ])))
            (first | (apply ord_guard rfl rfl (by assumption) rfl; (focus ((intro w' hS'); go_simp; (try with_reducible rfl))); (try simp only [Act.put, List.setIfInBounds_toArray, List.set_cons_zero, List.set_cons_succ])) | (apply ord_pass rfl rfl (by assumption) rfl; (try simp only [Act.put, List.setIfInBounds_toArray, List.set_cons_zero, List.set_cons_succ])))
            (first | (apply ord_guard rfl rfl (by assumption) rfl; (focus ((intro w' hS'); go_simp; (try with_reducible rfl))); (try simp only [Act.put, List.setIfInBounds_toArray, List.set_cons_zero, List.set_cons_succ])) | (apply ord_pass rfl rfl (by assumption) rfl; (try simp only [Act.put, List.setIfInBounds_toArray, List.set_cons_zero, List.set_cons_succ])))
            (first | (apply ord_guard rfl rfl (by assumption) rfl; (focus ((intro w' hS'); go_simp; (try with_reducible rfl))); (try simp only [Act.put, List.setIfInBounds_toArray, List.set_cons_zero, List.set_cons_succ])) | (apply ord_pass rfl rfl (by assumption) rfl; (try simp only [Act.put, List.setIfInBounds_toArray, List.set_cons_zero, List.set_cons_succ])))
            (first | (apply ord_guard rfl rfl (by assumption) rfl; (focus ((intro w' hS'); go_simp; (try with_reducible rfl))); (try simp only [Act.put, List.setIfInBounds_toArray, List.set_cons_zero, List.set_cons_succ])) | (apply ord_pass rfl rfl (by assumption) rfl; (try simp only [Act.put, List.setIfInBounds_toArray, List.set_cons_zero, List.set_cons_succ])))
            (first | (apply ord_guard rfl rfl (by assumption) rfl; (focus ((intro w' hS'); go_simp; (try with_reducible rfl))); (try simp only [Act.put, List.setIfInBounds_toArray, List.set_cons_zero, List.set_cons_succ])) | (apply ord_pass rfl rfl (by assumption) rfl; (try simp only [Act.put, List.setIfInBounds_toArray, List.set_cons_zero, List.set_cons_succ])))
            (apply ord_held rfl rfl (by assumption) rfl; (focus ((intro w' hS'); go_simp; (try with_reducible rfl))); (try simp only [Act.put, List.setIfInBounds_toArray, List.set_cons_zero, List.set_cons_succ]))
            refine ord_end ?_
            go_wp2_with fail
            go_ret
            exact ⟨false, rfl, fun h => (Bool.noConfusion h), ext_trans hx (ext_trans (ext_drew (ext_refl _)) hx2)⟩
          · have hp2 := HP2.out rfl
            have HPP := Lib.hid hp2
            clear hp2
            cases hbl : Op.bytesLess s0.toList s1.toList
            · skip
              (apply ord_held rfl rfl (by assumption) rfl; (focus ((intro w' hS'); go_simp; (try with_reducible rfl))); (try simp only [Act.put, List.setIfInBounds_toArray, List.set_cons_zero, List.set_cons_succ]))
              (apply ord_held rfl rfl (by assumption) rfl; (focus ((intro w' hS'); go_simp; (try with_reducible rfl))); (try simp only [Act.put, List.setIfInBounds_toArray, List.set_cons_zero, List.set_cons_succ]))
              (first | (apply ord_guard rfl rfl (by assumption) rfl; (focus ((intro w' hS'); go_simp; (try with_reducible rfl))); (try simp only [Act.put, List.setIfInBounds_toArray, List.set_cons_zero, List.set_cons_succ])) | (apply ord_pass rfl rfl (by assumption) rfl; (try simp only [Act.put, List.setIfInBounds_toArray, List.set_cons_zero, List.set_cons_succ])))
              (first | (apply ord_guard rfl rfl (by assumption) rfl; (focus ((intro w' hS'); go_simp; (try with_reducible rfl))); (try simp only [Act.put, List.setIfInBounds_toArray, List.set_cons_zero, List.set_cons_succ])) | (apply ord_pass rfl rfl (by assumption) rfl; (try simp only [Act.put, List.setIfInBounds_toArray, List.set_cons_zero, List.set_cons_succ])))
              (first | (apply ord_guard rfl rfl (by assumption) rfl; (focus ((intro w' hS'); go_simp; (try with_reducible rfl))); (try simp only [Act.put, List.setIfInBounds_toArray, List.set_cons_zero, List.set_cons_succ])) | (apply ord_pass rfl rfl (by assumption) rfl; (try simp only [Act.put, List.setIfInBounds_toArray, List.set_cons_zero, List.set_cons_succ])))
              (first | (apply ord_guard rfl rfl (by assumption) rfl; (focus ((intro w' hS'); go_simp; (try with_reducible rfl))); (try simp only [Act.put, List.setIfInBounds_toArray, List.set_cons_zero, List.set_cons_succ])) | (apply ord_pass rfl rfl (by assumption) rfl; (try simp only [Act.put, List.setIfInBounds_toArray, List.set_cons_zero, List.set_cons_succ])))
              (first | (apply ord_guard rfl rfl (by assumption) rfl; (focus ((intro w' hS'); go_simp; (try with_reducible rfl))); (try simp only [Act.put, List.setIfInBounds_toArray, List.set_cons_zero, List.set_cons_succ])) | (apply ord_pass rfl rfl (by assumption) rfl; (try simp only [Act.put, List.setIfInBounds_toArray, List.set_cons_zero, List.set_cons_succ])))
              (first | (apply ord_guard rfl rfl (by assumption) rfl; (focus ((intro w' hS'); go_simp; (try with_reducible rfl))); (try simp only [Act.put, List.setIfInBounds_toArray, List.set_cons_zero, List.set_cons_succ])) | (apply ord_pass rfl rfl (by assumption) rfl; (try simp only [Act.put, List.setIfInBounds_toArray, List.set_cons_zero, List.set_cons_succ])))
              (first | (apply ord_guard rfl rfl (by assumption) rfl; (focus ((intro w' hS'); go_simp; (try with_reducible rfl))); (try simp only [Act.put, List.setIfInBounds_toArray, List.set_cons_zero, List.set_cons_succ])) | (apply ord_pass rfl rfl (by assumption) rfl; (try simp only [Act.put, List.setIfInBounds_toArray, List.set_cons_zero, List.set_cons_succ])))
              (first | (apply ord_guard rfl rfl (by assumption) rfl; (focus ((intro w' hS'); go_simp; (try with_reducible rfl))); (try simp only [Act.put, List.setIfInBounds_toArray, List.set_cons_zero, List.set_cons_succ])) | (apply ord_pass rfl rfl (by assumption) rfl; (try simp only [Act.put, List.setIfInBounds_toArray, List.set_cons_zero, List.set_cons_succ])))
              (first | (apply ord_guard rfl rfl (by assumption) rfl; (focus ((intro w' hS'); go_simp; (try with_reducible rfl))); (try simp only [Act.put, List.setIfInBounds_toArray, List.set_cons_zero, List.set_cons_succ])) | (apply ord_pass rfl rfl (by assumption) rfl; (try simp only [Act.put, List.setIfInBounds_toArray, List.set_cons_zero, List.set_cons_succ])))
              (first | (apply ord_guard rfl rfl (by assumption) rfl; (focus ((intro w' hS'); go_simp; (try with_reducible rfl))); (try simp only [Act.put, List.setIfInBounds_toArray, List.set_cons_zero, List.set_cons_succ])) | (apply ord_pass rfl rfl (by assumption) rfl; (try simp only [Act.put, List.setIfInBounds_toArray, List.set_cons_zero, List.set_cons_succ])))
              (first | (apply ord_guard rfl rfl (by assumption) rfl; (focus ((intro w' hS'); go_simp; (try with_reducible rfl))); (try simp only [Act.put, List.setIfInBounds_toArray, List.set_cons_zero, List.set_cons_succ])) | (apply ord_pass rfl rfl (by assumption) rfl; (try simp only [Act.put, List.setIfInBounds_toArray, List.set_cons_zero, List.set_cons_succ])))
              (first | (apply ord_guard rfl rfl (by assumption) rfl; (focus ((intro w' hS'); go_simp; (try with_reducible rfl))); (try simp only [Act.put, List.setIfInBounds_toArray, List.set_cons_zero, List.set_cons_succ])) | (apply ord_pass rfl rfl (by assumption) rfl; (try simp only [Act.put, List.setIfInBounds_toArray, List.set_cons_zero, List.set_cons_succ])))
              (first | (apply ord_guard rfl rfl (by assumption) rfl; (focus ((intro w' hS'); go_simp; (try with_reducible rfl))); (try simp only [Act.put, List.setIfInBounds_toArray, List.set_cons_zero, List.set_cons_succ])) | (apply ord_pass rfl rfl (by assumption) rfl; (try simp only [Act.put, List.setIfInBounds_toArray, List.set_cons_zero, List.set_cons_succ])))
              (first | (apply ord_guard rfl rfl (by assumption) rfl; (focus ((intro w' hS'); go_simp; (try with_reducible rfl))); (try simp only [Act.put, List.setIfInBounds_toArray, List.set_cons_zero, List.set_cons_succ])) | (apply ord_pass rfl rfl (by assumption) rfl; (try simp only [Act.put, List.setIfInBounds_toArray, List.set_cons_zero, List.set_cons_succ])))
              (first | (apply ord_guard rfl rfl (by assumption) rfl; (focus ((intro w' hS'); go_simp; (try with_reducible rfl))); (try simp only [Act.put, List.setIfInBounds_toArray, List.set_cons_zero, List.set_cons_succ])) | (apply ord_pass rfl rfl (by assumption) rfl; (try simp only [Act.put, List.setIfInBounds_toArray, List.set_cons_zero, List.set_cons_succ])))
              (first | (apply ord_guard rfl rfl (by assumption) rfl; (focus ((intro w' hS'); go_simp; (try with_reducible rfl))); (try simp only [Act.put, List.setIfInBounds_toArray, List.set_cons_zero, List.set_cons_succ])) | (apply ord_pass rfl rfl (by assumption) rfl; (try simp only [Act.put, List.setIfInBounds_toArray, List.set_cons_zero, List.set_cons_succ])))
              (first | (apply ord_guard rfl rfl (by assumption) rfl; (focus ((intro w' hS'); go_simp; (try with_reducible rfl))); (try simp only [Act.put, List.setIfInBounds_toArray, List.set_cons_zero, List.set_cons_succ])) | (apply ord_pass rfl rfl (by assumption) rfl; (try simp only [Act.put, List.setIfInBounds_toArray, List.set_cons_zero, List.set_cons_succ])))
              (first | (apply ord_guard rfl rfl (by assumption) rfl; (focus ((intro w' hS'); go_simp; (try with_reducible rfl))); (try simp only [Act.put, List.setIfInBounds_toArray, List.set_cons_zero, List.set_cons_succ])) | (apply ord_pass rfl rfl (by assumption) rfl; (try simp only [Act.put, List.setIfInBounds_toArray, List.set_cons_zero, List.set_cons_succ])))
              (first | (apply ord_guard rfl rfl (by assumption) rfl; (focus ((intro w' hS'); go_simp; (try with_reducible rfl))); (try simp only [Act.put, List.setIfInBounds_toArray, List.set_cons_zero, List.set_cons_succ])) | (apply ord_pass rfl rfl (by assumption) rfl; (try simp only [Act.put, List.setIfInBounds_toArray, List.set_cons_zero, List.set_cons_succ])))
              (first | (apply ord_guard rfl rfl (by assumption) rfl; (focus ((intro w' hS'); go_simp; (try with_reducible rfl))); (try simp only [Act.put, List.setIfInBounds_toArray, List.set_cons_zero, List.set_cons_succ])) | (apply ord_pass rfl rfl (by assumption) rfl; (try simp only [Act.put, List.setIfInBounds_toArray, List.set_cons_zero, List.set_cons_succ])))
              (first | (apply ord_guard rfl rfl (by assumption) rfl; (focus ((intro w' hS'); go_simp; (try with_reducible rfl))); (try simp only [Act.put, List.setIfInBounds_toArray, List.set_cons_zero, List.set_cons_succ])) | (apply ord_pass rfl rfl (by assumption) rfl; (try simp only [Act.put, List.setIfInBounds_toArray, List.set_cons_zero, List.set_cons_succ])))
              (apply ord_held rfl rfl (by assumption) rfl; (focus ((intro w' hS'); go_simp; (try with_reducible rfl))); (try simp only [Act.put, List.setIfInBounds_toArray, List.set_cons_zero, List.set_cons_succ]))
              refine ord_end ?_
              go_wp2_with fail
              go_ret
              exact ⟨false, rfl, fun h => (Bool.noConfusion h), ext_trans hx (ext_trans (ext_drew (ext_refl _)) hx2)⟩
            · have hlt2 : lt s0 s1 := (bless_iff _ _).1 hbl
              have HLT2 := Lib.hid hlt2
              clear hlt2
              (apply ord_held rfl rfl (by assumption) rfl; (focus ((intro w' hS'); go_simp; (try with_reducible rfl))); (try simp only [Act.put, List.setIfInBounds_toArray, List.set_cons_zero, List.set_cons_succ]))
              (apply ord_held rfl rfl (by assumption) rfl; (focus ((intro w' hS'); go_simp; (try with_reducible rfl))); (try simp only [Act.put, List.setIfInBounds_toArray, List.set_cons_zero, List.set_cons_succ]))
              (first | (apply ord_guard rfl rfl (by assumption) rfl; (focus ((intro w' hS'); go_simp; (try with_reducible rfl))); (try simp only [Act.put, List.setIfInBounds_toArray, List.set_cons_zero, List.set_cons_succ])) | (apply ord_pass rfl rfl (by assumption) rfl; (try simp only [Act.put, List.setIfInBounds_toArray, List.set_cons_zero, List.set_cons_succ])))
              (first | (apply ord_guard rfl rfl (by assumption) rfl; (focus ((intro w' hS'); go_simp; (try with_reducible rfl))); (try simp only [Act.put, List.setIfInBounds_toArray, List.set_cons_zero, List.set_cons_succ])) | (apply ord_pass rfl rfl (by assumption) rfl; (try simp only [Act.put, List.setIfInBounds_toArray, List.set_cons_zero, List.set_cons_succ])))
              (first | (apply ord_guard rfl rfl (by assumption) rfl; (focus ((intro w' hS'); go_simp; (try with_reducible rfl))); (try simp only [Act.put, List.setIfInBounds_toArray, List.set_cons_zero, List.set_cons_succ])) | (apply ord_pass rfl rfl (by assumption) rfl; (try simp only [Act.put, List.setIfInBounds_toArray, List.set_cons_zero, List.set_cons_succ])))
              (first | (apply ord_guard rfl rfl (by assumption) rfl; (focus ((intro w' hS'); go_simp; (try with_reducible rfl))); (try simp only [Act.put, List.setIfInBounds_toArray, List.set_cons_zero, List.set_cons_succ])) | (apply ord_pass rfl rfl (by assumption) rfl; (try simp only [Act.put, List.setIfInBounds_toArray, List.set_cons_zero, List.set_cons_succ])))
              (first | (apply ord_guard rfl rfl (by assumption) rfl; (focus ((intro w' hS'); go_simp; (try with_reducible rfl))); (try simp only [Act.put, List.setIfInBounds_toArray, List.set_cons_zero, List.set_cons_succ])) | (apply ord_pass rfl rfl (by assumption) rfl; (try simp only [Act.put, List.setIfInBounds_toArray, List.set_cons_zero, List.set_cons_succ])))
              (first | (apply ord_guard rfl rfl (by assumption) rfl; (focus ((intro w' hS'); go_simp; (try with_reducible rfl))); (try simp only [Act.put, List.setIfInBounds_toArray, List.set_cons_zero, List.set_cons_succ])) | (apply ord_pass rfl rfl (by assumption) rfl; (try simp only [Act.put, List.setIfInBounds_toArray, List.set_cons_zero, List.set_cons_succ])))
              (first | (apply ord_guard rfl rfl (by assumption) rfl; (focus ((intro w' hS'); go_simp; (try with_reducible rfl))); (try simp only [Act.put, List.setIfInBounds_toArray, List.set_cons_zero, List.set_cons_succ])) | (apply ord_pass rfl rfl (by assumption) rfl; (try simp only [Act.put, List.setIfInBounds_toArray, List.set_cons_zero, List.set_cons_succ])))
              (first | (apply ord_guard rfl rfl (by assumption) rfl; (focus ((intro w' hS'); go_simp; (try with_reducible rfl))); (try simp only [Act.put, List.setIfInBounds_toArray, List.set_cons_zero, List.set_cons_succ])) | (apply ord_pass rfl rfl (by assumption) rfl; (try simp only [Act.put, List.setIfInBounds_toArray, List.set_cons_zero, List.set_cons_succ])))
              (first | (apply ord_guard rfl rfl (by assumption) rfl; (focus ((intro w' hS'); go_simp; (try with_reducible rfl))); (try simp only [Act.put, List.setIfInBounds_toArray, List.set_cons_zero, List.set_cons_succ])) | (apply ord_pass rfl rfl (by assumption) rfl; (try simp only [Act.put, List.setIfInBounds_toArray, List.set_cons_zero, List.set_cons_succ])))
              (first | (apply ord_guard rfl rfl (by assumption) rfl; (focus ((intro w' hS'); go_simp; (try with_reducible rfl))); (try simp only [Act.put, List.setIfInBounds_toArray, List.set_cons_zero, List.set_cons_succ])) | (apply ord_pass rfl rfl (by assumption) rfl; (try simp only [Act.put, List.setIfInBounds_toArray, List.set_cons_zero, List.set_cons_succ])))
              (first | (apply ord_guard rfl rfl (by assumption) rfl; (focus ((intro w' hS'); go_simp; (try with_reducible rfl))); (try simp only [Act.put, List.setIfInBounds_toArray, List.set_cons_zero, List.set_cons_succ])) | (apply ord_pass rfl rfl (by assumption) rfl; (try simp only [Act.put, List.setIfInBounds_toArray, List.set_cons_zero, List.set_cons_succ])))
              (first | (apply ord_guard rfl rfl (by assumption) rfl; (focus ((intro w' hS'); go_simp; (try with_reducible rfl))); (try simp only [Act.put, List.setIfInBounds_toArray, List.set_cons_zero, List.set_cons_succ])) | (apply ord_pass rfl rfl (by assumption) rfl; (try simp only [Act.put, List.setIfInBounds_toArray, List.set_cons_zero, List.set_cons_succ])))
              (first | (apply ord_guard rfl rfl (by assumption) rfl; (focus ((intro w' hS'); go_simp; (try with_reducible rfl))); (try simp only [Act.put, List.setIfInBounds_toArray, List.set_cons_zero, List.set_cons_succ])) | (apply ord_pass rfl rfl (by assumption) rfl; (try simp only [Act.put, List.setIfInBounds_toArray, List.set_cons_zero, List.set_cons_succ])))
              (first | (apply ord_guard rfl rfl (by assumption) rfl; (focus ((intro w' hS'); go_simp; (try with_reducible rfl))); (try simp only [Act.put, List.setIfInBounds_toArray, List.set_cons_zero, List.set_cons_succ])) | (apply ord_pass rfl rfl (by assumption) rfl; (try simp only [Act.put, List.setIfInBounds_toArray, List.set_cons_zero, List.set_cons_succ])))
              (first | (apply ord_guard rfl rfl (by assumption) rfl; (focus ((intro w' hS'); go_simp; (try with_reducible rfl))); (try simp only [Act.put, List.setIfInBounds_toArray, List.set_cons_zero, List.set_cons_succ])) | (apply ord_pass rfl rfl (by assumption) rfl; (try simp only [Act.put, List.setIfInBounds_toArray, List.set_cons_zero, List.set_cons_succ])))
              (first | (apply ord_guard rfl rfl (by assumption) rfl; (focus ((intro w' hS'); go_simp; (try with_reducible rfl))); (try simp only [Act.put, List.setIfInBounds_toArray, List.set_cons_zero, List.set_cons_succ])) | (apply ord_pass rfl rfl (by assumption) rfl; (try simp only [Act.put, List.setIfInBounds_toArray, List.set_cons_zero, List.set_cons_succ])))
              (first | (apply ord_guard rfl rfl (by assumption) rfl; (focus ((intro w' hS'); go_simp; (try with_reducible rfl))); (try simp only [Act.put, List.setIfInBounds_toArray, List.set_cons_zero, List.set_cons_succ])) | (apply ord_pass rfl rfl (by assumption) rfl; (try simp only [Act.put, List.setIfInBounds_toArray, List.set_cons_zero, List.set_cons_succ])))
              (first | (apply ord_guard rfl rfl (by assumption) rfl; (focus ((intro w' hS'); go_simp; (try with_reducible rfl))); (try simp only [Act.put, List.setIfInBounds_toArray, List.set_cons_zero, List.set_cons_succ])) | (apply ord_pass rfl rfl (by assumption) rfl; (try simp only [Act.put, List.setIfInBounds_toArray, List.set_cons_zero, List.set_cons_succ])))
              (first | (apply ord_guard rfl rfl (by assumption) rfl; (focus ((intro w' hS'); go_simp; (try with_reducible rfl))); (try simp only [Act.put, List.setIfInBounds_toArray, List.set_cons_zero, List.set_cons_succ])) | (apply ord_pass rfl rfl (by assumption) rfl; (try simp only [Act.put, List.setIfInBounds_toArray, List.set_cons_zero, List.set_cons_succ])))
              (first | (apply ord_guard rfl rfl (by assumption) rfl; (focus ((intro w' hS'); go_simp; (try with_reducible rfl))); (try simp only [Act.put, List.setIfInBounds_toArray, List.set_cons_zero, List.set_cons_succ])) | (apply ord_pass rfl rfl (by assumption) rfl; (try simp only [Act.put, List.setIfInBounds_toArray, List.set_cons_zero, List.set_cons_succ])))
              (first | (apply ord_guard rfl rfl (by assumption) rfl; (focus ((intro w' hS'); go_simp; (try with_reducible rfl))); (try simp only [Act.put, List.setIfInBounds_toArray, List.set_cons_zero, List.set_cons_succ])) | (apply ord_pass rfl rfl (by assumption) rfl; (try simp only [Act.put, List.setIfInBounds_toArray, List.set_cons_zero, List.set_cons_succ])))
              (apply ord_held rfl rfl (by assumption) rfl; (focus ((intro w' hS'); go_simp; (try with_reducible rfl))); (try simp only [Act.put, List.setIfInBounds_toArray, List.set_cons_zero, List.set_cons_succ]))
              refine ord_end ?_
              go_wp2_with fail
              go_roundw
              case rel =>
                refine ⟨ext_trans hx (ext_trans (ext_drew (ext_refl _)) hx2), hbx.ext (ext_trans (ext_drew (ext_refl _)) hx2), j + 1, by omega, by go_num, ?_, ?_⟩
                · rw [take_snoc HT.out]
                  exact properTs_snoc HTS.out HPP.out
                · intro h5
                  rw [take_snoc HS1.out]
                  exact pairwise_snoc (HPW.out rfl) HS0.out HLT2.out
              case measure => simp [intOf]; omega
        · have hjd : decide ((0:Int) < (j:Int)) = false := by rw [decide_eq_false_iff_not]; omega
          go_upto_region 10 with fail
          refine wp_region_order (fun w' => Six w' w.heap.size ⟨5, x, d, y, ka, kn, kc, some ⟨b, off, none⟩, kn, cc⟩ ∧ CellsAt w' b (off + j * 6) e2) [0, 1, 2, 3, 4, 5, 6, 8, 9, 10, 11, 12, 13, 14, 15, 16, 17, 18, 19, 20, 21, 22, 23, 24, 25, 26, 27, 28, 29, 30, 31] [0, 1, 2, 3, 4, 5, 6, 7, 8, 9, 10, 11, 12, 13, 14, 15, 16, 17, 18, 19, 20, 21, 22, 23, 24, 25, 26, 27, 28, 29, 30, 31] (by kernel_rfl) (by kernel_rfl) (fun d _ _ _ _ h => by cases d <;> exact h) (by kernel_rfl) ?_
          have hS : (fun w' => Six w' w.heap.size ⟨5, x, d, y, ka, kn, kc, some ⟨b, off, none⟩, kn, cc⟩ ∧ CellsAt w' b (off + j * 6) e2) wr.drew := ⟨hbx.Six, hcell⟩
          (apply ord_held rfl rfl (by assumption) rfl; (focus ((intro w' hS'); go_simp; (try with_reducible rfl))); (try simp only [Act.put, List.setIfInBounds_toArray, List.set_cons_zero, List.set_cons_succ]))
          (apply ord_held rfl rfl (by assumption) rfl; (focus ((intro w' hS'); go_simp; (try with_reducible rfl))); (try simp only [Act.put, List.setIfInBounds_toArray, List.set_cons_zero, List.set_cons_succ]))
          (apply ord_held rfl rfl (by assumption) rfl; (focus ((intro w' hS'); go_simp; (try with_reducible rfl))); (try simp only [Act.put, List.setIfInBounds_toArray, List.set_cons_zero, List.set_cons_succ]))
          (apply ord_held rfl rfl (by assumption) rfl; (focus ((intro w' hS'); go_simp; (try with_reducible rfl))); (try simp only [Act.put, List.setIfInBounds_toArray, List.set_cons_zero, List.set_cons_succ]))
          (apply ord_held rfl rfl (by assumption) rfl; (focus ((intro w' hS'); go_simp; (try with_reducible rfl))); (try simp only [Act.put, List.setIfInBounds_toArray, List.set_cons_zero, List.set_cons_succ]))
          (apply ord_held rfl rfl (by assumption) rfl; (focus ((intro w' hS'); go_simp; (try with_reducible rfl))); (try simp only [Act.put, List.setIfInBounds_toArray, List.set_cons_zero, List.set_cons_succ]))
          (apply ord_held rfl rfl (by assumption) rfl; (focus ((intro w' hS'); go_simp; (try with_reducible rfl))); (try simp only [Act.put, List.setIfInBounds_toArray, List.set_cons_zero, List.set_cons_succ]))
          (apply ord_loud rfl rfl rfl; intro K hK; go_simp)
          refine (HIH.out t2 e2 _ _ (hT2.ext (ext_drew (ext_refl _))) ?arith).mono ?_
          case arith => exact ⟨by first | omega | exact IntWalk.i64_in (by omega) (by omega) | simp (disch := omega) only [IntWalk.i64_in], by omega⟩
          rintro r w2 ⟨b0, rfl, hP2, hx2⟩
          have HP2 := Lib.hid hP2
          clear hP2
          have hS2 : (fun w' => Six w' w.heap.size ⟨5, x, d, y, ka, kn, kc, some ⟨b, off, none⟩, kn, cc⟩ ∧ CellsAt w' b (off + j * 6) e2) w2 := ⟨Six.ext hx2 hS.1, hS.2.keep (hx2.keeps (fun _ => True)) trivial⟩
          refine hK _ _ (fun _ => hS2) ?_
          clear hK K hS
          (try simp only [Act.put, List.setIfInBounds_toArray, List.set_cons_zero, List.set_cons_succ])
          cases b0
          · skip
            (apply ord_held rfl rfl (by assumption) rfl; (focus ((intro w' hS'); go_simp; (try with_reducible rfl))); (try simp only [Act.put, List.setIfInBounds_toArray, List.set_cons_zero, List.set_cons_succ]))
            (apply ord_held rfl rfl (by assumption) rfl; (focus ((intro w' hS'); go_simp; (try with_reducible rfl))); (try simp only [Act.put, List.setIfInBounds_toArray, List.set_cons_zero, List.set_cons_succ]))
            (first | (apply ord_guard rfl rfl (by assumption) rfl; (focus ((intro w' hS'); go_simp; (try with_reducible rfl))); (try simp only [Act.put, List.setIfInBounds_toArray, List.set_cons_zero, List.set_cons_succ])) | (apply ord_pass rfl rfl (by assumption) rfl; (try simp only [Act.put, List.setIfInBounds_toArray, List.set_cons_zero, List.set_cons_succ])))
            (first | (apply ord_guard rfl rfl (by assumption) rfl; (focus ((intro w' hS'); go_simp; (try with_reducible rfl))); (try simp only [Act.put, List.setIfInBounds_toArray, List.set_cons_zero, List.set_cons_succ])) | (apply ord_pass rfl rfl (by assumption) rfl; (try simp only [Act.put, List.setIfInBounds_toArray, List.set_cons_zero, List.set_cons_succ])))
            (first | (apply ord_guard rfl rfl (by assumption) rfl; (focus ((intro w' hS'); go_simp; (try with_reducible rfl))); (try simp only [Act.put, List.setIfInBounds_toArray, List.set_cons_zero, List.set_cons_succ])) | (apply ord_pass rfl rfl (by assumption) rfl; (try simp only [Act.put, List.setIfInBounds_toArray, List.set_cons_zero, List.set_cons_succ])))
            (first | (apply ord_guard rfl rfl (by assumption) rfl; (focus ((intro w' hS'); go_simp; (try with_reducible rfl))); (try simp only [Act.put, List.setIfInBounds_toArray, List.set_cons_zero, List.set_cons_succ])) | (apply ord_pass rfl rfl (by assumption) rfl; (try simp only [Act.put, List.setIfInBounds_toArray, List.set_cons_zero, List.set_cons_succ])))
            (first | (apply ord_guard rfl rfl (by assumption) rfl; (focus ((intro w' hS'); go_simp; (try with_reducible rfl))); (try simp only [Act.put, List.setIfInBounds_toArray, List.set_cons_zero, List.set_cons_succ])) | (apply ord_pass rfl rfl (by assumption) rfl; (try simp only [Act.put, List.setIfInBounds_toArray, List.set_cons_zero, List.set_cons_succ])))
            (first | (apply ord_guard rfl rfl (by assumption) rfl; (focus ((intro w' hS'); go_simp; (try with_reducible rfl))); (try simp only [Act.put, List.setIfInBounds_toArray, List.set_cons_zero, List.set_cons_succ])) | (apply ord_pass rfl rfl (by assumption) rfl; (try simp only [Act.put, List.setIfInBounds_toArray, List.set_cons_zero, List.set_cons_succ])))
            (first | (apply ord_guard rfl rfl (by assumption) rfl; (focus ((intro w' hS'); go_simp; (try with_reducible rfl))); (try simp only [Act.put, List.setIfInBounds_toArray, List.set_cons_zero, List.set_cons_succ])) | (apply ord_pass rfl rfl (by assumption) rfl; (try simp only [Act.put, List.setIfInBounds_toArray, List.set_cons_zero, List.set_cons_succ])))
            (first | (apply ord_guard rfl rfl (by assumption) rfl; (focus ((intro w' hS'); go_simp; (try with_reducible rfl))); (try simp only [Act.put, List.setIfInBounds_toArray, List.set_cons_zero, List.set_cons_succ])) | (apply ord_pass rfl rfl (by assumption) rfl; (try simp only [Act.put, List.setIfInBounds_toArray, List.set_cons_zero, List.set_cons_succ])))
            (first | (apply ord_guard rfl rfl (by assumption) rfl; (focus ((intro w' hS'); go_simp; (try with_reducible rfl))); (try simp only [Act.put, List.setIfInBounds_toArray, List.set_cons_zero, List.set_cons_succ])) | (apply ord_pass rfl rfl (by assumption) rfl; (try simp only [Act.put, List.setIfInBounds_toArray, List.set_cons_zero, List.set_cons_succ])))
            (first | (apply ord_guard rfl rfl (by assumption) rfl; (focus ((intro w' hS'); go_simp; (try with_reducible rfl))); (try simp only [Act.put, List.setIfInBounds_toArray, List.set_cons_zero, List.set_cons_succ])) | (apply ord_pass rfl rfl (by assumption) rfl; (try simp only [Act.put, List.setIfInBounds_toArray, List.set_cons_zero, List.set_cons_succ])))
            (first | (apply ord_guard rfl rfl (by assumption) rfl; (focus ((intro w' hS'); go_simp; (try with_reducible rfl))); (try simp only [Act.put, List.setIfInBounds_toArray, List.set_cons_zero, List.set_cons_succ])) | (apply ord_pass rfl rfl (by assumption) rfl; (try simp only [Act.put, List.setIfInBounds_toArray, List.set_cons_zero, List.set_cons_succ])))
            (first | (apply ord_guard rfl rfl (by assumption) rfl; (focus ((intro w' hS'); go_simp; (try with_reducible rfl))); (try simp only [Act.put, List.setIfInBounds_toArray, List.set_cons_zero, List.set_cons_succ])) | (apply ord_pass rfl rfl (by assumption) rfl; (try simp only [Act.put, List.setIfInBounds_toArray, List.set_cons_zero, List.set_cons_succ])))
            (first | (apply ord_guard rfl rfl (by assumption) rfl; (focus ((intro w' hS'); go_simp; (try with_reducible rfl))); (try simp only [Act.put, List.setIfInBounds_toArray, List.set_cons_zero, List.set_cons_succ])) | (apply ord_pass rfl rfl (by assumption) rfl; (try simp only [Act.put, List.setIfInBounds_toArray, List.set_cons_zero, List.set_cons_succ])))
            (first | (apply ord_guard rfl rfl (by assumption) rfl; (focus ((intro w' hS'); go_simp; (try with_reducible rfl))); (try simp only [Act.put, List.setIfInBounds_toArray, List.set_cons_zero, List.set_cons_succ])) | (apply ord_pass rfl rfl (by assumption) rfl; (try simp only [Act.put, List.setIfInBounds_toArray, List.set_cons_zero, List.set_cons_succ])))
            (first | (apply ord_guard rfl rfl (by assumption) rfl; (focus ((intro w' hS'); go_simp; (try with_reducible rfl))); (try simp only [Act.put, List.setIfInBounds_toArray, List.set_cons_zero, List.set_cons_succ])) | (apply ord_pass rfl rfl (by assumption) rfl; (try simp only [Act.put, List.setIfInBounds_toArray, List.set_cons_zero, List.set_cons_succ])))
            (first | (apply ord_guard rfl rfl (by assumption) rfl; (focus ((intro w' hS'); go_simp; (try with_reducible rfl))); (try simp only [Act.put, List.setIfInBounds_toArray, List.set_cons_zero, List.set_cons_succ])) | (apply ord_pass rfl rfl (by assumption) rfl; (try simp only [Act.put, List.setIfInBounds_toArray, List.set_cons_zero, List.set_cons_succ])))
            (first | (apply ord_guard rfl rfl (by assumption) rfl; (focus ((intro w' hS'); go_simp; (try with_reducible rfl))); (try simp only [Act.put, List.setIfInBounds_toArray, List.set_cons_zero, List.set_cons_succ])) | (apply ord_pass rfl rfl (by assumption) rfl; (try simp only [Act.put, List.setIfInBounds_toArray, List.set_cons_zero, List.set_cons_succ])))
            (first | (apply ord_guard rfl rfl (by assumption) rfl; (focus ((intro w' hS'); go_simp; (try with_reducible rfl))); (try simp only [Act.put, List.setIfInBounds_toArray, List.set_cons_zero, List.set_cons_succ])) | (apply ord_pass rfl rfl (by assumption) rfl; (try simp only [Act.put, List.setIfInBounds_toArray, List.set_cons_zero, List.set_cons_succ])))
            (first | (apply ord_guard rfl rfl (by assumption) rfl; (focus ((intro w' hS'); go_simp; (try with_reducible rfl))); (try simp only [Act.put, List.setIfInBounds_toArray, List.set_cons_zero, List.set_cons_succ])) | (apply ord_pass rfl rfl (by assumption) rfl; (try simp only [Act.put, List.setIfInBounds_toArray, List.set_cons_zero, List.set_cons_succ])))
            (first | (apply ord_guard rfl rfl (by assumption) rfl; (focus ((intro w' hS'); go_simp; (try with_reducible rfl))); (try simp only [Act.put, List.setIfInBounds_toArray, List.set_cons_zero, List.set_cons_succ])) | (apply ord_pass rfl rfl (by assumption) rfl; (try simp only [Act.put, List.setIfInBounds_toArray, List.set_cons_zero, List.set_cons_succ])))
            (first | (apply ord_guard rfl rfl (by assumption) rfl; (focus ((intro w' hS'); go_simp; (try with_reducible rfl))); (try simp only [Act.put, List.setIfInBounds_toArray, List.set_cons_zero, List.set_cons_succ])) | (apply ord_pass rfl rfl (by assumption) rfl; (try simp only [Act.put, List.setIfInBounds_toArray, List.set_cons_zero, List.set_cons_succ])))
            (apply ord_held rfl rfl (by assumption) rfl; (focus ((intro w' hS'); go_simp; (try with_reducible rfl))); (try simp only [Act.put, List.setIfInBounds_toArray, List.set_cons_zero, List.set_cons_succ]))
            refine ord_end ?_
            go_wp2_with fail
            go_ret
            exact ⟨false, rfl, fun h => (Bool.noConfusion h), ext_trans hx (ext_trans (ext_drew (ext_refl _)) hx2)⟩
          · have hp2 := HP2.out rfl
            have HPP := Lib.hid hp2
            clear hp2
            (apply ord_held rfl rfl (by assumption) rfl; (focus ((intro w' hS'); go_simp; (try with_reducible rfl))); (try simp only [Act.put, List.setIfInBounds_toArray, List.set_cons_zero, List.set_cons_succ]))
            (apply ord_held rfl rfl (by assumption) rfl; (focus ((intro w' hS'); go_simp; (try with_reducible rfl))); (try simp only [Act.put, List.setIfInBounds_toArray, List.set_cons_zero, List.set_cons_succ]))
            (first | (apply ord_guard rfl rfl (by assumption) rfl; (focus ((intro w' hS'); go_simp; (try with_reducible rfl))); (try simp only [Act.put, List.setIfInBounds_toArray, List.set_cons_zero, List.set_cons_succ])) | (apply ord_pass rfl rfl (by assumption) rfl; (try simp only [Act.put, List.setIfInBounds_toArray, List.set_cons_zero, List.set_cons_succ])))
            (first | (apply ord_guard rfl rfl (by assumption) rfl; (focus ((intro w' hS'); go_simp; (try with_reducible rfl))); (try simp only [Act.put, List.setIfInBounds_toArray, List.set_cons_zero, List.set_cons_succ])) | (apply ord_pass rfl rfl (by assumption) rfl; (try simp only [Act.put, List.setIfInBounds_toArray, List.set_cons_zero, List.set_cons_succ])))
            (first | (apply ord_guard rfl rfl (by assumption) rfl; (focus ((intro w' hS'); go_simp; (try with_reducible rfl))); (try simp only [Act.put, List.setIfInBounds_toArray, List.set_cons_zero, List.set_cons_succ])) | (apply ord_pass rfl rfl (by assumption) rfl; (try simp only [Act.put, List.setIfInBounds_toArray, List.set_cons_zero, List.set_cons_succ])))
            (first | (apply ord_guard rfl rfl (by assumption) rfl; (focus ((intro w' hS'); go_simp; (try with_reducible rfl))); (try simp only [Act.put, List.setIfInBounds_toArray, List.set_cons_zero, List.set_cons_succ])) | (apply ord_pass rfl rfl (by assumption) rfl; (try simp only [Act.put, List.setIfInBounds_toArray, List.set_cons_zero, List.set_cons_succ])))
            (first | (apply ord_guard rfl rfl (by assumption) rfl; (focus ((intro w' hS'); go_simp; (try with_reducible rfl))); (try simp only [Act.put, List.setIfInBounds_toArray, List.set_cons_zero, List.set_cons_succ])) | (apply ord_pass rfl rfl (by assumption) rfl; (try simp only [Act.put, List.setIfInBounds_toArray, List.set_cons_zero, List.set_cons_succ])))
            (first | (apply ord_guard rfl rfl (by assumption) rfl; (focus ((intro w' hS'); go_simp; (try with_reducible rfl))); (try simp only [Act.put, List.setIfInBounds_toArray, List.set_cons_zero, List.set_cons_succ])) | (apply ord_pass rfl rfl (by assumption) rfl; (try simp only [Act.put, List.setIfInBounds_toArray, List.set_cons_zero, List.set_cons_succ])))
            (first | (apply ord_guard rfl rfl (by assumption) rfl; (focus ((intro w' hS'); go_simp; (try with_reducible rfl))); (try simp only [Act.put, List.setIfInBounds_toArray, List.set_cons_zero, List.set_cons_succ])) | (apply ord_pass rfl rfl (by assumption) rfl; (try simp only [Act.put, List.setIfInBounds_toArray, List.set_cons_zero, List.set_cons_succ])))
            (first | (apply ord_guard rfl rfl (by assumption) rfl; (focus ((intro w' hS'); go_simp; (try with_reducible rfl))); (try simp only [Act.put, List.setIfInBounds_toArray, List.set_cons_zero, List.set_cons_succ])) | (apply ord_pass rfl rfl (by assumption) rfl; (try simp only [Act.put, List.setIfInBounds_toArray, List.set_cons_zero, List.set_cons_succ])))
            (first | (apply ord_guard rfl rfl (by assumption) rfl; (focus ((intro w' hS'); go_simp; (try with_reducible rfl))); (try simp only [Act.put, List.setIfInBounds_toArray, List.set_cons_zero, List.set_cons_succ])) | (apply ord_pass rfl rfl (by assumption) rfl; (try simp only [Act.put, List.setIfInBounds_toArray, List.set_cons_zero, List.set_cons_succ])))
            (first | (apply ord_guard rfl rfl (by assumption) rfl; (focus ((intro w' hS'); go_simp; (try with_reducible rfl))); (try simp only [Act.put, List.setIfInBounds_toArray, List.set_cons_zero, List.set_cons_succ])) | (apply ord_pass rfl rfl (by assumption) rfl; (try simp only [Act.put, List.setIfInBounds_toArray, List.set_cons_zero, List.set_cons_succ])))
            (first | (apply ord_guard rfl rfl (by assumption) rfl; (focus ((intro w' hS'); go_simp; (try with_reducible rfl))); (try simp only [Act.put, List.setIfInBounds_toArray, List.set_cons_zero, List.set_cons_succ])) | (apply ord_pass rfl rfl (by assumption) rfl; (try simp only [Act.put, List.setIfInBounds_toArray, List.set_cons_zero, List.set_cons_succ])))
            (first | (apply ord_guard rfl rfl (by assumption) rfl; (focus ((intro w' hS'); go_simp; (try with_reducible rfl))); (try simp only [Act.put, List.setIfInBounds_toArray, List.set_cons_zero, List.set_cons_succ])) | (apply ord_pass rfl rfl (by assumption) rfl; (try simp only [Act.put, List.setIfInBounds_toArray, List.set_cons_zero, List.set_cons_succ])))
            (first | (apply ord_guard rfl rfl (by assumption) rfl; (focus ((intro w' hS'); go_simp; (try with_reducible rfl))); (try simp only [Act.put, List.setIfInBounds_toArray, List.set_cons_zero, List.set_cons_succ])) | (apply ord_pass rfl rfl (by assumption) rfl; (try simp only [Act.put, List.setIfInBounds_toArray, List.set_cons_zero, List.set_cons_succ])))
            (first | (apply ord_guard rfl rfl (by assumption) rfl; (focus ((intro w' hS'); go_simp; (try with_reducible rfl))); (try simp only [Act.put, List.setIfInBounds_toArray, List.set_cons_zero, List.set_cons_succ])) | (apply ord_pass rfl rfl (by assumption) rfl; (try simp only [Act.put, List.setIfInBounds_toArray, List.set_cons_zero, List.set_cons_succ])))
            (first | (apply ord_guard rfl rfl (by assumption) rfl; (focus ((intro w' hS'); go_simp; (try with_reducible rfl))); (try simp only [Act.put, List.setIfInBounds_toArray, List.set_cons_zero, List.set_cons_succ])) | (apply ord_pass rfl rfl (by assumption) rfl; (try simp only [Act.put, List.setIfInBounds_toArray, List.set_cons_zero, List.set_cons_succ])))
            (first | (apply ord_guard rfl rfl (by assumption) rfl; (focus ((intro w' hS'); go_simp; (try with_reducible rfl))); (try simp only [Act.put, List.setIfInBounds_toArray, List.set_cons_zero, List.set_cons_succ])) | (apply ord_pass rfl rfl (by assumption) rfl; (try simp only [Act.put, List.setIfInBounds_toArray, List.set_cons_zero, List.set_cons_succ])))
            (first | (apply ord_guard rfl rfl (by assumption) rfl; (focus ((intro w' hS'); go_simp; (try with_reducible rfl))); (try simp only [Act.put, List.setIfInBounds_toArray, List.set_cons_zero, List.set_cons_succ])) | (apply ord_pass rfl rfl (by assumption) rfl; (try simp only [Act.put, List.setIfInBounds_toArray, List.set_cons_zero, List.set_cons_succ])))
            (first | (apply ord_guard rfl rfl (by assumption) rfl; (focus ((intro w' hS'); go_simp; (try with_reducible rfl))); (try simp only [Act.put, List.setIfInBounds_toArray, List.set_cons_zero, List.set_cons_succ])) | (apply ord_pass rfl rfl (by assumption) rfl; (try simp only [Act.put, List.setIfInBounds_toArray, List.set_cons_zero, List.set_cons_succ])))
            (first | (apply ord_guard rfl rfl (by assumption) rfl; (focus ((intro w' hS'); go_simp; (try with_reducible rfl))); (try simp only [Act.put, List.setIfInBounds_toArray, List.set_cons_zero, List.set_cons_succ])) | (apply ord_pass rfl rfl (by assumption) rfl; (try simp only [Act.put, List.setIfInBounds_toArray, List.set_cons_zero, List.set_cons_succ])))
            (first | (apply ord_guard rfl rfl (by assumption) rfl; (focus ((intro w' hS'); go_simp; (try with_reducible rfl))); (try simp only [Act.put, List.setIfInBounds_toArray, List.set_cons_zero, List.set_cons_succ])) | (apply ord_pass rfl rfl (by assumption) rfl; (try simp only [Act.put, List.setIfInBounds_toArray, List.set_cons_zero, List.set_cons_succ])))
            (first | (apply ord_guard rfl rfl (by assumption) rfl; (focus ((intro w' hS'); go_simp; (try with_reducible rfl))); (try simp only [Act.put, List.setIfInBounds_toArray, List.set_cons_zero, List.set_cons_succ])) | (apply ord_pass rfl rfl (by assumption) rfl; (try simp only [Act.put, List.setIfInBounds_toArray, List.set_cons_zero, List.set_cons_succ])))
            (apply ord_held rfl rfl (by assumption) rfl; (focus ((intro w' hS'); go_simp; (try with_reducible rfl))); (try simp only [Act.put, List.setIfInBounds_toArray, List.set_cons_zero, List.set_cons_succ]))
            refine ord_end ?_
            go_wp2_with fail
            go_roundw
            case rel =>
              refine ⟨ext_trans hx (ext_trans (ext_drew (ext_refl _)) hx2), hbx.ext (ext_trans (ext_drew (ext_refl _)) hx2), j + 1, by omega, by go_num, ?_, ?_⟩
              · rw [take_snoc HT.out]
                exact properTs_snoc HTS.out HPP.out
              · intro h5
                have hz : j = 0 := by omega
                subst hz
                exact pairwise_one _
            case measure => simp [intOf]; omega
      · skip
        have hjm : j = kn := by omega
        subst hjm
        have hfull : t.kids.take j = t.kids := List.take_of_length_le (by have := HML.out; omega)
        have hTS := HTS.out
        rw [hfull] at hTS
        have hfull2 : t.keys.take j = t.keys := List.take_of_length_le (by have := HKL.out; omega)
        have hPW := HPW.out rfl
        rw [hfull2] at hPW
        have hP : ProperT t := by
          obtain ⟨tk, tx, td, ty, tks, tkids⟩ := t
          rw [ProperT]
          have h1 := HCK.out
          have h2 := HKL.out
          have h3 := HML.out
          simp only [T.kind, T.keys, T.kids] at h1 h2 h3 hTS hPW
          exact .inr ⟨.inr ⟨h1, by omega, hPW⟩, hTS⟩
        have HP := Lib.hid hP
        clear hP hTS
        go_wp2_with fail
        go_ret
        exact ⟨true, rfl, fun _ => HP.out, by (repeat (first | exact ext_refl _ | assumption | refine ext_alloc ?_ _ | refine ext_drew ?_ | refine ext_set ?_ (by simp) _ | refine ext_trans ?_ (by assumption)))⟩
  · go_enter Tryz.func92, Tryz.ntmps92
    go_wp2_with fail
    go_ret
    exact ⟨false, rfl, fun h => (Bool.noConfusion h), by (repeat (first | exact ext_refl _ | assumption | refine ext_alloc ?_ _ | refine ext_drew ?_ | refine ext_set ?_ (by simp) _ | refine ext_trans ?_ (by assumption)))⟩
theorem proper_at : ∀ n : Nat, PropAt n
  | 0 => fun S t e D w h hD => by
    have hD0 : D = 0 := hD.1
    subst hD0
    exact proper_zero t e w h
  | n + 1 => fun S t e D w h hD => by
    obtain ⟨h1, h2⟩ := hD
    by_cases h4 : t.kind = 4
    · exact proper_list n (proper_at n) t e D w h (by omega) (by omega) (by omega) h4
    · by_cases h5 : t.kind = 5
      · exact proper_map n (proper_at n) t e D w h (by omega) (by omega) (by omega) h5
      · exact proper_plain t e D w h (by omega) (by omega) ⟨h4, h5⟩

set_option maxHeartbeats 1000000 in
theorem query_any {S : Nat → Prop} (e : El) (t : T) (w : World) (h : TreeAt S w e t) : Calls Tryz.prog 70 #[e.val] w (Yes (t.kind = 5 ∧ ProperT t) w) := by
  obtain ⟨k, x, d, y, ka, n, kc, ca, m, cc⟩ := e
  have hkk := h.parts.1
  simp only at hkk
  have hC := Lib.hid fun w' (xx : Ext w w') => proper_at 100 S t _ 100 w' (h.ext xx) ⟨rfl, by omega⟩
  clear h
  simp only [El.val]
  by_cases hk : k = 5
  · have HKK := Lib.hid (hkk.symm.trans hk)
    clear hkk
    subst hk
    go_enter Tryz.func70, Tryz.ntmps70
    go_wp2_with (go_at_call 92; refine (hC.out _ (by (repeat (first | exact ext_refl _ | assumption | refine ext_alloc ?_ _ | refine ext_drew ?_ | refine ext_set ?_ (by simp) _ | refine ext_trans ?_ (by assumption))))).mono ?_; rintro r w2 ⟨b, rfl, hP, hx2⟩; have HP := Lib.hid hP; clear hP)
    go_ret
    exact ⟨_, rfl, fun hb => ⟨HKK.out, HP.out hb⟩, ext_trans (by (repeat (first | exact ext_refl _ | assumption | refine ext_alloc ?_ _ | refine ext_drew ?_ | refine ext_set ?_ (by simp) _ | refine ext_trans ?_ (by assumption)))) hx2⟩
  · clear hkk
    have hk2 : (k == 5) = false := by simpa using hk
    clear hk
    go_enter Tryz.func70, Tryz.ntmps70
    go_wp2_with fail
    go_ret
    exact ⟨false, rfl, fun h => (Bool.noConfusion h), by (repeat (first | exact ext_refl _ | assumption | refine ext_alloc ?_ _ | refine ext_drew ?_ | refine ext_set ?_ (by simp) _ | refine ext_trans ?_ (by assumption)))⟩
set_option maxRecDepth 20000 in
set_option maxHeartbeats 2000000 in
theorem queries_any {S : Nat → Prop} (a : Option Addr) (n c : Nat) (ts : List T) (w : World) (h : KidsAt S w a n c ts) : Calls Tryz.prog 71 #[.slice a n c] w (Yes ((∀ t ∈ ts, t.kind = 5 ∧ ProperT t) ∧ 0 < ts.length) w) := by
  have HK := Lib.hid h
  obtain ⟨hl, hn, hm, -⟩ := h
  unfold maxLen at hm
  have HL := Lib.hid hl
  clear hl
  go_enter Tryz.func71, Tryz.ntmps71
  go_wp2_with fail
  go_loopw [3] (fun i wr => Ext w wr ∧ ∃ j : Nat, j ≤ n ∧ i = .int .i64 j ∧ ∀ t ∈ ts.take j, t.kind = 5 ∧ ProperT t) (fun i _ => n - (intOf i).toNat)
  case atStart => exact ⟨by (repeat (first | exact ext_refl _ | assumption | refine ext_alloc ?_ _ | refine ext_drew ?_ | refine ext_set ?_ (by simp) _ | refine ext_trans ?_ (by assumption))), 0, Nat.zero_le _, rfl, fun t ht => by simp at ht⟩
  case round =>
    obtain ⟨hx, j, hj, rfl, hA⟩ := hrel
    have HA := Lib.hid hA
    clear hA
    by_cases hlt : j < n
    · obtain ⟨t, ht⟩ := some_of_lt HL.out hlt
      obtain ⟨b, off, ⟨k, x, d, y, ka, kn, kc, ca, m, cc⟩, rfl, -, hcell, hT⟩ := (KidsAt.ext hx HK.out).get ht
      have HT := Lib.hid ht
      obtain ⟨c0, c1, c2, c3, c4, c5⟩ := hcell
      have hC := Lib.hid fun w' (xx : Ext wr w') => query_any _ t w' (hT.ext xx)
      clear ht hT
      go_wp2_with (go_at_call 70; refine (hC.out _ (by (repeat (first | exact ext_refl _ | assumption | refine ext_alloc ?_ _ | refine ext_drew ?_ | refine ext_set ?_ (by simp) _ | refine ext_trans ?_ (by assumption))))).mono ?_; rintro r w2 ⟨b0, rfl, hP, hx2⟩; have HP := Lib.hid hP; clear hP; cases b0)
      · go_ret
        exact ⟨false, rfl, fun h => (Bool.noConfusion h), ext_trans hx hx2⟩
      · go_roundw
        case rel =>
          refine ⟨ext_trans hx hx2, j + 1, by omega, by go_num, fun q hq => ?_⟩
          rw [take_snoc HT.out] at hq
          rcases List.mem_append.1 hq with hq | hq
          · exact HA.out q hq
          · simp at hq; subst hq; exact HP.out (by trivial)
        case measure => simp [intOf]; omega
    · have hjn : j = n := by omega
      subst hjn
      have hfull : ts.take j = ts := List.take_of_length_le (by have := HL.out; omega)
      have hA := HA.out
      rw [hfull] at hA
      have HA2 := Lib.hid hA
      clear hA
      go_wp2_with fail
      go_ret
      exact ⟨_, rfl, fun hb => ⟨HA2.out, by have := HL.out; simp at hb; omega⟩, hx⟩
end Go.Proofs.YtfngaoicoecncaaGreatDoor
