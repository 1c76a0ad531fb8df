/-
  Filters of rules of intervals, as the builders hold them.
-/
import Derived.Test.YtdjojnlejkljdaaGreatPf
import Derived.Test.YtdjojnlejkljdaaGreatW5
import Derived.Test.YtdjojnlejkljdaaGreatF1
import Derived.Test.YtdjojnlejkljdaaGreatRj
namespace Go.Proofs.YtdjojnlejkljdaaGreat
open Go.RowKit

theorem properTs_snoc {l : List T} {t : T} (h : ProperTs l) (k : ProperT t) : ProperTs (l ++ [t]) := (properTs_iff _).2 fun q hq => by
  rcases List.mem_append.1 hq with hq | hq
  · exact (properTs_iff _).1 h q hq
  · simp at hq; subst hq; exact k
theorem pairwise_one (l : List ByteArray) : (l.take (0 + 1)).Pairwise lt := by
  cases l <;> simp
theorem pairwise_snoc {l : List ByteArray} {j : Nat} {s0 s1 : ByteArray} (h : (l.take j).Pairwise lt) (h0 : 0 < j ∧ l[j - 1]? = some s0) (hl : lt s0 s1) : (l.take j ++ [s1]).Pairwise lt := by
  obtain ⟨hj, h0⟩ := h0
  refine List.pairwise_append.2 ⟨h, by simp, fun x hx y hy => ?_⟩
  simp at hy
  subst hy
  obtain ⟨i, rfl⟩ : ∃ i, j = i + 1 := ⟨j - 1, by omega⟩
  rw [Nat.add_sub_cancel] at h0
  rw [take_snoc h0] at hx h
  rcases List.mem_append.1 hx with hx | hx
  · exact lt_trans ((List.pairwise_append.1 h).2.2 x hx s0 (by simp)) hl
  · simp at hx; subst hx; exact hl

set_option maxRecDepth 20000 in
set_option maxHeartbeats 800000 in
theorem proper_zero {S : Nat → Prop} (t : T) (e : El) (w : World) (h : TreeAt S w e t) : Calls Tryz.prog 86 #[e.val, .int .i64 0] w (Yes (ProperT t) w) := by
  obtain ⟨k, x, d, y, ka, kn, kc, ca, m, cc⟩ := e
  have hkk := h.parts.1
  have hSc := Lib.hid fun w' (xx : Ext w w') => scalar_any _ t w' (h.ext xx)
  clear h
  simp only at hkk
  simp only [El.val]
  have hb : Box (w.alloc (.cells (El.arr ⟨k, x, d, y, ka, kn, kc, ca, m, cc⟩) 35)) w.heap.size (El.arr ⟨k, x, d, y, ka, kn, kc, ca, m, cc⟩) 35 := Box.at rfl _ _
  cases hs : scalarT t
  · have HS0 := Lib.hid hs
    clear hs hkk
    go_enter Tryz.func86, Tryz.ntmps86
    go_wp2_with (go_at_call 41; refine (hSc.out _ (by (repeat (first | exact ext_refl _ | assumption | refine ext_alloc ?_ _ | refine ext_drew ?_ | refine ext_set ?_ (by simp) _ | refine ext_trans ?_ (by assumption))))).mono ?_; rintro r w2 ⟨rfl, hx2⟩; rw [HS0.out])
    go_ret
    exact ⟨false, rfl, fun h => (Bool.noConfusion h), by (repeat (first | exact ext_refl _ | assumption | refine ext_alloc ?_ _ | refine ext_drew ?_ | refine ext_set ?_ (by simp) _ | refine ext_trans ?_ (by assumption)))⟩
  · have hP : ProperT t := by cases t; rw [ProperT]; exact .inl hs
    have HP := Lib.hid hP
    have HS0 := Lib.hid hs
    have hk := scalar_kind hs
    rw [← hkk] at hk
    clear hP hkk hs
    have hk4 : (k != 4) = true := by simp; omega
    have hk5 : (k != 5) = true := by simp; omega
    clear hk
    have tok := trivial
    go_enter Tryz.func86, Tryz.ntmps86
    go_wp2_with (first
      | (go_at_call 41; have _t := tok; clear _t tok; refine (hSc.out _ (by (repeat (first | exact ext_refl _ | assumption | refine ext_alloc ?_ _ | refine ext_drew ?_ | refine ext_set ?_ (by simp) _ | refine ext_trans ?_ (by assumption))))).mono ?_; rintro r w2 ⟨rfl, hx2⟩; rw [HS0.out]; have hb2 := hb.ext hx2; obtain ⟨o0, o1, o2, o3, o4, o5⟩ := hb2.six)
      | (go_at_call 41; refine (hSc.out _ (by (repeat (first | exact ext_refl _ | assumption | refine ext_alloc ?_ _ | refine ext_drew ?_ | refine ext_set ?_ (by simp) _ | refine ext_trans ?_ (by assumption))))).mono ?_; rintro r w3 ⟨rfl, hx3⟩; rw [HS0.out]))
    go_ret
    exact ⟨true, rfl, fun _ => HP.out, by (repeat (first | exact ext_refl _ | assumption | refine ext_alloc ?_ _ | refine ext_drew ?_ | refine ext_set ?_ (by simp) _ | refine ext_trans ?_ (by assumption)))⟩
/-- A proper tree at a depth. -/
def PropAt (n : Nat) : Prop := ∀ (S : Nat → Prop) (t : T) (e : El) (D : Int) (w : World), TreeAt S w e t → D = n ∧ n ≤ 1000 → Calls Tryz.prog 86 #[e.val, .int .i64 D] w (Yes (ProperT t) w)
set_option maxRecDepth 20000 in
set_option maxHeartbeats 800000 in
theorem proper_plain {S : Nat → Prop} (t : T) (e : El) (D : Int) (w : World) (h : TreeAt S w e t) (hD1 : 0 < D) (hD2 : D ≤ 1000) (hc : ¬ t.kind = 4 ∧ ¬ t.kind = 5) : Calls Tryz.prog 86 #[e.val, .int .i64 D] w (Yes (ProperT t) w) := by
  obtain ⟨k, x, d, y, ka, kn, kc, ca, m, cc⟩ := e
  have hkk := h.parts.1
  simp only at hkk
  rw [← hkk] at hc
  have hSc := Lib.hid fun w' (xx : Ext w w') => scalar_any _ t w' (h.ext xx)
  clear h hkk
  have hD3 : (D == 0) = false := by simp; omega
  have hk4 : (k != 4) = true := by simp; omega
  have hk5 : (k != 5) = true := by simp; omega
  clear hc
  have hP : scalarT t = true → ProperT t := fun hs => by cases t; rw [ProperT]; exact .inl hs
  have HP := Lib.hid hP
  clear hP
  simp only [El.val]
  go_enter Tryz.func86, Tryz.ntmps86
  go_wp2_with (go_at_call 41; refine (hSc.out _ (by (repeat (first | exact ext_refl _ | assumption | refine ext_alloc ?_ _ | refine ext_drew ?_ | refine ext_set ?_ (by simp) _ | refine ext_trans ?_ (by assumption))))).mono ?_; rintro r w2 ⟨rfl, hx2⟩)
  go_ret
  exact ⟨_, rfl, HP.out, by (repeat (first | exact ext_refl _ | assumption | refine ext_alloc ?_ _ | refine ext_drew ?_ | refine ext_set ?_ (by simp) _ | refine ext_trans ?_ (by assumption)))⟩
set_option maxRecDepth 20000 in
set_option maxHeartbeats 4000000 in
theorem proper_list {S : Nat → Prop} (n : Nat) (ih : PropAt n) (t : T) (e : El) (D : Int) (w : World) (h : TreeAt S w e t) (hD1 : 0 < D) (hD2 : D ≤ 1000) (hDn : D - 1 = n) (hck : t.kind = 4) : Calls Tryz.prog 86 #[e.val, .int .i64 D] w (Yes (ProperT t) w) := by
  obtain ⟨k, x, d, y, ka, kn, kc, ca, m, cc⟩ := e
  have HIH := Lib.hid (ih S)
  clear ih
  obtain ⟨hkk, -, -, -, hS, hK⟩ := h.parts
  clear h
  have hD3 : (D == 0) = false := by simp; omega
  have hnn : n ≤ 1000 := by omega
  simp only at hkk hS hK
  rw [hck] at hkk
  have HCK := Lib.hid hck
  have HSS := Lib.hid hS
  have HK := Lib.hid hK
  have hkl := hS.1
  have hml := hK.1
  have hcb := hK.2.1
  have hkb := hS.2.1
  have hcm := hK.2.2.1
  have hkm := hS.2.2.1
  unfold maxLen at hcm hkm
  have HKL := Lib.hid hkl
  have HML := Lib.hid hml
  subst hkk
  clear hck hS hK hkl hml
  simp only [El.val]
  by_cases hkz : kn = 0
  · subst hkz
    have hb0 : Box (w.alloc (.cells (El.arr ⟨4, x, d, y, ka, 0, kc, ca, m, cc⟩) 35)) w.heap.size (El.arr ⟨4, x, d, y, ka, 0, kc, ca, m, cc⟩) 35 := Box.at rfl _ _
    go_enter Tryz.func86, Tryz.ntmps86
    go_wp2_with fail
    go_loopw [5] (fun i wr => Ext w wr ∧ Box wr w.heap.size (El.arr ⟨4, x, d, y, ka, 0, kc, ca, m, cc⟩) 35 ∧ ∃ (j : Nat), j ≤ m ∧ i = .int .i64 j ∧ ProperTs (t.kids.take j) ∧ ((4:Int) = 5 → (t.keys.take j).Pairwise lt)) (fun i _ => m - (intOf i).toNat)
    case atStart => exact ⟨by (repeat (first | exact ext_refl _ | assumption | refine ext_alloc ?_ _ | refine ext_drew ?_ | refine ext_set ?_ (by simp) _ | refine ext_trans ?_ (by assumption))), hb0, 0, Nat.zero_le _, rfl, by simp [ProperTs], fun _ => by simp⟩
    case round =>
      obtain ⟨hx, hbx, j, hj, rfl, hTS, hPW⟩ := hrel
      have HTS := Lib.hid hTS
      have HPW := Lib.hid hPW
      clear hTS hPW
      obtain ⟨o0, o1, o2, o3, o4, o5⟩ := hbx.six
      by_cases hlt : j < m
      · obtain ⟨t2, ht⟩ := some_of_lt HML.out hlt
        obtain ⟨b, off, e2, rfl, -, hcell, hT2⟩ := (KidsAt.ext hx HK.out).get ht
        have HT := Lib.hid ht
        clear ht
        by_cases hj0 : 0 < j
        · have hjd : decide ((0:Int) < (j:Int)) = true := by rw [decide_eq_true_eq]; omega
          go_upto_region 10 with fail
          refine wp_region_order (fun w' => Six w' w.heap.size ⟨4, x, d, y, ka, 0, kc, some ⟨b, off, none⟩, m, cc⟩ ∧ CellsAt w' b (off + j * 6) e2) [0, 1, 2, 3, 4, 5, 6, 8, 9, 10, 11, 12, 13, 14, 15, 16, 17, 18, 19, 20, 21, 22, 23, 24, 25, 26, 27, 28, 29, 30, 31] [0, 1, 2, 3, 4, 5, 6, 7, 8, 9, 10, 11, 12, 13, 14, 15, 16, 17, 18, 19, 20, 21, 22, 23, 24, 25, 26, 27, 28, 29, 30, 31] (by kernel_rfl) (by kernel_rfl) (fun d _ _ _ _ h => by cases d <;> exact h) (by kernel_rfl) ?_
          have hS : (fun w' => Six w' w.heap.size ⟨4, x, d, y, ka, 0, kc, some ⟨b, off, none⟩, m, cc⟩ ∧ CellsAt w' b (off + j * 6) e2) wr.drew := ⟨hbx.Six, hcell⟩
          (apply ord_held rfl rfl (by assumption) rfl; (focus ((intro w' hS'); go_simp; (try with_reducible rfl))); (try simp only [Act.put, List.setIfInBounds_toArray, List.set_cons_zero, List.set_cons_succ]))
          (apply ord_held rfl rfl (by assumption) rfl; (focus ((intro w' hS'); go_simp; (try with_reducible rfl))); (try simp only [Act.put, List.setIfInBounds_toArray, List.set_cons_zero, List.set_cons_succ]))
          (apply ord_held rfl rfl (by assumption) rfl; (focus ((intro w' hS'); go_simp; (try with_reducible rfl))); (try simp only [Act.put, List.setIfInBounds_toArray, List.set_cons_zero, List.set_cons_succ]))
          (apply ord_held rfl rfl (by assumption) rfl; (focus ((intro w' hS'); go_simp; (try with_reducible rfl))); (try simp only [Act.put, List.setIfInBounds_toArray, List.set_cons_zero, List.set_cons_succ]))
          (apply ord_held rfl rfl (by assumption) rfl; (focus ((intro w' hS'); go_simp; (try with_reducible rfl))); (try simp only [Act.put, List.setIfInBounds_toArray, List.set_cons_zero, List.set_cons_succ]))
          (apply ord_held rfl rfl (by assumption) rfl; (focus ((intro w' hS'); go_simp; (try with_reducible rfl))); (try simp only [Act.put, List.setIfInBounds_toArray, List.set_cons_zero, List.set_cons_succ]))
          (apply ord_held rfl rfl (by assumption) rfl; (focus ((intro w' hS'); go_simp; (try with_reducible rfl))); (try simp only [Act.put, List.setIfInBounds_toArray, List.set_cons_zero, List.set_cons_succ]))
          (apply ord_loud rfl rfl rfl; intro K hK; go_simp)
          refine (HIH.out t2 e2 _ _ (hT2.ext (ext_drew (ext_refl _))) ?arith).mono ?_
          case arith => exact ⟨by first | omega | exact IntWalk.i64_in (by omega) (by omega) | simp (disch := omega) only [IntWalk.i64_in], by omega⟩
          rintro r w2 ⟨b0, rfl, hP2, hx2⟩
          have HP2 := Lib.hid hP2
          clear hP2
          have hS2 : (fun w' => Six w' w.heap.size ⟨4, x, d, y, ka, 0, kc, some ⟨b, off, none⟩, m, cc⟩ ∧ CellsAt w' b (off + j * 6) e2) w2 := ⟨Six.ext hx2 hS.1, hS.2.keep (hx2.keeps (fun _ => True)) trivial⟩
          refine hK _ _ (fun _ => hS2) ?_
          clear hK K hS
          (try simp only [Act.put, List.setIfInBounds_toArray, List.set_cons_zero, List.set_cons_succ])
          cases b0
          · skip
            (apply ord_held rfl rfl (by assumption) rfl; (focus ((intro w' hS'); go_simp; (try with_reducible rfl))); (try simp only [Act.put, List.setIfInBounds_toArray, List.set_cons_zero, List.set_cons_succ]))
            (apply ord_held rfl rfl (by assumption) rfl; (focus ((intro w' hS'); go_simp; (try with_reducible rfl))); (try simp only [Act.put, List.setIfInBounds_toArray, List.set_cons_zero, List.set_cons_succ]))
            (first | (apply ord_guard rfl rfl (by assumption) rfl; (focus ((intro w' hS'); go_simp; (try with_reducible rfl))); (try simp only [Act.put, List.setIfInBounds_toArray, List.set_cons_zero, List.set_cons_succ])) | (apply ord_pass rfl rfl (by assumption) rfl; (try simp only [Act.put, List.setIfInBounds_toArray, List.set_cons_zero, List.set_cons_succ])))
            (first | (apply ord_guard rfl rfl (by assumption) rfl; (focus ((intro w' hS'); go_simp; (try with_reducible rfl))); (try simp only [Act.put, List.setIfInBounds_toArray, List.set_cons_zero, List.set_cons_succ])) | (apply ord_pass rfl rfl (by assumption) rfl; (try simp only [Act.put, List.setIfInBounds_toArray, List.set_cons_zero, List.set_cons_succ])))
            (first | (apply ord_guard rfl rfl (by assumption) rfl; (focus ((intro w' hS'); go_simp; (try with_reducible rfl))); (try simp only [Act.put, List.setIfInBounds_toArray, List.set_cons_zero, List.set_cons_succ])) | (apply ord_pass rfl rfl (by assumption) rfl; (try simp only [Act.put, List.setIfInBounds_toArray, List.set_cons_zero, List.set_cons_succ])))
            (first | (apply ord_guard rfl rfl (by assumption) rfl; (focus ((intro w' hS'); go_simp; (try with_reducible rfl))); (try simp only [Act.put, List.setIfInBounds_toArray, List.set_cons_zero, List.set_cons_succ])) | (apply ord_pass rfl rfl (by assumption) rfl; (try simp only [Act.put, List.setIfInBounds_toArray, List.set_cons_zero, List.set_cons_succ])))
            (first | (apply ord_guard rfl rfl (by assumption) rfl; (focus ((intro w' hS'); go_simp; (try with_reducible rfl))); (try simp only [Act.put, List.setIfInBounds_toArray, List.set_cons_zero, List.set_cons_succ])) | (apply ord_pass rfl rfl (by assumption) rfl; (try simp only [Act.put, List.setIfInBounds_toArray, List.set_cons_zero, List.set_cons_succ])))
            (first | (apply ord_guard rfl rfl (by assumption) rfl; (focus ((intro w' hS'); go_simp; (try with_reducible rfl))); (try simp only [Act.put, List.setIfInBounds_toArray, List.set_cons_zero, List.set_cons_succ])) | (apply ord_pass rfl rfl (by assumption) rfl; (try simp only [Act.put, List.setIfInBounds_toArray, List.set_cons_zero, List.set_cons_succ])))
            (first | (apply ord_guard rfl rfl (by assumption) rfl; (focus ((intro w' hS'); go_simp; (try with_reducible rfl))); (try simp only [Act.put, List.setIfInBounds_toArray, List.set_cons_zero, List.set_cons_succ])) | (apply ord_pass rfl rfl (by assumption) rfl; (try simp only [Act.put, List.setIfInBounds_toArray, List.set_cons_zero, List.set_cons_succ])))
            (first | (apply ord_guard rfl rfl (by assumption) rfl; (focus ((intro w' hS'); go_simp; (try with_reducible rfl))); (try simp only [Act.put, List.setIfInBounds_toArray, List.set_cons_zero, List.set_cons_succ])) | (apply ord_pass rfl rfl (by assumption) rfl; (try simp only [Act.put, List.setIfInBounds_toArray, List.set_cons_zero, List.set_cons_succ])))
            (first | (apply ord_guard rfl rfl (by assumption) rfl; (focus ((intro w' hS'); go_simp; (try with_reducible rfl))); (try simp only [Act.put, List.setIfInBounds_toArray, List.set_cons_zero, List.set_cons_succ])) | (apply ord_pass rfl rfl (by assumption) rfl; (try simp only [Act.put, List.setIfInBounds_toArray, List.set_cons_zero, List.set_cons_succ])))
            (first | (apply ord_guard rfl rfl (by assumption) rfl; (focus ((intro w' hS'); go_simp; (try with_reducible rfl))); (try simp only [Act.put, List.setIfInBounds_toArray, List.set_cons_zero, List.set_cons_succ])) | (apply ord_pass rfl rfl (by assumption) rfl; (try simp only [Act.put, List.setIfInBounds_toArray, List.set_cons_zero, List.set_cons_succ])))
            (first | (apply ord_guard rfl rfl (by assumption) rfl; (focus ((intro w' hS'); go_simp; (try with_reducible rfl))); (try simp only [Act.put, List.setIfInBounds_toArray, List.set_cons_zero, List.set_cons_succ])) | (apply ord_pass rfl rfl (by assumption) rfl; (try simp only [Act.put, List.setIfInBounds_toArray, List.set_cons_zero, List.set_cons_succ])))
            (first | (apply ord_guard rfl rfl (by assumption) rfl; (focus ((intro w' hS'); go_simp; (try with_reducible rfl))); (try simp only [Act.put, List.setIfInBounds_toArray, List.set_cons_zero, List.set_cons_succ])) | (apply ord_pass rfl rfl (by assumption) rfl; (try simp only [Act.put, List.setIfInBounds_toArray, List.set_cons_zero, List.set_cons_succ])))
            (first | (apply ord_guard rfl rfl (by assumption) rfl; (focus ((intro w' hS'); go_simp; (try with_reducible rfl))); (try simp only [Act.put, List.setIfInBounds_toArray, List.set_cons_zero, List.set_cons_succ])) | (apply ord_pass rfl rfl (by assumption) rfl; (try simp only [Act.put, List.setIfInBounds_toArray, List.set_cons_zero, List.set_cons_succ])))
            (first | (apply ord_guard rfl rfl (by assumption) rfl; (focus ((intro w' hS'); go_simp; (try with_reducible rfl))); (try simp only [Act.put, List.setIfInBounds_toArray, List.set_cons_zero, List.set_cons_succ])) | (apply ord_pass rfl rfl (by assumption) rfl; (try simp only [Act.put, List.setIfInBounds_toArray, List.set_cons_zero, List.set_cons_succ])))
            (first | (apply ord_guard rfl rfl (by assumption) rfl; (focus ((intro w' hS'); go_simp; (try with_reducible rfl))); (try simp only [Act.put, List.setIfInBounds_toArray, List.set_cons_zero, List.set_cons_succ])) | (apply ord_pass rfl rfl (by assumption) rfl; (try simp only [Act.put, List.setIfInBounds_toArray, List.set_cons_zero, List.set_cons_succ])))
            (first | (apply ord_guard rfl rfl (by assumption) rfl; (focus ((intro w' hS'); go_simp; (try with_reducible rfl))); (try simp only [Act.put, List.setIfInBounds_toArray, List.set_cons_zero, List.set_cons_succ])) | (apply ord_pass rfl rfl (by assumption) rfl; (try simp only [Act.put, List.setIfInBounds_toArray, List.set_cons_zero, List.set_cons_succ])))
            (first | (apply ord_guard rfl rfl (by assumption) rfl; (focus ((intro w' hS'); go_simp; (try with_reducible rfl))); (try simp only [Act.put, List.setIfInBounds_toArray, List.set_cons_zero, List.set_cons_succ])) | (apply ord_pass rfl rfl (by assumption) rfl; (try simp only [Act.put, List.setIfInBounds_toArray, List.set_cons_zero, List.set_cons_succ])))
            (first | (apply ord_guard rfl rfl (by assumption) rfl; (focus ((intro w' hS'); go_simp; (try with_reducible rfl))); (try simp only [Act.put, List.setIfInBounds_toArray, List.set_cons_zero, List.set_cons_succ])) | (apply ord_pass rfl rfl (by assumption) rfl; (try simp only [Act.put, List.setIfInBounds_toArray, List.set_cons_zero, List.set_cons_succ])))
            (first | (apply ord_guard rfl rfl (by assumption) rfl; (focus ((intro w' hS'); go_simp; (try with_reducible rfl))); (try simp only [Act.put, List.setIfInBounds_toArray, List.set_cons_zero, List.set_cons_succ])) | (apply ord_pass rfl rfl (by assumption) rfl; (try simp only [Act.put, List.setIfInBounds_toArray, List.set_cons_zero, List.set_cons_succ])))
            (first | (apply ord_guard rfl rfl (by assumption) rfl; (focus ((intro w' hS'); go_simp; (try with_reducible rfl))); (try simp only [Act.put, List.setIfInBounds_toArray, List.set_cons_zero, List.set_cons_succ])) | (apply ord_pass rfl rfl (by assumption) rfl; (try simp only [Act.put, List.setIfInBounds_toArray, List.set_cons_zero, List.set_cons_succ])))
            (first | (apply ord_guard rfl rfl (by assumption) rfl; (focus ((intro w' hS'); go_simp; (try with_reducible rfl))); (try simp only [Act.put, List.setIfInBounds_toArray, List.set_cons_zero, List.set_cons_succ])) | (apply ord_pass rfl rfl (by assumption) rfl; (try simp only [Act.put, List.setIfInBounds_toArray, List.set_cons_zero, List.set_cons_succ])))
            (apply ord_held rfl rfl (by assumption) rfl; (focus ((intro w' hS'); go_simp; (try with_reducible rfl))); (try simp only [Act.put, List.setIfInBounds_toArray, List.set_cons_zero, List.set_cons_succ]))
            refine ord_end ?_
            go_wp2_with fail
            go_ret
            exact ⟨false, rfl, fun h => (Bool.noConfusion h), ext_trans hx (ext_trans (ext_drew (ext_refl _)) hx2)⟩
          · have hp2 := HP2.out rfl
            have HPP := Lib.hid hp2
            clear hp2
            (apply ord_held rfl rfl (by assumption) rfl; (focus ((intro w' hS'); go_simp; (try with_reducible rfl))); (try simp only [Act.put, List.setIfInBounds_toArray, List.set_cons_zero, List.set_cons_succ]))
            (apply ord_held rfl rfl (by assumption) rfl; (focus ((intro w' hS'); go_simp; (try with_reducible rfl))); (try simp only [Act.put, List.setIfInBounds_toArray, List.set_cons_zero, List.set_cons_succ]))
            (first | (apply ord_guard rfl rfl (by assumption) rfl; (focus ((intro w' hS'); go_simp; (try with_reducible rfl))); (try simp only [Act.put, List.setIfInBounds_toArray, List.set_cons_zero, List.set_cons_succ])) | (apply ord_pass rfl rfl (by assumption) rfl; (try simp only [Act.put, List.setIfInBounds_toArray, List.set_cons_zero, List.set_cons_succ])))
            (first | (apply ord_guard rfl rfl (by assumption) rfl; (focus ((intro w' hS'); go_simp; (try with_reducible rfl))); (try simp only [Act.put, List.setIfInBounds_toArray, List.set_cons_zero, List.set_cons_succ])) | (apply ord_pass rfl rfl (by assumption) rfl; (try simp only [Act.put, List.setIfInBounds_toArray, List.set_cons_zero, List.set_cons_succ])))
            (first | (apply ord_guard rfl rfl (by assumption) rfl; (focus ((intro w' hS'); go_simp; (try with_reducible rfl))); (try simp only [Act.put, List.setIfInBounds_toArray, List.set_cons_zero, List.set_cons_succ])) | (apply ord_pass rfl rfl (by assumption) rfl; (try simp only [Act.put, List.setIfInBounds_toArray, List.set_cons_zero, List.set_cons_succ])))
            (first | (apply ord_guard rfl rfl (by assumption) rfl; (focus ((intro w' hS'); go_simp; (try with_reducible rfl))); (try simp only [Act.put, List.setIfInBounds_toArray, List.set_cons_zero, List.set_cons_succ])) | (apply ord_pass rfl rfl (by assumption) rfl; (try simp only [Act.put, List.setIfInBounds_toArray, List.set_cons_zero, List.set_cons_succ])))
            (first | (apply ord_guard rfl rfl (by assumption) rfl; (focus ((intro w' hS'); go_simp; (try with_reducible rfl))); (try simp only [Act.put, List.setIfInBounds_toArray, List.set_cons_zero, List.set_cons_succ])) | (apply ord_pass rfl rfl (by assumption) rfl; (try simp only [Act.put, List.setIfInBounds_toArray, List.set_cons_zero, List.set_cons_succ])))
            (first | (apply ord_guard rfl rfl (by assumption) rfl; (focus ((intro w' hS'); go_simp; (try with_reducible rfl))); (try simp only [Act.put, List.setIfInBounds_toArray, List.set_cons_zero, List.set_cons_succ])) | (apply ord_pass rfl rfl (by assumption) rfl; (try simp only [Act.put, List.setIfInBounds_toArray, List.set_cons_zero, List.set_cons_succ])))
            (first | (apply ord_guard rfl rfl (by assumption) rfl; (focus ((intro w' hS'); go_simp; (try with_reducible rfl))); (try simp only [Act.put, List.setIfInBounds_toArray, List.set_cons_zero, List.set_cons_succ])) | (apply ord_pass rfl rfl (by assumption) rfl; (try simp only [Act.put, List.setIfInBounds_toArray, List.set_cons_zero, List.set_cons_succ])))
            (first | (apply ord_guard rfl rfl (by assumption) rfl; (focus ((intro w' hS'); go_simp; (try with_reducible rfl))); (try simp only [Act.put, List.setIfInBounds_toArray, List.set_cons_zero, List.set_cons_succ])) | (apply ord_pass rfl rfl (by assumption) rfl; (try simp only [Act.put, List.setIfInBounds_toArray, List.set_cons_zero, List.set_cons_succ])))
            (first | (apply ord_guard rfl rfl (by assumption) rfl; (focus ((intro w' hS'); go_simp; (try with_reducible rfl))); (try simp only [Act.put, List.setIfInBounds_toArray, List.set_cons_zero, List.set_cons_succ])) | (apply ord_pass rfl rfl (by assumption) rfl; (try simp only [Act.put, List.setIfInBounds_toArray, List.set_cons_zero, List.set_cons_succ])))
            (first | (apply ord_guard rfl rfl (by assumption) rfl; (focus ((intro w' hS'); go_simp; (try with_reducible rfl))); (try simp only [Act.put, List.setIfInBounds_toArray, List.set_cons_zero, List.set_cons_succ])) | (apply ord_pass rfl rfl (by assumption) rfl; (try simp only [Act.put, List.setIfInBounds_toArray, List.set_cons_zero, List.set_cons_succ])))
            (first | (apply ord_guard rfl rfl (by assumption) rfl; (focus ((intro w' hS'); go_simp; (try with_reducible rfl))); (try simp only [Act.put, List.setIfInBounds_toArray, List.set_cons_zero, List.set_cons_succ])) | (apply ord_pass rfl rfl (by assumption) rfl; (try simp only [Act.put, List.setIfInBounds_toArray, List.set_cons_zero, List.set_cons_succ])))
            (first | (apply ord_guard rfl rfl (by assumption) rfl; (focus ((intro w' hS'); go_simp; (try with_reducible rfl))); (try simp only [Act.put, List.setIfInBounds_toArray, List.set_cons_zero, List.set_cons_succ])) | (apply ord_pass rfl rfl (by assumption) rfl; (try simp only [Act.put, List.setIfInBounds_toArray, List.set_cons_zero, List.set_cons_succ])))
            (first | (apply ord_guard rfl rfl (by assumption) rfl; (focus ((intro w' hS'); go_simp; (try with_reducible rfl))); (try simp only [Act.put, List.setIfInBounds_toArray, List.set_cons_zero, List.set_cons_succ])) | (apply ord_pass rfl rfl (by assumption) rfl; (try simp only [Act.put, List.setIfInBounds_toArray, List.set_cons_zero, List.set_cons_succ])))
            (first | (apply ord_guard rfl rfl (by assumption) rfl; (focus ((intro w' hS'); go_simp; (try with_reducible rfl))); (try simp only [Act.put, List.setIfInBounds_toArray, List.set_cons_zero, List.set_cons_succ])) | (apply ord_pass rfl rfl (by assumption) rfl; (try simp only [Act.put, List.setIfInBounds_toArray, List.set_cons_zero, List.set_cons_succ])))
            (first | (apply ord_guard rfl rfl (by assumption) rfl; (focus ((intro w' hS'); go_simp; (try with_reducible rfl))); (try simp only [Act.put, List.setIfInBounds_toArray, List.set_cons_zero, List.set_cons_succ])) | (apply ord_pass rfl rfl (by assumption) rfl; (try simp only [Act.put, List.setIfInBounds_toArray, List.set_cons_zero, List.set_cons_succ])))
            (first | (apply ord_guard rfl rfl (by assumption) rfl; (focus ((intro w' hS'); go_simp; (try with_reducible rfl))); (try simp only [Act.put, List.setIfInBounds_toArray, List.set_cons_zero, List.set_cons_succ])) | (apply ord_pass rfl rfl (by assumption) rfl; (try simp only [Act.put, List.setIfInBounds_toArray, List.set_cons_zero, List.set_cons_succ])))
            (first | (apply ord_guard rfl rfl (by assumption) rfl; (focus ((intro w' hS'); go_simp; (try with_reducible rfl))); (try simp only [Act.put, List.setIfInBounds_toArray, List.set_cons_zero, List.set_cons_succ])) | (apply ord_pass rfl rfl (by assumption) rfl; (try simp only [Act.put, List.setIfInBounds_toArray, List.set_cons_zero, List.set_cons_succ])))
            (first | (apply ord_guard rfl rfl (by assumption) rfl; (focus ((intro w' hS'); go_simp; (try with_reducible rfl))); (try simp only [Act.put, List.setIfInBounds_toArray, List.set_cons_zero, List.set_cons_succ])) | (apply ord_pass rfl rfl (by assumption) rfl; (try simp only [Act.put, List.setIfInBounds_toArray, List.set_cons_zero, List.set_cons_succ])))
            (first | (apply ord_guard rfl rfl (by assumption) rfl; (focus ((intro w' hS'); go_simp; (try with_reducible rfl))); (try simp only [Act.put, List.setIfInBounds_toArray, List.set_cons_zero, List.set_cons_succ])) | (apply ord_pass rfl rfl (by assumption) rfl; (try simp only [Act.put, List.setIfInBounds_toArray, List.set_cons_zero, List.set_cons_succ])))
            (first | (apply ord_guard rfl rfl (by assumption) rfl; (focus ((intro w' hS'); go_simp; (try with_reducible rfl))); (try simp only [Act.put, List.setIfInBounds_toArray, List.set_cons_zero, List.set_cons_succ])) | (apply ord_pass rfl rfl (by assumption) rfl; (try simp only [Act.put, List.setIfInBounds_toArray, List.set_cons_zero, List.set_cons_succ])))
            (first | (apply ord_guard rfl rfl (by assumption) rfl; (focus ((intro w' hS'); go_simp; (try with_reducible rfl))); (try simp only [Act.put, List.setIfInBounds_toArray, List.set_cons_zero, List.set_cons_succ])) | (apply ord_pass rfl rfl (by assumption) rfl; (try simp only [Act.put, List.setIfInBounds_toArray, List.set_cons_zero, List.set_cons_succ])))
            (apply ord_held rfl rfl (by assumption) rfl; (focus ((intro w' hS'); go_simp; (try with_reducible rfl))); (try simp only [Act.put, List.setIfInBounds_toArray, List.set_cons_zero, List.set_cons_succ]))
            refine ord_end ?_
            go_wp2_with fail
            go_roundw
            case rel =>
              refine ⟨ext_trans hx (ext_trans (ext_drew (ext_refl _)) hx2), hbx.ext (ext_trans (ext_drew (ext_refl _)) hx2), j + 1, by omega, by go_num, ?_, ?_⟩
              · rw [take_snoc HT.out]
                exact properTs_snoc HTS.out HPP.out
              · intro h5
                omega
            case measure => simp [intOf]; omega
        · have hjd : decide ((0:Int) < (j:Int)) = false := by rw [decide_eq_false_iff_not]; omega
          go_upto_region 10 with fail
          refine wp_region_order (fun w' => Six w' w.heap.size ⟨4, x, d, y, ka, 0, kc, some ⟨b, off, none⟩, m, cc⟩ ∧ CellsAt w' b (off + j * 6) e2) [0, 1, 2, 3, 4, 5, 6, 8, 9, 10, 11, 12, 13, 14, 15, 16, 17, 18, 19, 20, 21, 22, 23, 24, 25, 26, 27, 28, 29, 30, 31] [0, 1, 2, 3, 4, 5, 6, 7, 8, 9, 10, 11, 12, 13, 14, 15, 16, 17, 18, 19, 20, 21, 22, 23, 24, 25, 26, 27, 28, 29, 30, 31] (by kernel_rfl) (by kernel_rfl) (fun d _ _ _ _ h => by cases d <;> exact h) (by kernel_rfl) ?_
          have hS : (fun w' => Six w' w.heap.size ⟨4, x, d, y, ka, 0, kc, some ⟨b, off, none⟩, m, cc⟩ ∧ CellsAt w' b (off + j * 6) e2) wr.drew := ⟨hbx.Six, hcell⟩
          (apply ord_held rfl rfl (by assumption) rfl; (focus ((intro w' hS'); go_simp; (try with_reducible rfl))); (try simp only [Act.put, List.setIfInBounds_toArray, List.set_cons_zero, List.set_cons_succ]))
          (apply ord_held rfl rfl (by assumption) rfl; (focus ((intro w' hS'); go_simp; (try with_reducible rfl))); (try simp only [Act.put, List.setIfInBounds_toArray, List.set_cons_zero, List.set_cons_succ]))
          (apply ord_held rfl rfl (by assumption) rfl; (focus ((intro w' hS'); go_simp; (try with_reducible rfl))); (try simp only [Act.put, List.setIfInBounds_toArray, List.set_cons_zero, List.set_cons_succ]))
          (apply ord_held rfl rfl (by assumption) rfl; (focus ((intro w' hS'); go_simp; (try with_reducible rfl))); (try simp only [Act.put, List.setIfInBounds_toArray, List.set_cons_zero, List.set_cons_succ]))
          (apply ord_held rfl rfl (by assumption) rfl; (focus ((intro w' hS'); go_simp; (try with_reducible rfl))); (try simp only [Act.put, List.setIfInBounds_toArray, List.set_cons_zero, List.set_cons_succ]))
          (apply ord_held rfl rfl (by assumption) rfl; (focus ((intro w' hS'); go_simp; (try with_reducible rfl))); (try simp only [Act.put, List.setIfInBounds_toArray, List.set_cons_zero, List.set_cons_succ]))
          (apply ord_held rfl rfl (by assumption) rfl; (focus ((intro w' hS'); go_simp; (try with_reducible rfl))); (try simp only [Act.put, List.setIfInBounds_toArray, List.set_cons_zero, List.set_cons_succ]))
          (apply ord_loud rfl rfl rfl; intro K hK; go_simp)
          refine (HIH.out t2 e2 _ _ (hT2.ext (ext_drew (ext_refl _))) ?arith).mono ?_
          case arith => exact ⟨by first | omega | exact IntWalk.i64_in (by omega) (by omega) | simp (disch := omega) only [IntWalk.i64_in], by omega⟩
          rintro r w2 ⟨b0, rfl, hP2, hx2⟩
          have HP2 := Lib.hid hP2
          clear hP2
          have hS2 : (fun w' => Six w' w.heap.size ⟨4, x, d, y, ka, 0, kc, some ⟨b, off, none⟩, m, cc⟩ ∧ CellsAt w' b (off + j * 6) e2) w2 := ⟨Six.ext hx2 hS.1, hS.2.keep (hx2.keeps (fun _ => True)) trivial⟩
          refine hK _ _ (fun _ => hS2) ?_
          clear hK K hS
          (try simp only [Act.put, List.setIfInBounds_toArray, List.set_cons_zero, List.set_cons_succ])
          cases b0
          · skip
            (apply ord_held rfl rfl (by assumption) rfl; (focus ((intro w' hS'); go_simp; (try with_reducible rfl))); (try simp only [Act.put, List.setIfInBounds_toArray, List.set_cons_zero, List.set_cons_succ]))
            (apply ord_held rfl rfl (by assumption) rfl; (focus ((intro w' hS'); go_simp; (try with_reducible rfl))); (try simp only [Act.put, List.setIfInBounds_toArray, List.set_cons_zero, List.set_cons_succ]))
            (first | (apply ord_guard rfl rfl (by assumption) rfl; (focus ((intro w' hS'); go_simp; (try with_reducible rfl))); (try simp only [Act.put, List.setIfInBounds_toArray, List.set_cons_zero, List.set_cons_succ])) | (apply ord_pass rfl rfl (by assumption) rfl; (try simp only [Act.put, List.setIfInBounds_toArray, List.set_cons_zero, List.set_cons_succ])))
            (first | (apply ord_guard rfl rfl (by assumption) rfl; (focus ((intro w' hS'); go_simp; (try with_reducible rfl))); (try simp only [Act.put, List.setIfInBounds_toArray, List.set_cons_zero, List.set_cons_succ])) | (apply ord_pass rfl rfl (by assumption) rfl; (try simp only [Act.put, List.setIfInBounds_toArray, List.set_cons_zero, List.set_cons_succ])))
            (first | (apply ord_guard rfl rfl (by assumption) rfl; (focus ((intro w' hS'); go_simp; (try with_reducible rfl))); (try simp only [Act.put, List.setIfInBounds_toArray, List.set_cons_zero, List.set_cons_succ])) | (apply ord_pass rfl rfl (by assumption) rfl; (try simp only [Act.put, List.setIfInBounds_toArray, List.set_cons_zero, List.set_cons_succ])))
            (first | (apply ord_guard rfl rfl (by assumption) rfl; (focus ((intro w' hS'); go_simp; (try with_reducible rfl))); (try simp only [Act.put, List.setIfInBounds_toArray, List.set_cons_zero, List.set_cons_succ])) | (apply ord_pass rfl rfl (by assumption) rfl; (try simp only [Act.put, List.setIfInBounds_toArray, List.set_cons_zero, List.set_cons_succ])))
            (first | (apply ord_guard rfl rfl (by assumption) rfl; (focus ((intro w' hS'); go_simp; (try with_reducible rfl))); (try simp only [Act.put, List.setIfInBounds_toArray, List.set_cons_zero, List.set_cons_succ])) | (apply ord_pass rfl rfl (by assumption) rfl; (try simp only [Act.put, List.setIfInBounds_toArray, List.set_cons_zero, List.set_cons_succ])))
            (first | (apply ord_guard rfl rfl (by assumption) rfl; (focus ((intro w' hS'); go_simp; (try with_reducible rfl))); (try simp only [Act.put, List.setIfInBounds_toArray, List.set_cons_zero, List.set_cons_succ])) | (apply ord_pass rfl rfl (by assumption) rfl; (try simp only [Act.put, List.setIfInBounds_toArray, List.set_cons_zero, List.set_cons_succ])))
            (first | (apply ord_guard rfl rfl (by assumption) rfl; (focus ((intro w' hS'); go_simp; (try with_reducible rfl))); (try simp only [Act.put, List.setIfInBounds_toArray, List.set_cons_zero, List.set_cons_succ])) | (apply ord_pass rfl rfl (by assumption) rfl; (try simp only [Act.put, List.setIfInBounds_toArray, List.set_cons_zero, List.set_cons_succ])))
            (first | (apply ord_guard rfl rfl (by assumption) rfl; (focus ((intro w' hS'); go_simp; (try with_reducible rfl))); (try simp only [Act.put, List.setIfInBounds_toArray, List.set_cons_zero, List.set_cons_succ])) | (apply ord_pass rfl rfl (by assumption) rfl; (try simp only [Act.put, List.setIfInBounds_toArray, List.set_cons_zero, List.set_cons_succ])))
            (first | (apply ord_guard rfl rfl (by assumption) rfl; (focus ((intro w' hS'); go_simp; (try with_reducible rfl))); (try simp only [Act.put, List.setIfInBounds_toArray, List.set_cons_zero, List.set_cons_succ])) | (apply ord_pass rfl rfl (by assumption) rfl; (try simp only [Act.put, List.setIfInBounds_toArray, List.set_cons_zero, List.set_cons_succ])))
            (first | (apply ord_guard rfl rfl (by assumption) rfl; (focus ((intro w' hS'); go_simp; (try with_reducible rfl))); (try simp only [Act.put, List.setIfInBounds_toArray, List.set_cons_zero, List.set_cons_succ])) | (apply ord_pass rfl rfl (by assumption) rfl; (try simp only [Act.put, List.setIfInBounds_toArray, List.set_cons_zero, List.set_cons_succ])))
            (first | (apply ord_guard rfl rfl (by assumption) rfl; (focus ((intro w' hS'); go_simp; (try with_reducible rfl))); (try simp only [Act.put, List.setIfInBounds_toArray, List.set_cons_zero, List.set_cons_succ])) | (apply ord_pass rfl rfl (by assumption) rfl; (try simp only [Act.put, List.setIfInBounds_toArray, List.set_cons_zero, List.set_cons_succ])))
            (first | (apply ord_guard rfl rfl (by assumption) rfl; (focus ((intro w' hS'); go_simp; (try with_reducible rfl))); (try simp only [Act.put, List.setIfInBounds_toArray, List.set_cons_zero, List.set_cons_succ])) | (apply ord_pass rfl rfl (by assumption) rfl; (try simp only [Act.put, List.setIfInBounds_toArray, List.set_cons_zero, List.set_cons_succ])))
            (first | (apply ord_guard rfl rfl (by assumption) rfl; (focus ((intro w' hS'); go_simp; (try with_reducible rfl))); (try simp only [Act.put, List.setIfInBounds_toArray, List.set_cons_zero, List.set_cons_succ])) | (apply ord_pass rfl rfl (by assumption) rfl; (try simp only [Act.put, List.setIfInBounds_toArray, List.set_cons_zero, List.set_cons_succ])))
            (first | (apply ord_guard rfl rfl (by assumption) rfl; (focus ((intro w' hS'); go_simp; (try with_reducible rfl))); (try simp only [Act.put, List.setIfInBounds_toArray, List.set_cons_zero, List.set_cons_succ])) | (apply ord_pass rfl rfl (by assumption) rfl; (try simp only [Act.put, List.setIfInBounds_toArray, List.set_cons_zero, List.set_cons_succ])))
            (first | (apply ord_guard rfl rfl (by assumption) rfl; (focus ((intro w' hS'); go_simp; (try with_reducible rfl))); (try simp only [Act.put, List.setIfInBounds_toArray, List.set_cons_zero, List.set_cons_succ])) | (apply ord_pass rfl rfl (by assumption) rfl; (try simp only [Act.put, List.setIfInBounds_toArray, List.set_cons_zero, List.set_cons_succ])))
            (first | (apply ord_guard rfl rfl (by assumption) rfl; (focus ((intro w' hS'); go_simp; (try with_reducible rfl))); (try simp only [Act.put, List.setIfInBounds_toArray, List.set_cons_zero, List.set_cons_succ])) | (apply ord_pass rfl rfl (by assumption) rfl; (try simp only [Act.put, List.setIfInBounds_toArray, List.set_cons_zero, List.set_cons_succ])))
            (first | (apply ord_guard rfl rfl (by assumption) rfl; (focus ((intro w' hS'); go_simp; (try with_reducible rfl))); (try simp only [Act.put, List.setIfInBounds_toArray, List.set_cons_zero, List.set_cons_succ])) | (apply ord_pass rfl rfl (by assumption) rfl; (try simp only [Act.put, List.setIfInBounds_toArray, List.set_cons_zero, List.set_cons_succ])))
            (first | (apply ord_guard rfl rfl (by assumption) rfl; (focus ((intro w' hS'); go_simp; (try with_reducible rfl))); (try simp only [Act.put, List.setIfInBounds_toArray, List.set_cons_zero, List.set_cons_succ])) | (apply ord_pass rfl rfl (by assumption) rfl; (try simp only [Act.put, List.setIfInBounds_toArray, List.set_cons_zero, List.set_cons_succ])))
            (first | (apply ord_guard rfl rfl (by assumption) rfl; (focus ((intro w' hS'); go_simp; (try with_reducible rfl))); (try simp only [Act.put, List.setIfInBounds_toArray, List.set_cons_zero, List.set_cons_succ])) | (apply ord_pass rfl rfl (by assumption) rfl; (try simp only [Act.put, List.setIfInBounds_toArray, List.set_cons_zero, List.set_cons_succ])))
            (first | (apply ord_guard rfl rfl (by assumption) rfl; (focus ((intro w' hS'); go_simp; (try with_reducible rfl))); (try simp only [Act.put, List.setIfInBounds_toArray, List.set_cons_zero, List.set_cons_succ])) | (apply ord_pass rfl rfl (by assumption) rfl; (try simp only [Act.put, List.setIfInBounds_toArray, List.set_cons_zero, List.set_cons_succ])))
            (first | (apply ord_guard rfl rfl (by assumption) rfl; (focus ((intro w' hS'); go_simp; (try with_reducible rfl))); (try simp only [Act.put, List.setIfInBounds_toArray, List.set_cons_zero, List.set_cons_succ])) | (apply ord_pass rfl rfl (by assumption) rfl; (try simp only [Act.put, List.setIfInBounds_toArray, List.set_cons_zero, List.set_cons_succ])))
            (apply ord_held rfl rfl (by assumption) rfl; (focus ((intro w' hS'); go_simp; (try with_reducible rfl))); (try simp only [Act.put, List.setIfInBounds_toArray, List.set_cons_zero, List.set_cons_succ]))
            refine ord_end ?_
            go_wp2_with fail
            go_ret
            exact ⟨false, rfl, fun h => (Bool.noConfusion h), ext_trans hx (ext_trans (ext_drew (ext_refl _)) hx2)⟩
          · have hp2 := HP2.out rfl
            have HPP := Lib.hid hp2
            clear hp2
            (apply ord_held rfl rfl (by assumption) rfl; (focus ((intro w' hS'); go_simp; (try with_reducible rfl))); (try simp only [Act.put, List.setIfInBounds_toArray, List.set_cons_zero, List.set_cons_succ]))
            (apply ord_held rfl rfl (by assumption) rfl; (focus ((intro w' hS'); go_simp; (try with_reducible rfl))); (try simp only [Act.put, List.setIfInBounds_toArray, List.set_cons_zero, List.set_cons_succ]))
            (first | (apply ord_guard rfl rfl (by assumption) rfl; (focus ((intro w' hS'); go_simp; (try with_reducible rfl))); (try simp only [Act.put, List.setIfInBounds_toArray, List.set_cons_zero, List.set_cons_succ])) | (apply ord_pass rfl rfl (by assumption) rfl; (try simp only [Act.put, List.setIfInBounds_toArray, List.set_cons_zero, List.set_cons_succ])))
            (first | (apply ord_guard rfl rfl (by assumption) rfl; (focus ((intro w' hS'); go_simp; (try with_reducible rfl))); (try simp only [Act.put, List.setIfInBounds_toArray, List.set_cons_zero, List.set_cons_succ])) | (apply ord_pass rfl rfl (by assumption) rfl; (try simp only [Act.put, List.setIfInBounds_toArray, List.set_cons_zero, List.set_cons_succ])))
            (first | (apply ord_guard rfl rfl (by assumption) rfl; (focus ((intro w' hS'); go_simp; (try with_reducible rfl))); (try simp only [Act.put, List.setIfInBounds_toArray, List.set_cons_zero, List.set_cons_succ])) | (apply ord_pass rfl rfl (by assumption) rfl; (try simp only [Act.put, List.setIfInBounds_toArray, List.set_cons_zero, List.set_cons_succ])))
            (first | (apply ord_guard rfl rfl (by assumption) rfl; (focus ((intro w' hS'); go_simp; (try with_reducible rfl))); (try simp only [Act.put, List.setIfInBounds_toArray, List.set_cons_zero, List.set_cons_succ])) | (apply ord_pass rfl rfl (by assumption) rfl; (try simp only [Act.put, List.setIfInBounds_toArray, List.set_cons_zero, List.set_cons_succ])))
            (first | (apply ord_guard rfl rfl (by assumption) rfl; (focus ((intro w' hS'); go_simp; (try with_reducible rfl))); (try simp only [Act.put, List.setIfInBounds_toArray, List.set_cons_zero, List.set_cons_succ])) | (apply ord_pass rfl rfl (by assumption) rfl; (try simp only [Act.put, List.setIfInBounds_toArray, List.set_cons_zero, List.set_cons_succ])))
            (first | (apply ord_guard rfl rfl (by assumption) rfl; (focus ((intro w' hS'); go_simp; (try with_reducible rfl))); (try simp only [Act.put, List.setIfInBounds_toArray, List.set_cons_zero, List.set_cons_succ])) | (apply ord_pass rfl rfl (by assumption) rfl; (try simp only [Act.put, List.setIfInBounds_toArray, List.set_cons_zero, List.set_cons_succ])))
            (first | (apply ord_guard rfl rfl (by assumption) rfl; (focus ((intro w' hS'); go_simp; (try with_reducible rfl))); (try simp only [Act.put, List.setIfInBounds_toArray, List.set_cons_zero, List.set_cons_succ])) | (apply ord_pass rfl rfl (by assumption) rfl; (try simp only [Act.put, List.setIfInBounds_toArray, List.set_cons_zero, List.set_cons_succ])))
            (first | (apply ord_guard rfl rfl (by assumption) rfl; (focus ((intro w' hS'); go_simp; (try with_reducible rfl))); (try simp only [Act.put, List.setIfInBounds_toArray, List.set_cons_zero, List.set_cons_succ])) | (apply ord_pass rfl rfl (by assumption) rfl; (try simp only [Act.put, List.setIfInBounds_toArray, List.set_cons_zero, List.set_cons_succ])))
            (first | (apply ord_guard rfl rfl (by assumption) rfl; (focus ((intro w' hS'); go_simp; (try with_reducible rfl))); (try simp only [Act.put, List.setIfInBounds_toArray, List.set_cons_zero, List.set_cons_succ])) | (apply ord_pass rfl rfl (by assumption) rfl; (try simp only [Act.put, List.setIfInBounds_toArray, List.set_cons_zero, List.set_cons_succ])))
            (first | (apply ord_guard rfl rfl (by assumption) rfl; (focus ((intro w' hS'); go_simp; (try with_reducible rfl))); (try simp only [Act.put, List.setIfInBounds_toArray, List.set_cons_zero, List.set_cons_succ])) | (apply ord_pass rfl rfl (by assumption) rfl; (try simp only [Act.put, List.setIfInBounds_toArray, List.set_cons_zero, List.set_cons_succ])))
            (first | (apply ord_guard rfl rfl (by assumption) rfl; (focus ((intro w' hS'); go_simp; (try with_reducible rfl))); (try simp only [Act.put, List.setIfInBounds_toArray, List.set_cons_zero, List.set_cons_succ])) | (apply ord_pass rfl rfl (by assumption) rfl; (try simp only [Act.put, List.setIfInBounds_toArray, List.set_cons_zero, List.set_cons_succ])))
            (first | (apply ord_guard rfl rfl (by assumption) rfl; (focus ((intro w' hS'); go_simp; (try with_reducible rfl))); (try simp only [Act.put, List.setIfInBounds_toArray, List.set_cons_zero, List.set_cons_succ])) | (apply ord_pass rfl rfl (by assumption) rfl; (try simp only [Act.put, List.setIfInBounds_toArray, List.set_cons_zero, List.set_cons_succ])))
            (first | (apply ord_guard rfl rfl (by assumption) rfl; (focus ((intro w' hS'); go_simp; (try with_reducible rfl))); (try simp only [Act.put, List.setIfInBounds_toArray, List.set_cons_zero, List.set_cons_succ])) | (apply ord_pass rfl rfl (by assumption) rfl; (try simp only [Act.put, List.setIfInBounds_toArray, List.set_cons_zero, List.set_cons_succ])))
            (first | (apply ord_guard rfl rfl (by assumption) rfl; (focus ((intro w' hS'); go_simp; (try with_reducible rfl))); (try simp only [Act.put, List.setIfInBounds_toArray, List.set_cons_zero, List.set_cons_succ])) | (apply ord_pass rfl rfl (by assumption) rfl; (try simp only [Act.put, List.setIfInBounds_toArray, List.set_cons_zero, List.set_cons_succ])))
            (first | (apply ord_guard rfl rfl (by assumption) rfl; (focus ((intro w' hS'); go_simp; (try with_reducible rfl))); (try simp only [Act.put, List.setIfInBounds_toArray, List.set_cons_zero, List.set_cons_succ])) | (apply ord_pass rfl rfl (by assumption) rfl; (try simp only [Act.put, List.setIfInBounds_toArray, List.set_cons_zero, List.set_cons_succ])))
            (first | (apply ord_guard rfl rfl (by assumption) rfl; (focus ((intro w' hS'); go_simp; (try with_reducible rfl))); (try simp only [Act.put, List.setIfInBounds_toArray, List.set_cons_zero, List.set_cons_succ])) | (apply ord_pass rfl rfl (by assumption) rfl; (try simp only [Act.put, List.setIfInBounds_toArray, List.set_cons_zero, List.set_cons_succ])))
            (first | (apply ord_guard rfl rfl (by assumption) rfl; (focus ((intro w' hS'); go_simp; (try with_reducible rfl))); (try simp only [Act.put, List.setIfInBounds_toArray, List.set_cons_zero, List.set_cons_succ])) | (apply ord_pass rfl rfl (by assumption) rfl; (try simp only [Act.put, List.setIfInBounds_toArray, List.set_cons_zero, List.set_cons_succ])))
            (first | (apply ord_guard rfl rfl (by assumption) rfl; (focus ((intro w' hS'); go_simp; (try with_reducible rfl))); (try simp only [Act.put, List.setIfInBounds_toArray, List.set_cons_zero, List.set_cons_succ])) | (apply ord_pass rfl rfl (by assumption) rfl; (try simp only [Act.put, List.setIfInBounds_toArray, List.set_cons_zero, List.set_cons_succ])))
            (first | (apply ord_guard rfl rfl (by assumption) rfl; (focus ((intro w' hS'); go_simp; (try with_reducible rfl))); (try simp only [Act.put, List.setIfInBounds_toArray, List.set_cons_zero, List.set_cons_succ])) | (apply ord_pass rfl rfl (by assumption) rfl; (try simp only [Act.put, List.setIfInBounds_toArray, List.set_cons_zero, List.set_cons_succ])))
            (first | (apply ord_guard rfl rfl (by assumption) rfl; (focus ((intro w' hS'); go_simp; (try with_reducible rfl))); (try simp only [Act.put, List.setIfInBounds_toArray, List.set_cons_zero, List.set_cons_succ])) | (apply ord_pass rfl rfl (by assumption) rfl; (try simp only [Act.put, List.setIfInBounds_toArray, List.set_cons_zero, List.set_cons_succ])))
            (first | (apply ord_guard rfl rfl (by assumption) rfl; (focus ((intro w' hS'); go_simp; (try with_reducible rfl))); (try simp only [Act.put, List.setIfInBounds_toArray, List.set_cons_zero, List.set_cons_succ])) | (apply ord_pass rfl rfl (by assumption) rfl; (try simp only [Act.put, List.setIfInBounds_toArray, List.set_cons_zero, List.set_cons_succ])))
            (apply ord_held rfl rfl (by assumption) rfl; (focus ((intro w' hS'); go_simp; (try with_reducible rfl))); (try simp only [Act.put, List.setIfInBounds_toArray, List.set_cons_zero, List.set_cons_succ]))
            refine ord_end ?_
            go_wp2_with fail
            go_roundw
            case rel =>
              refine ⟨ext_trans hx (ext_trans (ext_drew (ext_refl _)) hx2), hbx.ext (ext_trans (ext_drew (ext_refl _)) hx2), j + 1, by omega, by go_num, ?_, ?_⟩
              · rw [take_snoc HT.out]
                exact properTs_snoc HTS.out HPP.out
              · intro h5
                omega
            case measure => simp [intOf]; omega
      · skip
        have hjm : j = m := by omega
        subst hjm
        have hfull : t.kids.take j = t.kids := List.take_of_length_le (by have := HML.out; omega)
        have hTS := HTS.out
        rw [hfull] at hTS
        have hP : ProperT t := by
          obtain ⟨tk, tx, td, ty, tks, tkids⟩ := t
          rw [ProperT]
          have h1 := HCK.out
          have h2 := HKL.out
          simp only [T.kind, T.keys, T.kids] at h1 h2 hTS
          exact .inr ⟨.inl ⟨h1, List.length_eq_zero_iff.1 (by omega)⟩, hTS⟩
        have HP := Lib.hid hP
        clear hP hTS
        go_wp2_with fail
        go_ret
        exact ⟨true, rfl, fun _ => HP.out, by (repeat (first | exact ext_refl _ | assumption | refine ext_alloc ?_ _ | refine ext_drew ?_ | refine ext_set ?_ (by simp) _ | refine ext_trans ?_ (by assumption)))⟩
  · go_enter Tryz.func86, Tryz.ntmps86
    go_wp2_with fail
    go_ret
    exact ⟨false, rfl, fun h => (Bool.noConfusion h), by (repeat (first | exact ext_refl _ | assumption | refine ext_alloc ?_ _ | refine ext_drew ?_ | refine ext_set ?_ (by simp) _ | refine ext_trans ?_ (by assumption)))⟩
set_option maxRecDepth 20000 in
set_option maxHeartbeats 4000000 in
theorem proper_map {S : Nat → Prop} (n : Nat) (ih : PropAt n) (t : T) (e : El) (D : Int) (w : World) (h : TreeAt S w e t) (hD1 : 0 < D) (hD2 : D ≤ 1000) (hDn : D - 1 = n) (hck : t.kind = 5) : Calls Tryz.prog 86 #[e.val, .int .i64 D] w (Yes (ProperT t) w) := by
  obtain ⟨k, x, d, y, ka, kn, kc, ca, m, cc⟩ := e
  have HIH := Lib.hid (ih S)
  clear ih
  obtain ⟨hkk, -, -, -, hS, hK⟩ := h.parts
  clear h
  have hD3 : (D == 0) = false := by simp; omega
  have hnn : n ≤ 1000 := by omega
  simp only at hkk hS hK
  rw [hck] at hkk
  have HCK := Lib.hid hck
  have HSS := Lib.hid hS
  have HK := Lib.hid hK
  have hkl := hS.1
  have hml := hK.1
  have hcb := hK.2.1
  have hkb := hS.2.1
  have hcm := hK.2.2.1
  have hkm := hS.2.2.1
  unfold maxLen at hcm hkm
  have HKL := Lib.hid hkl
  have HML := Lib.hid hml
  subst hkk
  clear hck hS hK hkl hml
  simp only [El.val]
  by_cases hkz : kn = m
  · subst hkz
    have hb0 : Box (w.alloc (.cells (El.arr ⟨5, x, d, y, ka, kn, kc, ca, kn, cc⟩) 35)) w.heap.size (El.arr ⟨5, x, d, y, ka, kn, kc, ca, kn, cc⟩) 35 := Box.at rfl _ _
    go_enter Tryz.func86, Tryz.ntmps86
    go_wp2_with fail
    go_loopw [5] (fun i wr => Ext w wr ∧ Box wr w.heap.size (El.arr ⟨5, x, d, y, ka, kn, kc, ca, kn, cc⟩) 35 ∧ ∃ (j : Nat), j ≤ kn ∧ i = .int .i64 j ∧ ProperTs (t.kids.take j) ∧ ((5:Int) = 5 → (t.keys.take j).Pairwise lt)) (fun i _ => kn - (intOf i).toNat)
    case atStart => exact ⟨by (repeat (first | exact ext_refl _ | assumption | refine ext_alloc ?_ _ | refine ext_drew ?_ | refine ext_set ?_ (by simp) _ | refine ext_trans ?_ (by assumption))), hb0, 0, Nat.zero_le _, rfl, by simp [ProperTs], fun _ => by simp⟩
    case round =>
      obtain ⟨hx, hbx, j, hj, rfl, hTS, hPW⟩ := hrel
      have HTS := Lib.hid hTS
      have HPW := Lib.hid hPW
      clear hTS hPW
      obtain ⟨o0, o1, o2, o3, o4, o5⟩ := hbx.six
      by_cases hlt : j < kn
      · obtain ⟨t2, ht⟩ := some_of_lt HML.out hlt
        obtain ⟨b, off, e2, rfl, -, hcell, hT2⟩ := (KidsAt.ext hx HK.out).get ht
        have HT := Lib.hid ht
        clear ht
        by_cases hj0 : 0 < j
        · obtain ⟨s1, hs1⟩ := some_of_lt HKL.out (show j < kn by omega)
          obtain ⟨s0, hs0⟩ := some_of_lt HKL.out (show j - 1 < kn by omega)
          obtain ⟨b2, off2, hka, -, hk1⟩ := (HSS.out.ext hx).2.2.2 j s1 hs1
          obtain ⟨b3, off3, hka2, -, hk0⟩ := (HSS.out.ext hx).2.2.2 (j - 1) s0 hs0
          rw [hka] at hka2
          simp only [Option.some.injEq, Addr.mk.injEq, and_true] at hka2
          obtain ⟨rfl, rfl⟩ := hka2
          subst hka
          have HS1 := Lib.hid hs1
          have HS0 := Lib.hid (show 0 < j ∧ t.keys[j - 1]? = some s0 from ⟨hj0, hs0⟩)
          clear hs0 hs1
          have hjd : decide ((0:Int) < (j:Int)) = true := by rw [decide_eq_true_eq]; omega
          have hwj : IntKind.i64.wrap ((j:Int) - 1) = ((j - 1 : Nat) : Int) := by rw [IntWalk.i64_in _ (by omega)]; omega
          have hjk : j - 1 < kn := by omega
          go_upto_region 10 with fail
          refine wp_region_order (fun w' => Six w' w.heap.size ⟨5, x, d, y, some ⟨b2, off2, none⟩, kn, kc, some ⟨b, off, none⟩, kn, cc⟩ ∧ CellsAt w' b (off + j * 6) e2 ∧ w'.cell? ⟨b2, off2 + (j - 1), none⟩ = some (.string s0) ∧ w'.cell? ⟨b2, off2 + j, none⟩ = some (.string s1)) [0, 1, 2, 3, 4, 5, 6, 8, 9, 10, 11, 12, 13, 14, 15, 16, 17, 18, 19, 20, 21, 22, 23, 24, 25, 26, 27, 28, 29, 30, 31] [0, 1, 2, 3, 4, 5, 6, 7, 8, 9, 10, 11, 12, 13, 14, 15, 16, 17, 18, 19, 20, 21, 22, 23, 24, 25, 26, 27, 28, 29, 30, 31] (by kernel_rfl) (by kernel_rfl) (fun d _ _ _ _ h => by cases d <;> exact h) (by kernel_rfl) ?_
          have hS : (fun w' => Six w' w.heap.size ⟨5, x, d, y, some ⟨b2, off2, none⟩, kn, kc, some ⟨b, off, none⟩, kn, cc⟩ ∧ CellsAt w' b (off + j * 6) e2 ∧ w'.cell? ⟨b2, off2 + (j - 1), none⟩ = some (.string s0) ∧ w'.cell? ⟨b2, off2 + j, none⟩ = some (.string s1)) wr.drew := ⟨hbx.Six, hcell, hk0, hk1⟩
          (apply ord_held rfl rfl (by assumption) rfl; (focus ((intro w' hS'); go_simp; (try with_reducible rfl))); (try simp only [Act.put, List.setIfInBounds_toArray, List.set_cons_zero, List.set_cons_succ]))
          (apply ord_held rfl rfl (by assumption) rfl; (focus ((intro w' hS'); go_simp; (try with_reducible rfl))); (try simp only [Act.put, List.setIfInBounds_toArray, List.set_cons_zero, List.set_cons_succ]))
          (apply ord_held rfl rfl (by assumption) rfl; (focus ((intro w' hS'); go_simp; (try with_reducible rfl))); (try simp only [Act.put, List.setIfInBounds_toArray, List.set_cons_zero, List.set_cons_succ]))
          (apply ord_held rfl rfl (by assumption) rfl; (focus ((intro w' hS'); go_simp; (try with_reducible rfl))); (try simp only [Act.put, List.setIfInBounds_toArray, List.set_cons_zero, List.set_cons_succ]))
          (apply ord_held rfl rfl (by assumption) rfl; (focus ((intro w' hS'); go_simp; (try with_reducible rfl))); (try simp only [Act.put, List.setIfInBounds_toArray, List.set_cons_zero, List.set_cons_succ]))
          (apply ord_held rfl rfl (by assumption) rfl; (focus ((intro w' hS'); go_simp; (try with_reducible rfl))); (try simp only [Act.put, List.setIfInBounds_toArray, List.set_cons_zero, List.set_cons_succ]))
          (apply ord_held rfl rfl (by assumption) rfl; (focus ((intro w' hS'); go_simp; (try with_reducible rfl))); (try simp only [Act.put, List.setIfInBounds_toArray, List.set_cons_zero, List.set_cons_succ]))
          (apply ord_loud rfl rfl rfl; intro K hK; go_simp)
          refine (HIH.out t2 e2 _ _ (hT2.ext (ext_drew (ext_refl _))) ?arith).mono ?_
          case arith => exact ⟨by first | omega | exact IntWalk.i64_in (by omega) (by omega) | simp (disch := omega) only [IntWalk.i64_in], by omega⟩
          rintro r w2 ⟨b0, rfl, hP2, hx2⟩
          have HP2 := Lib.hid hP2
          clear hP2
          have hS2 : (fun w' => Six w' w.heap.size ⟨5, x, d, y, some ⟨b2, off2, none⟩, kn, kc, some ⟨b, off, none⟩, kn, cc⟩ ∧ CellsAt w' b (off + j * 6) e2 ∧ w'.cell? ⟨b2, off2 + (j - 1), none⟩ = some (.string s0) ∧ w'.cell? ⟨b2, off2 + j, none⟩ = some (.string s1)) w2 := ⟨Six.ext hx2 hS.1, hS.2.1.keep (hx2.keeps (fun _ => True)) trivial, hx2.cell hS.2.2.1, hx2.cell hS.2.2.2⟩
          refine hK _ _ (fun _ => hS2) ?_
          clear hK K hS
          (try simp only [Act.put, List.setIfInBounds_toArray, List.set_cons_zero, List.set_cons_succ])
          cases b0
          · skip
            (apply ord_held rfl rfl (by assumption) rfl; (focus ((intro w' hS'); go_simp; (try with_reducible rfl))); (try simp only [Act.put, List.setIfInBounds_toArray, List.set_cons_zero, List.set_cons_succ]))
            (apply ord_held rfl rfl (by assumption) rfl; (focus ((intro w' hS'); go_simp; (try with_reducible rfl))); (try simp only [Act.put, List.setIfInBounds_toArray, List.set_cons_zero, List.set_cons_succ]))
            (first | (apply ord_guard rfl rfl (by assumption) rfl; (focus ((intro w' hS'); go_simp; (try with_reducible rfl))); (try simp only [Act.put, List.setIfInBounds_toArray, List.set_cons_zero, List.set_cons_succ])) | (apply ord_pass rfl rfl (by assumption) rfl; (try simp only [Act.put, List.setIfInBounds_toArray, List.set_cons_zero, List.set_cons_succ])))
            (first | (apply ord_guard rfl rfl (by assumption) rfl; (focus ((intro w' hS'); go_simp; (try with_reducible rfl))); (try simp only [Act.put, List.setIfInBounds_toArray, List.set_cons_zero, List.set_cons_succ])) | (apply ord_pass rfl rfl (by assumption) rfl; (try simp only [Act.put, List.setIfInBounds_toArray, List.set_cons_zero, List.set_cons_succ])))
            (first | (apply ord_guard rfl rfl (by assumption) rfl; (focus ((intro w' hS'); go_simp; (try with_reducible rfl))); (try simp only [Act.put, List.setIfInBounds_toArray, List.set_cons_zero, List.set_cons_succ])) | (apply ord_pass rfl rfl (by assumption) rfl; (try simp only [Act.put, List.setIfInBounds_toArray, List.set_cons_zero, List.set_cons_succ])))
            (first | (apply ord_guard rfl rfl (by assumption) rfl; (focus ((intro w' hS'); go_simp; (try with_reducible rfl))); (try simp only [Act.put, List.setIfInBounds_toArray, List.set_cons_zero, List.set_cons_succ])) | (apply ord_pass rfl rfl (by assumption) rfl; (try simp only [Act.put, List.setIfInBounds_toArray, List.set_cons_zero, List.set_cons_succ])))
            (first | (apply ord_guard rfl rfl (by assumption) rfl; (focus ((intro w' hS'); go_simp; (try with_reducible rfl))); (try simp only [Act.put, List.setIfInBounds_toArray, List.set_cons_zero, List.set_cons_succ])) | (apply ord_pass rfl rfl (by assumption) rfl; (try simp only [Act.put, List.setIfInBounds_toArray, List.set_cons_zero, List.set_cons_succ])))
            (first | (apply ord_guard rfl rfl (by assumption) rfl; (focus ((intro w' hS'); go_simp; (try with_reducible rfl))); (try simp only [Act.put, List.setIfInBounds_toArray, List.set_cons_zero, List.set_cons_succ])) | (apply ord_pass rfl rfl (by assumption) rfl; (try simp only [Act.put, List.setIfInBounds_toArray, List.set_cons_zero, List.set_cons_succ])))
            (first | (apply ord_guard rfl rfl (by assumption) rfl; (focus ((intro w' hS'); go_simp; (try with_reducible rfl))); (try simp only [Act.put, List.setIfInBounds_toArray, List.set_cons_zero, List.set_cons_succ])) | (apply ord_pass rfl rfl (by assumption) rfl; (try simp only [Act.put, List.setIfInBounds_toArray, List.set_cons_zero, List.set_cons_succ])))
            (first | (apply ord_guard rfl rfl (by assumption) rfl; (focus ((intro w' hS'); go_simp; (try with_reducible rfl))); (try simp only [Act.put, List.setIfInBounds_toArray, List.set_cons_zero, List.set_cons_succ])) | (apply ord_pass rfl rfl (by assumption) rfl; (try simp only [Act.put, List.setIfInBounds_toArray, List.set_cons_zero, List.set_cons_succ])))
            (first | (apply ord_guard rfl rfl (by assumption) rfl; (focus ((intro w' hS'); go_simp; (try with_reducible rfl))); (try simp only [Act.put, List.setIfInBounds_toArray, List.set_cons_zero, List.set_cons_succ])) | (apply ord_pass rfl rfl (by assumption) rfl; (try simp only [Act.put, List.setIfInBounds_toArray, List.set_cons_zero, List.set_cons_succ])))
            (first | (apply ord_guard rfl rfl (by assumption) rfl; (focus ((intro w' hS'); go_simp; (try with_reducible rfl))); (try simp only [Act.put, List.setIfInBounds_toArray, List.set_cons_zero, List.set_cons_succ])) | (apply ord_pass rfl rfl (by assumption) rfl; (try simp only [Act.put, List.setIfInBounds_toArray, List.set_cons_zero, List.set_cons_succ])))
            (first | (apply ord_guard rfl rfl (by assumption) rfl; (focus ((intro w' hS'); go_simp; (try with_reducible rfl))); (try simp only [Act.put, List.setIfInBounds_toArray, List.set_cons_zero, List.set_cons_succ])) | (apply ord_pass rfl rfl (by assumption) rfl; (try simp only [Act.put, List.setIfInBounds_toArray, List.set_cons_zero, List.set_cons_succ])))
            (first | (apply ord_guard rfl rfl (by assumption) rfl; (focus ((intro w' hS'); go_simp; (try with_reducible rfl))); (try simp only [Act.put, List.setIfInBounds_toArray, List.set_cons_zero, List.set_cons_succ])) | (apply ord_pass rfl rfl (by assumption) rfl; (try simp only [Act.put, List.setIfInBounds_toArray, List.set_cons_zero, List.set_cons_succ])))
            (first | (apply ord_guard rfl rfl (by assumption) rfl; (focus ((intro w' hS'); go_simp; (try with_reducible rfl))); (try simp only [Act.put, List.setIfInBounds_toArray, List.set_cons_zero, List.set_cons_succ])) | (apply ord_pass rfl rfl (by assumption) rfl; (try simp only [Act.put, List.setIfInBounds_toArray, List.set_cons_zero, List.set_cons_succ])))
            (first | (apply ord_guard rfl rfl (by assumption) rfl; (focus ((intro w' hS'); go_simp; (try with_reducible rfl))); (try simp only [Act.put, List.setIfInBounds_toArray, List.set_cons_zero, List.set_cons_succ])) | (apply ord_pass rfl rfl (by assumption) rfl; (try simp only [Act.put, List.setIfInBounds_toArray, List.set_cons_zero, List.set_cons_succ])))
            (first | (apply ord_guard rfl rfl (by assumption) rfl; (focus ((intro w' hS'); go_simp; (try with_reducible rfl))); (try simp only [Act.put, List.setIfInBounds_toArray, List.set_cons_zero, List.set_cons_succ])) | (apply ord_pass rfl rfl (by assumption) rfl; (try simp only [Act.put, List.setIfInBounds_toArray, List.set_cons_zero, List.set_cons_succ])))
            (first | (apply ord_guard rfl rfl (by assumption) rfl; (focus ((intro w' hS'); go_simp; (try with_reducible rfl))); (try simp only [Act.put, List.setIfInBounds_toArray, List.set_cons_zero, List.set_cons_succ])) | (apply ord_pass rfl rfl (by assumption) rfl; (try simp only [Act.put, List.setIfInBounds_toArray, List.set_cons_zero, List.set_cons_succ])))
            (first | (apply ord_guard rfl rfl (by assumption) rfl; (focus ((intro w' hS'); go_simp; (try with_reducible rfl))); (try simp only [Act.put, List.setIfInBounds_toArray, List.set_cons_zero, List.set_cons_succ])) | (apply ord_pass rfl rfl (by assumption) rfl; (try simp only [Act.put, List.setIfInBounds_toArray, List.set_cons_zero, List.set_cons_succ])))
            (first | (apply ord_guard rfl rfl (by assumption) rfl; (focus ((intro w' hS'); go_simp; (try with_reducible rfl))); (try simp only [Act.put, List.setIfInBounds_toArray, List.set_cons_zero, List.set_cons_succ])) | (apply ord_pass rfl rfl (by assumption) rfl; (try simp only [Act.put, List.setIfInBounds_toArray, List.set_cons_zero, List.set_cons_succ])))
            (first | (apply ord_guard rfl rfl (by assumption) rfl; (focus ((intro w' hS'); go_simp; (try with_reducible rfl))); (try simp only [Act.put, List.setIfInBounds_toArray, List.set_cons_zero, List.set_cons_succ])) | (apply ord_pass rfl rfl (by assumption) rfl; (try simp only [Act.put, List.setIfInBounds_toArray, List.set_cons_zero, List.set_cons_succ])))
            (first | (apply ord_guard rfl rfl (by assumption) rfl; (focus ((intro w' hS'); go_simp; (try with_reducible rfl))); (try simp only [Act.put, List.setIfInBounds_toArray, List.set_cons_zero, List.set_cons_succ])) | (apply ord_pass rfl rfl (by assumption) rfl; (try simp only [Act.put, List.setIfInBounds_toArray, List.set_cons_zero, List.set_cons_succ])))
            (first | (apply ord_guard rfl rfl (by assumption) rfl; (focus ((intro w' hS'); go_simp; (try with_reducible rfl))); (try simp only [Act.put, List.setIfInBounds_toArray, List.set_cons_zero, List.set_cons_succ])) | (apply ord_pass rfl rfl (by assumption) rfl; (try simp only [Act.put, List.setIfInBounds_toArray, List.set_cons_zero, List.set_cons_succ])))
            (apply ord_held rfl rfl (by assumption) rfl; (focus ((intro w' hS'); go_simp; (try with_reducible rfl))); (try simp only [Act.put, List.setIfInBounds_toArray, List.set_cons_zero, List.set_cons_succ]))
            refine ord_end ?_
            go_wp2_with fail
            go_ret
            exact ⟨false, rfl, fun h => (Bool.noConfusion h), ext_trans hx (ext_trans (ext_drew (ext_refl _)) hx2)⟩
          · have hp2 := HP2.out rfl
            have HPP := Lib.hid hp2
            clear hp2
            cases hbl : Op.bytesLess s0.toList s1.toList
            · skip
              (apply ord_held rfl rfl (by assumption) rfl; (focus ((intro w' hS'); go_simp; (try with_reducible rfl))); (try simp only [Act.put, List.setIfInBounds_toArray, List.set_cons_zero, List.set_cons_succ]))
              (apply ord_held rfl rfl (by assumption) rfl; (focus ((intro w' hS'); go_simp; (try with_reducible rfl))); (try simp only [Act.put, List.setIfInBounds_toArray, List.set_cons_zero, List.set_cons_succ]))
              (first | (apply ord_guard rfl rfl (by assumption) rfl; (focus ((intro w' hS'); go_simp; (try with_reducible rfl))); (try simp only [Act.put, List.setIfInBounds_toArray, List.set_cons_zero, List.set_cons_succ])) | (apply ord_pass rfl rfl (by assumption) rfl; (try simp only [Act.put, List.setIfInBounds_toArray, List.set_cons_zero, List.set_cons_succ])))
              (first | (apply ord_guard rfl rfl (by assumption) rfl; (focus ((intro w' hS'); go_simp; (try with_reducible rfl))); (try simp only [Act.put, List.setIfInBounds_toArray, List.set_cons_zero, List.set_cons_succ])) | (apply ord_pass rfl rfl (by assumption) rfl; (try simp only [Act.put, List.setIfInBounds_toArray, List.set_cons_zero, List.set_cons_succ])))
              (first | (apply ord_guard rfl rfl (by assumption) rfl; (focus ((intro w' hS'); go_simp; (try with_reducible rfl))); (try simp only [Act.put, List.setIfInBounds_toArray, List.set_cons_zero, List.set_cons_succ])) | (apply ord_pass rfl rfl (by assumption) rfl; (try simp only [Act.put, List.setIfInBounds_toArray, List.set_cons_zero, List.set_cons_succ])))
              (first | (apply ord_guard rfl rfl (by assumption) rfl; (focus ((intro w' hS'); go_simp; (try with_reducible rfl))); (try simp only [Act.put, List.setIfInBounds_toArray, List.set_cons_zero, List.set_cons_succ])) | (apply ord_pass rfl rfl (by assumption) rfl; (try simp only [Act.put, List.setIfInBounds_toArray, List.set_cons_zero, List.set_cons_succ])))
              (first | (apply ord_guard rfl rfl (by assumption) rfl; (focus ((intro w' hS'); go_simp; (try with_reducible rfl))); (try simp only [Act.put, List.setIfInBounds_toArray, List.set_cons_zero, List.set_cons_succ])) | (apply ord_pass rfl rfl (by assumption) rfl; (try simp only [Act.put, List.setIfInBounds_toArray, List.set_cons_zero, List.set_cons_succ])))
              (first | (apply ord_guard rfl rfl (by assumption) rfl; (focus ((intro w' hS'); go_simp; (try with_reducible rfl))); (try simp only [Act.put, List.setIfInBounds_toArray, List.set_cons_zero, List.set_cons_succ])) | (apply ord_pass rfl rfl (by assumption) rfl; (try simp only [Act.put, List.setIfInBounds_toArray, List.set_cons_zero, List.set_cons_succ])))
              (first | (apply ord_guard rfl rfl (by assumption) rfl; (focus ((intro w' hS'); go_simp; (try with_reducible rfl))); (try simp only [Act.put, List.setIfInBounds_toArray, List.set_cons_zero, List.set_cons_succ])) | (apply ord_pass rfl rfl (by assumption) rfl; (try simp only [Act.put, List.setIfInBounds_toArray, List.set_cons_zero, List.set_cons_succ])))
              (first | (apply ord_guard rfl rfl (by assumption) rfl; (focus ((intro w' hS'); go_simp; (try with_reducible rfl))); (try simp only [Act.put, List.setIfInBounds_toArray, List.set_cons_zero, List.set_cons_succ])) | (apply ord_pass rfl rfl (by assumption) rfl; (try simp only [Act.put, List.setIfInBounds_toArray, List.set_cons_zero, List.set_cons_succ])))
              (first | (apply ord_guard rfl rfl (by assumption) rfl; (focus ((intro w' hS'); go_simp; (try with_reducible rfl))); (try simp only [Act.put, List.setIfInBounds_toArray, List.set_cons_zero, List.set_cons_succ])) | (apply ord_pass rfl rfl (by assumption) rfl; (try simp only [Act.put, List.setIfInBounds_toArray, List.set_cons_zero, List.set_cons_succ])))
              (first | (apply ord_guard rfl rfl (by assumption) rfl; (focus ((intro w' hS'); go_simp; (try with_reducible rfl))); (try simp only [Act.put, List.setIfInBounds_toArray, List.set_cons_zero, List.set_cons_succ])) | (apply ord_pass rfl rfl (by assumption) rfl; (try simp only [Act.put, List.setIfInBounds_toArray, List.set_cons_zero, List.set_cons_succ])))
              (first | (apply ord_guard rfl rfl (by assumption) rfl; (focus ((intro w' hS'); go_simp; (try with_reducible rfl))); (try simp only [Act.put, List.setIfInBounds_toArray, List.set_cons_zero, List.set_cons_succ])) | (apply ord_pass rfl rfl (by assumption) rfl; (try simp only [Act.put, List.setIfInBounds_toArray, List.set_cons_zero, List.set_cons_succ])))
              (first | (apply ord_guard rfl rfl (by assumption) rfl; (focus ((intro w' hS'); go_simp; (try with_reducible rfl))); (try simp only [Act.put, List.setIfInBounds_toArray, List.set_cons_zero, List.set_cons_succ])) | (apply ord_pass rfl rfl (by assumption) rfl; (try simp only [Act.put, List.setIfInBounds_toArray, List.set_cons_zero, List.set_cons_succ])))
              (first | (apply ord_guard rfl rfl (by assumption) rfl; (focus ((intro w' hS'); go_simp; (try with_reducible rfl))); (try simp only [Act.put, List.setIfInBounds_toArray, List.set_cons_zero, List.set_cons_succ])) | (apply ord_pass rfl rfl (by assumption) rfl; (try simp only [Act.put, List.setIfInBounds_toArray, List.set_cons_zero, List.set_cons_succ])))
              (first | (apply ord_guard rfl rfl (by assumption) rfl; (focus ((intro w' hS'); go_simp; (try with_reducible rfl))); (try simp only [Act.put, List.setIfInBounds_toArray, List.set_cons_zero, List.set_cons_succ])) | (apply ord_pass rfl rfl (by assumption) rfl; (try simp only [Act.put, List.setIfInBounds_toArray, List.set_cons_zero, List.set_cons_succ])))
              (first | (apply ord_guard rfl rfl (by assumption) rfl; (focus ((intro w' hS'); go_simp; (try with_reducible rfl))); (try simp only [Act.put, List.setIfInBounds_toArray, List.set_cons_zero, List.set_cons_succ])) | (apply ord_pass rfl rfl (by assumption) rfl; (try simp only [Act.put, List.setIfInBounds_toArray, List.set_cons_zero, List.set_cons_succ])))
              (first | (apply ord_guard rfl rfl (by assumption) rfl; (focus ((intro w' hS'); go_simp; (try with_reducible rfl))); (try simp only [Act.put, List.setIfInBounds_toArray, List.set_cons_zero, List.set_cons_succ])) | (apply ord_pass rfl rfl (by assumption) rfl; (try simp only [Act.put, List.setIfInBounds_toArray, List.set_cons_zero, List.set_cons_succ])))
              (first | (apply ord_guard rfl rfl (by assumption) rfl; (focus ((intro w' hS'); go_simp; (try with_reducible rfl))); (try simp only [Act.put, List.setIfInBounds_toArray, List.set_cons_zero, List.set_cons_succ])) | (apply ord_pass rfl rfl (by assumption) rfl; (try simp only [Act.put, List.setIfInBounds_toArray, List.set_cons_zero, List.set_cons_succ])))
              (first | (apply ord_guard rfl rfl (by assumption) rfl; (focus ((intro w' hS'); go_simp; (try with_reducible rfl))); (try simp only [Act.put, List.setIfInBounds_toArray, List.set_cons_zero, List.set_cons_succ])) | (apply ord_pass rfl rfl (by assumption) rfl; (try simp only [Act.put, List.setIfInBounds_toArray, List.set_cons_zero, List.set_cons_succ])))
              (first | (apply ord_guard rfl rfl (by assumption) rfl; (focus ((intro w' hS'); go_simp; (try with_reducible rfl))); (try simp only [Act.put, List.setIfInBounds_toArray, List.set_cons_zero, List.set_cons_succ])) | (apply ord_pass rfl rfl (by assumption) rfl; (try simp only [Act.put, List.setIfInBounds_toArray, List.set_cons_zero, List.set_cons_succ])))
              (first | (apply ord_guard rfl rfl (by assumption) rfl; (focus ((intro w' hS'); go_simp; (try with_reducible rfl))); (try simp only [Act.put, List.setIfInBounds_toArray, List.set_cons_zero, List.set_cons_succ])) | (apply ord_pass rfl rfl (by assumption) rfl; (try simp only [Act.put, List.setIfInBounds_toArray, List.set_cons_zero, List.set_cons_succ])))
              (first | (apply ord_guard rfl rfl (by assumption) rfl; (focus ((intro w' hS'); go_simp; (try with_reducible rfl))); (try simp only [Act.put, List.setIfInBounds_toArray, List.set_cons_zero, List.set_cons_succ])) | (apply ord_pass rfl rfl (by assumption) rfl; (try simp only [Act.put, List.setIfInBounds_toArray, List.set_cons_zero, List.set_cons_succ])))
              (apply ord_held rfl rfl (by assumption) rfl; (focus ((intro w' hS'); go_simp; (try with_reducible rfl))); (try simp only [Act.put, List.setIfInBounds_toArray, List.set_cons_zero, List.set_cons_succ]))
              refine ord_end ?_
              go_wp2_with fail
              go_ret
              exact ⟨false, rfl, fun h => (Bool.noConfusion h), ext_trans hx (ext_trans (ext_drew (ext_refl _)) hx2)⟩
            · have hlt2 : lt s0 s1 := (bless_iff _ _).1 hbl
              have HLT2 := Lib.hid hlt2
              clear hlt2
              (apply ord_held rfl rfl (by assumption) rfl; (focus ((intro w' hS'); go_simp; (try with_reducible rfl))); (try simp only [Act.put, List.setIfInBounds_toArray, List.set_cons_zero, List.set_cons_succ]))
              (apply ord_held rfl rfl (by assumption) rfl; (focus ((intro w' hS'); go_simp; (try with_reducible rfl))); (try simp only [Act.put, List.setIfInBounds_toArray, List.set_cons_zero, List.set_cons_succ]))
              (first | (apply ord_guard rfl rfl (by assumption) rfl; (focus ((intro w' hS'); go_simp; (try with_reducible rfl))); (try simp only [Act.put, List.setIfInBounds_toArray, List.set_cons_zero, List.set_cons_succ])) | (apply ord_pass rfl rfl (by assumption) rfl; (try simp only [Act.put, List.setIfInBounds_toArray, List.set_cons_zero, List.set_cons_succ])))
              (first | (apply ord_guard rfl rfl (by assumption) rfl; (focus ((intro w' hS'); go_simp; (try with_reducible rfl))); (try simp only [Act.put, List.setIfInBounds_toArray, List.set_cons_zero, List.set_cons_succ])) | (apply ord_pass rfl rfl (by assumption) rfl; (try simp only [Act.put, List.setIfInBounds_toArray, List.set_cons_zero, List.set_cons_succ])))
              (first | (apply ord_guard rfl rfl (by assumption) rfl; (focus ((intro w' hS'); go_simp; (try with_reducible rfl))); (try simp only [Act.put, List.setIfInBounds_toArray, List.set_cons_zero, List.set_cons_succ])) | (apply ord_pass rfl rfl (by assumption) rfl; (try simp only [Act.put, List.setIfInBounds_toArray, List.set_cons_zero, List.set_cons_succ])))
              (first | (apply ord_guard rfl rfl (by assumption) rfl; (focus ((intro w' hS'); go_simp; (try with_reducible rfl))); (try simp only [Act.put, List.setIfInBounds_toArray, List.set_cons_zero, List.set_cons_succ])) | (apply ord_pass rfl rfl (by assumption) rfl; (try simp only [Act.put, List.setIfInBounds_toArray, List.set_cons_zero, List.set_cons_succ])))
              (first | (apply ord_guard rfl rfl (by assumption) rfl; (focus ((intro w' hS'); go_simp; (try with_reducible rfl))); (try simp only [Act.put, List.setIfInBounds_toArray, List.set_cons_zero, List.set_cons_succ])) | (apply ord_pass rfl rfl (by assumption) rfl; (try simp only [Act.put, List.setIfInBounds_toArray, List.set_cons_zero, List.set_cons_succ])))
              (first | (apply ord_guard rfl rfl (by assumption) rfl; (focus ((intro w' hS'); go_simp; (try with_reducible rfl))); (try simp only [Act.put, List.setIfInBounds_toArray, List.set_cons_zero, List.set_cons_succ])) | (apply ord_pass rfl rfl (by assumption) rfl; (try simp only [Act.put, List.setIfInBounds_toArray, List.set_cons_zero, List.set_cons_succ])))
              (first | (apply ord_guard rfl rfl (by assumption) rfl; (focus ((intro w' hS'); go_simp; (try with_reducible rfl))); (try simp only [Act.put, List.setIfInBounds_toArray, List.set_cons_zero, List.set_cons_succ])) | (apply ord_pass rfl rfl (by assumption) rfl; (try simp only [Act.put, List.setIfInBounds_toArray, List.set_cons_zero, List.set_cons_succ])))
              (first | (apply ord_guard rfl rfl (by assumption) rfl; (focus ((intro w' hS'); go_simp; (try with_reducible rfl))); (try simp only [Act.put, List.setIfInBounds_toArray, List.set_cons_zero, List.set_cons_succ])) | (apply ord_pass rfl rfl (by assumption) rfl; (try simp only [Act.put, List.setIfInBounds_toArray, List.set_cons_zero, List.set_cons_succ])))
              (first | (apply ord_guard rfl rfl (by assumption) rfl; (focus ((intro w' hS'); go_simp; (try with_reducible rfl))); (try simp only [Act.put, List.setIfInBounds_toArray, List.set_cons_zero, List.set_cons_succ])) | (apply ord_pass rfl rfl (by assumption) rfl; (try simp only [Act.put, List.setIfInBounds_toArray, List.set_cons_zero, List.set_cons_succ])))
              (first | (apply ord_guard rfl rfl (by assumption) rfl; (focus ((intro w' hS'); go_simp; (try with_reducible rfl))); (try simp only [Act.put, List.setIfInBounds_toArray, List.set_cons_zero, List.set_cons_succ])) | (apply ord_pass rfl rfl (by assumption) rfl; (try simp only [Act.put, List.setIfInBounds_toArray, List.set_cons_zero, List.set_cons_succ])))
              (first | (apply ord_guard rfl rfl (by assumption) rfl; (focus ((intro w' hS'); go_simp; (try with_reducible rfl))); (try simp only [Act.put, List.setIfInBounds_toArray, List.set_cons_zero, List.set_cons_succ])) | (apply ord_pass rfl rfl (by assumption) rfl; (try simp only [Act.put, List.setIfInBounds_toArray, List.set_cons_zero, List.set_cons_succ])))
              (first | (apply ord_guard rfl rfl (by assumption) rfl; (focus ((intro w' hS'); go_simp; (try with_reducible rfl))); (try simp only [Act.put, List.setIfInBounds_toArray, List.set_cons_zero, List.set_cons_succ])) | (apply ord_pass rfl rfl (by assumption) rfl; (try simp only [Act.put, List.setIfInBounds_toArray, List.set_cons_zero, List.set_cons_succ])))
              (first | (apply ord_guard rfl rfl (by assumption) rfl; (focus ((intro w' hS'); go_simp; (try with_reducible rfl))); (try simp only [Act.put, List.setIfInBounds_toArray, List.set_cons_zero, List.set_cons_succ])) | (apply ord_pass rfl rfl (by assumption) rfl; (try simp only [Act.put, List.setIfInBounds_toArray, List.set_cons_zero, List.set_cons_succ])))
              (first | (apply ord_guard rfl rfl (by assumption) rfl; (focus ((intro w' hS'); go_simp; (try with_reducible rfl))); (try simp only [Act.put, List.setIfInBounds_toArray, List.set_cons_zero, List.set_cons_succ])) | (apply ord_pass rfl rfl (by assumption) rfl; (try simp only [Act.put, List.setIfInBounds_toArray, List.set_cons_zero, List.set_cons_succ])))
              (first | (apply ord_guard rfl rfl (by assumption) rfl; (focus ((intro w' hS'); go_simp; (try with_reducible rfl))); (try simp only [Act.put, List.setIfInBounds_toArray, List.set_cons_zero, List.set_cons_succ])) | (apply ord_pass rfl rfl (by assumption) rfl; (try simp only [Act.put, List.setIfInBounds_toArray, List.set_cons_zero, List.set_cons_succ])))
              (first | (apply ord_guard rfl rfl (by assumption) rfl; (focus ((intro w' hS'); go_simp; (try with_reducible rfl))); (try simp only [Act.put, List.setIfInBounds_toArray, List.set_cons_zero, List.set_cons_succ])) | (apply ord_pass rfl rfl (by assumption) rfl; (try simp only [Act.put, List.setIfInBounds_toArray, List.set_cons_zero, List.set_cons_succ])))
              (first | (apply ord_guard rfl rfl (by assumption) rfl; (focus ((intro w' hS'); go_simp; (try with_reducible rfl))); (try simp only [Act.put, List.setIfInBounds_toArray, List.set_cons_zero, List.set_cons_succ])) | (apply ord_pass rfl rfl (by assumption) rfl; (try simp only [Act.put, List.setIfInBounds_toArray, List.set_cons_zero, List.set_cons_succ])))
              (first | (apply ord_guard rfl rfl (by assumption) rfl; (focus ((intro w' hS'); go_simp; (try with_reducible rfl))); (try simp only [Act.put, List.setIfInBounds_toArray, List.set_cons_zero, List.set_cons_succ])) | (apply ord_pass rfl rfl (by assumption) rfl; (try simp only [Act.put, List.setIfInBounds_toArray, List.set_cons_zero, List.set_cons_succ])))
              (first | (apply ord_guard rfl rfl (by assumption) rfl; (focus ((intro w' hS'); go_simp; (try with_reducible rfl))); (try simp only [Act.put, List.setIfInBounds_toArray, List.set_cons_zero, List.set_cons_succ])) | (apply ord_pass rfl rfl (by assumption) rfl; (try simp only [Act.put, List.setIfInBounds_toArray, List.set_cons_zero, List.set_cons_succ])))
              (first | (apply ord_guard rfl rfl (by assumption) rfl; (focus ((intro w' hS'); go_simp; (try with_reducible rfl))); (try simp only [Act.put, List.setIfInBounds_toArray, List.set_cons_zero, List.set_cons_succ])) | (apply ord_pass rfl rfl (by assumption) rfl; (try simp only [Act.put, List.setIfInBounds_toArray, List.set_cons_zero, List.set_cons_succ])))
              (first | (apply ord_guard rfl rfl (by assumption) rfl; (focus ((intro w' hS'); go_simp; (try with_reducible rfl))); (try simp only [Act.put, List.setIfInBounds_toArray, List.set_cons_zero, List.set_cons_succ])) | (apply ord_pass rfl rfl (by assumption) rfl; (try simp only [Act.put, List.setIfInBounds_toArray, List.set_cons_zero, List.set_cons_succ])))
              (apply ord_held rfl rfl (by assumption) rfl; (focus ((intro w' hS'); go_simp; (try with_reducible rfl))); (try simp only [Act.put, List.setIfInBounds_toArray, List.set_cons_zero, List.set_cons_succ]))
              refine ord_end ?_
              go_wp2_with fail
              go_roundw
              case rel =>
                refine ⟨ext_trans hx (ext_trans (ext_drew (ext_refl _)) hx2), hbx.ext (ext_trans (ext_drew (ext_refl _)) hx2), j + 1, by omega, by go_num, ?_, ?_⟩
                · rw [take_snoc HT.out]
                  exact properTs_snoc HTS.out HPP.out
                · intro h5
                  rw [take_snoc HS1.out]
                  exact pairwise_snoc (HPW.out rfl) HS0.out HLT2.out
              case measure => simp [intOf]; omega
        · have hjd : decide ((0:Int) < (j:Int)) = false := by rw [decide_eq_false_iff_not]; omega
          go_upto_region 10 with fail
          refine wp_region_order (fun w' => Six w' w.heap.size ⟨5, x, d, y, ka, kn, kc, some ⟨b, off, none⟩, kn, cc⟩ ∧ CellsAt w' b (off + j * 6) e2) [0, 1, 2, 3, 4, 5, 6, 8, 9, 10, 11, 12, 13, 14, 15, 16, 17, 18, 19, 20, 21, 22, 23, 24, 25, 26, 27, 28, 29, 30, 31] [0, 1, 2, 3, 4, 5, 6, 7, 8, 9, 10, 11, 12, 13, 14, 15, 16, 17, 18, 19, 20, 21, 22, 23, 24, 25, 26, 27, 28, 29, 30, 31] (by kernel_rfl) (by kernel_rfl) (fun d _ _ _ _ h => by cases d <;> exact h) (by kernel_rfl) ?_
          have hS : (fun w' => Six w' w.heap.size ⟨5, x, d, y, ka, kn, kc, some ⟨b, off, none⟩, kn, cc⟩ ∧ CellsAt w' b (off + j * 6) e2) wr.drew := ⟨hbx.Six, hcell⟩
          (apply ord_held rfl rfl (by assumption) rfl; (focus ((intro w' hS'); go_simp; (try with_reducible rfl))); (try simp only [Act.put, List.setIfInBounds_toArray, List.set_cons_zero, List.set_cons_succ]))
          (apply ord_held rfl rfl (by assumption) rfl; (focus ((intro w' hS'); go_simp; (try with_reducible rfl))); (try simp only [Act.put, List.setIfInBounds_toArray, List.set_cons_zero, List.set_cons_succ]))
          (apply ord_held rfl rfl (by assumption) rfl; (focus ((intro w' hS'); go_simp; (try with_reducible rfl))); (try simp only [Act.put, List.setIfInBounds_toArray, List.set_cons_zero, List.set_cons_succ]))
          (apply ord_held rfl rfl (by assumption) rfl; (focus ((intro w' hS'); go_simp; (try with_reducible rfl))); (try simp only [Act.put, List.setIfInBounds_toArray, List.set_cons_zero, List.set_cons_succ]))
          (apply ord_held rfl rfl (by assumption) rfl; (focus ((intro w' hS'); go_simp; (try with_reducible rfl))); (try simp only [Act.put, List.setIfInBounds_toArray, List.set_cons_zero, List.set_cons_succ]))
          (apply ord_held rfl rfl (by assumption) rfl; (focus ((intro w' hS'); go_simp; (try with_reducible rfl))); (try simp only [Act.put, List.setIfInBounds_toArray, List.set_cons_zero, List.set_cons_succ]))
          (apply ord_held rfl rfl (by assumption) rfl; (focus ((intro w' hS'); go_simp; (try with_reducible rfl))); (try simp only [Act.put, List.setIfInBounds_toArray, List.set_cons_zero, List.set_cons_succ]))
          (apply ord_loud rfl rfl rfl; intro K hK; go_simp)
          refine (HIH.out t2 e2 _ _ (hT2.ext (ext_drew (ext_refl _))) ?arith).mono ?_
          case arith => exact ⟨by first | omega | exact IntWalk.i64_in (by omega) (by omega) | simp (disch := omega) only [IntWalk.i64_in], by omega⟩
          rintro r w2 ⟨b0, rfl, hP2, hx2⟩
          have HP2 := Lib.hid hP2
          clear hP2
          have hS2 : (fun w' => Six w' w.heap.size ⟨5, x, d, y, ka, kn, kc, some ⟨b, off, none⟩, kn, cc⟩ ∧ CellsAt w' b (off + j * 6) e2) w2 := ⟨Six.ext hx2 hS.1, hS.2.keep (hx2.keeps (fun _ => True)) trivial⟩
          refine hK _ _ (fun _ => hS2) ?_
          clear hK K hS
          (try simp only [Act.put, List.setIfInBounds_toArray, List.set_cons_zero, List.set_cons_succ])
          cases b0
          · skip
            (apply ord_held rfl rfl (by assumption) rfl; (focus ((intro w' hS'); go_simp; (try with_reducible rfl))); (try simp only [Act.put, List.setIfInBounds_toArray, List.set_cons_zero, List.set_cons_succ]))
            (apply ord_held rfl rfl (by assumption) rfl; (focus ((intro w' hS'); go_simp; (try with_reducible rfl))); (try simp only [Act.put, List.setIfInBounds_toArray, List.set_cons_zero, List.set_cons_succ]))
            (first | (apply ord_guard rfl rfl (by assumption) rfl; (focus ((intro w' hS'); go_simp; (try with_reducible rfl))); (try simp only [Act.put, List.setIfInBounds_toArray, List.set_cons_zero, List.set_cons_succ])) | (apply ord_pass rfl rfl (by assumption) rfl; (try simp only [Act.put, List.setIfInBounds_toArray, List.set_cons_zero, List.set_cons_succ])))
            (first | (apply ord_guard rfl rfl (by assumption) rfl; (focus ((intro w' hS'); go_simp; (try with_reducible rfl))); (try simp only [Act.put, List.setIfInBounds_toArray, List.set_cons_zero, List.set_cons_succ])) | (apply ord_pass rfl rfl (by assumption) rfl; (try simp only [Act.put, List.setIfInBounds_toArray, List.set_cons_zero, List.set_cons_succ])))
            (first | (apply ord_guard rfl rfl (by assumption) rfl; (focus ((intro w' hS'); go_simp; (try with_reducible rfl))); (try simp only [Act.put, List.setIfInBounds_toArray, List.set_cons_zero, List.set_cons_succ])) | (apply ord_pass rfl rfl (by assumption) rfl; (try simp only [Act.put, List.setIfInBounds_toArray, List.set_cons_zero, List.set_cons_succ])))
            (first | (apply ord_guard rfl rfl (by assumption) rfl; (focus ((intro w' hS'); go_simp; (try with_reducible rfl))); (try simp only [Act.put, List.setIfInBounds_toArray, List.set_cons_zero, List.set_cons_succ])) | (apply ord_pass rfl rfl (by assumption) rfl; (try simp only [Act.put, List.setIfInBounds_toArray, List.set_cons_zero, List.set_cons_succ])))
            (first | (apply ord_guard rfl rfl (by assumption) rfl; (focus ((intro w' hS'); go_simp; (try with_reducible rfl))); (try simp only [Act.put, List.setIfInBounds_toArray, List.set_cons_zero, List.set_cons_succ])) | (apply ord_pass rfl rfl (by assumption) rfl; (try simp only [Act.put, List.setIfInBounds_toArray, List.set_cons_zero, List.set_cons_succ])))
            (first | (apply ord_guard rfl rfl (by assumption) rfl; (focus ((intro w' hS'); go_simp; (try with_reducible rfl))); (try simp only [Act.put, List.setIfInBounds_toArray, List.set_cons_zero, List.set_cons_succ])) | (apply ord_pass rfl rfl (by assumption) rfl; (try simp only [Act.put, List.setIfInBounds_toArray, List.set_cons_zero, List.set_cons_succ])))
            (first | (apply ord_guard rfl rfl (by assumption) rfl; (focus ((intro w' hS'); go_simp; (try with_reducible rfl))); (try simp only [Act.put, List.setIfInBounds_toArray, List.set_cons_zero, List.set_cons_succ])) | (apply ord_pass rfl rfl (by assumption) rfl; (try simp only [Act.put, List.setIfInBounds_toArray, List.set_cons_zero, List.set_cons_succ])))
            (first | (apply ord_guard rfl rfl (by assumption) rfl; (focus ((intro w' hS'); go_simp; (try with_reducible rfl))); (try simp only [Act.put, List.setIfInBounds_toArray, List.set_cons_zero, List.set_cons_succ])) | (apply ord_pass rfl rfl (by assumption) rfl; (try simp only [Act.put, List.setIfInBounds_toArray, List.set_cons_zero, List.set_cons_succ])))
            (first | (apply ord_guard rfl rfl (by assumption) rfl; (focus ((intro w' hS'); go_simp; (try with_reducible rfl))); (try simp only [Act.put, List.setIfInBounds_toArray, List.set_cons_zero, List.set_cons_succ])) | (apply ord_pass rfl rfl (by assumption) rfl; (try simp only [Act.put, List.setIfInBounds_toArray, List.set_cons_zero, List.set_cons_succ])))
            (first | (apply ord_guard rfl rfl (by assumption) rfl; (focus ((intro w' hS'); go_simp; (try with_reducible rfl))); (try simp only [Act.put, List.setIfInBounds_toArray, List.set_cons_zero, List.set_cons_succ])) | (apply ord_pass rfl rfl (by assumption) rfl; (try simp only [Act.put, List.setIfInBounds_toArray, List.set_cons_zero, List.set_cons_succ])))
            (first | (apply ord_guard rfl rfl (by assumption) rfl; (focus ((intro w' hS'); go_simp; (try with_reducible rfl))); (try simp only [Act.put, List.setIfInBounds_toArray, List.set_cons_zero, List.set_cons_succ])) | (apply ord_pass rfl rfl (by assumption) rfl; (try simp only [Act.put, List.setIfInBounds_toArray, List.set_cons_zero, List.set_cons_succ])))
            (first | (apply ord_guard rfl rfl (by assumption) rfl; (focus ((intro w' hS'); go_simp; (try with_reducible rfl))); (try simp only [Act.put, List.setIfInBounds_toArray, List.set_cons_zero, List.set_cons_succ])) | (apply ord_pass rfl rfl (by assumption) rfl; (try simp only [Act.put, List.setIfInBounds_toArray, List.set_cons_zero, List.set_cons_succ])))
            (first | (apply ord_guard rfl rfl (by assumption) rfl; (focus ((intro w' hS'); go_simp; (try with_reducible rfl))); (try simp only [Act.put, List.setIfInBounds_toArray, List.set_cons_zero, List.set_cons_succ])) | (apply ord_pass rfl rfl (by assumption) rfl; (try simp only [Act.put, List.setIfInBounds_toArray, List.set_cons_zero, List.set_cons_succ])))
            (first | (apply ord_guard rfl rfl (by assumption) rfl; (focus ((intro w' hS'); go_simp; (try with_reducible rfl))); (try simp only [Act.put, List.setIfInBounds_toArray, List.set_cons_zero, List.set_cons_succ])) | (apply ord_pass rfl rfl (by assumption) rfl; (try simp only [Act.put, List.setIfInBounds_toArray, List.set_cons_zero, List.set_cons_succ])))
            (first | (apply ord_guard rfl rfl (by assumption) rfl; (focus ((intro w' hS'); go_simp; (try with_reducible rfl))); (try simp only [Act.put, List.setIfInBounds_toArray, List.set_cons_zero, List.set_cons_succ])) | (apply ord_pass rfl rfl (by assumption) rfl; (try simp only [Act.put, List.setIfInBounds_toArray, List.set_cons_zero, List.set_cons_succ])))
            (first | (apply ord_guard rfl rfl (by assumption) rfl; (focus ((intro w' hS'); go_simp; (try with_reducible rfl))); (try simp only [Act.put, List.setIfInBounds_toArray, List.set_cons_zero, List.set_cons_succ])) | (apply ord_pass rfl rfl (by assumption) rfl; (try simp only [Act.put, List.setIfInBounds_toArray, List.set_cons_zero, List.set_cons_succ])))
            (first | (apply ord_guard rfl rfl (by assumption) rfl; (focus ((intro w' hS'); go_simp; (try with_reducible rfl))); (try simp only [Act.put, List.setIfInBounds_toArray, List.set_cons_zero, List.set_cons_succ])) | (apply ord_pass rfl rfl (by assumption) rfl; (try simp only [Act.put, List.setIfInBounds_toArray, List.set_cons_zero, List.set_cons_succ])))
            (first | (apply ord_guard rfl rfl (by assumption) rfl; (focus ((intro w' hS'); go_simp; (try with_reducible rfl))); (try simp only [Act.put, List.setIfInBounds_toArray, List.set_cons_zero, List.set_cons_succ])) | (apply ord_pass rfl rfl (by assumption) rfl; (try simp only [Act.put, List.setIfInBounds_toArray, List.set_cons_zero, List.set_cons_succ])))
            (first | (apply ord_guard rfl rfl (by assumption) rfl; (focus ((intro w' hS'); go_simp; (try with_reducible rfl))); (try simp only [Act.put, List.setIfInBounds_toArray, List.set_cons_zero, List.set_cons_succ])) | (apply ord_pass rfl rfl (by assumption) rfl; (try simp only [Act.put, List.setIfInBounds_toArray, List.set_cons_zero, List.set_cons_succ])))
            (first | (apply ord_guard rfl rfl (by assumption) rfl; (focus ((intro w' hS'); go_simp; (try with_reducible rfl))); (try simp only [Act.put, List.setIfInBounds_toArray, List.set_cons_zero, List.set_cons_succ])) | (apply ord_pass rfl rfl (by assumption) rfl; (try simp only [Act.put, List.setIfInBounds_toArray, List.set_cons_zero, List.set_cons_succ])))
            (first | (apply ord_guard rfl rfl (by assumption) rfl; (focus ((intro w' hS'); go_simp; (try with_reducible rfl))); (try simp only [Act.put, List.setIfInBounds_toArray, List.set_cons_zero, List.set_cons_succ])) | (apply ord_pass rfl rfl (by assumption) rfl; (try simp only [Act.put, List.setIfInBounds_toArray, List.set_cons_zero, List.set_cons_succ])))
            (apply ord_held rfl rfl (by assumption) rfl; (focus ((intro w' hS'); go_simp; (try with_reducible rfl))); (try simp only [Act.put, List.setIfInBounds_toArray, List.set_cons_zero, List.set_cons_succ]))
            refine ord_end ?_
            go_wp2_with fail
            go_ret
            exact ⟨false, rfl, fun h => (Bool.noConfusion h), ext_trans hx (ext_trans (ext_drew (ext_refl _)) hx2)⟩
          · have hp2 := HP2.out rfl
            have HPP := Lib.hid hp2
            clear hp2
            (apply ord_held rfl rfl (by assumption) rfl; (focus ((intro w' hS'); go_simp; (try with_reducible rfl))); (try simp only [Act.put, List.setIfInBounds_toArray, List.set_cons_zero, List.set_cons_succ]))
            (apply ord_held rfl rfl (by assumption) rfl; (focus ((intro w' hS'); go_simp; (try with_reducible rfl))); (try simp only [Act.put, List.setIfInBounds_toArray, List.set_cons_zero, List.set_cons_succ]))
            (first | (apply ord_guard rfl rfl (by assumption) rfl; (focus ((intro w' hS'); go_simp; (try with_reducible rfl))); (try simp only [Act.put, List.setIfInBounds_toArray, List.set_cons_zero, List.set_cons_succ])) | (apply ord_pass rfl rfl (by assumption) rfl; (try simp only [Act.put, List.setIfInBounds_toArray, List.set_cons_zero, List.set_cons_succ])))
            (first | (apply ord_guard rfl rfl (by assumption) rfl; (focus ((intro w' hS'); go_simp; (try with_reducible rfl))); (try simp only [Act.put, List.setIfInBounds_toArray, List.set_cons_zero, List.set_cons_succ])) | (apply ord_pass rfl rfl (by assumption) rfl; (try simp only [Act.put, List.setIfInBounds_toArray, List.set_cons_zero, List.set_cons_succ])))
            (first | (apply ord_guard rfl rfl (by assumption) rfl; (focus ((intro w' hS'); go_simp; (try with_reducible rfl))); (try simp only [Act.put, List.setIfInBounds_toArray, List.set_cons_zero, List.set_cons_succ])) | (apply ord_pass rfl rfl (by assumption) rfl; (try simp only [Act.put, List.setIfInBounds_toArray, List.set_cons_zero, List.set_cons_succ])))
            (first | (apply ord_guard rfl rfl (by assumption) rfl; (focus ((intro w' hS'); go_simp; (try with_reducible rfl))); (try simp only [Act.put, List.setIfInBounds_toArray, List.set_cons_zero, List.set_cons_succ])) | (apply ord_pass rfl rfl (by assumption) rfl; (try simp only [Act.put, List.setIfInBounds_toArray, List.set_cons_zero, List.set_cons_succ])))
            (first | (apply ord_guard rfl rfl (by assumption) rfl; (focus ((intro w' hS'); go_simp; (try with_reducible rfl))); (try simp only [Act.put, List.setIfInBounds_toArray, List.set_cons_zero, List.set_cons_succ])) | (apply ord_pass rfl rfl (by assumption) rfl; (try simp only [Act.put, List.setIfInBounds_toArray, List.set_cons_zero, List.set_cons_succ])))
            (first | (apply ord_guard rfl rfl (by assumption) rfl; (focus ((intro w' hS'); go_simp; (try with_reducible rfl))); (try simp only [Act.put, List.setIfInBounds_toArray, List.set_cons_zero, List.set_cons_succ])) | (apply ord_pass rfl rfl (by assumption) rfl; (try simp only [Act.put, List.setIfInBounds_toArray, List.set_cons_zero, List.set_cons_succ])))
            (first | (apply ord_guard rfl rfl (by assumption) rfl; (focus ((intro w' hS'); go_simp; (try with_reducible rfl))); (try simp only [Act.put, List.setIfInBounds_toArray, List.set_cons_zero, List.set_cons_succ])) | (apply ord_pass rfl rfl (by assumption) rfl; (try simp only [Act.put, List.setIfInBounds_toArray, List.set_cons_zero, List.set_cons_succ])))
            (first | (apply ord_guard rfl rfl (by assumption) rfl; (focus ((intro w' hS'); go_simp; (try with_reducible rfl))); (try simp only [Act.put, List.setIfInBounds_toArray, List.set_cons_zero, List.set_cons_succ])) | (apply ord_pass rfl rfl (by assumption) rfl; (try simp only [Act.put, List.setIfInBounds_toArray, List.set_cons_zero, List.set_cons_succ])))
            (first | (apply ord_guard rfl rfl (by assumption) rfl; (focus ((intro w' hS'); go_simp; (try with_reducible rfl))); (try simp only [Act.put, List.setIfInBounds_toArray, List.set_cons_zero, List.set_cons_succ])) | (apply ord_pass rfl rfl (by assumption) rfl; (try simp only [Act.put, List.setIfInBounds_toArray, List.set_cons_zero, List.set_cons_succ])))
            (first | (apply ord_guard rfl rfl (by assumption) rfl; (focus ((intro w' hS'); go_simp; (try with_reducible rfl))); (try simp only [Act.put, List.setIfInBounds_toArray, List.set_cons_zero, List.set_cons_succ])) | (apply ord_pass rfl rfl (by assumption) rfl; (try simp only [Act.put, List.setIfInBounds_toArray, List.set_cons_zero, List.set_cons_succ])))
            (first | (apply ord_guard rfl rfl (by assumption) rfl; (focus ((intro w' hS'); go_simp; (try with_reducible rfl))); (try simp only [Act.put, List.setIfInBounds_toArray, List.set_cons_zero, List.set_cons_succ])) | (apply ord_pass rfl rfl (by assumption) rfl; (try simp only [Act.put, List.setIfInBounds_toArray, List.set_cons_zero, List.set_cons_succ])))
            (first | (apply ord_guard rfl rfl (by assumption) rfl; (focus ((intro w' hS'); go_simp; (try with_reducible rfl))); (try simp only [Act.put, List.setIfInBounds_toArray, List.set_cons_zero, List.set_cons_succ])) | (apply ord_pass rfl rfl (by assumption) rfl; (try simp only [Act.put, List.setIfInBounds_toArray, List.set_cons_zero, List.set_cons_succ])))
            (first | (apply ord_guard rfl rfl (by assumption) rfl; (focus ((intro w' hS'); go_simp; (try with_reducible rfl))); (try simp only [Act.put, List.setIfInBounds_toArray, List.set_cons_zero, List.set_cons_succ])) | (apply ord_pass rfl rfl (by assumption) rfl; (try simp only [Act.put, List.setIfInBounds_toArray, List.set_cons_zero, List.set_cons_succ])))
            (first | (apply ord_guard rfl rfl (by assumption) rfl; (focus ((intro w' hS'); go_simp; (try with_reducible rfl))); (try simp only [Act.put, List.setIfInBounds_toArray, List.set_cons_zero, List.set_cons_succ])) | (apply ord_pass rfl rfl (by assumption) rfl; (try simp only [Act.put, List.setIfInBounds_toArray, List.set_cons_zero, List.set_cons_succ])))
            (first | (apply ord_guard rfl rfl (by assumption) rfl; (focus ((intro w' hS'); go_simp; (try with_reducible rfl))); (try simp only [Act.put, List.setIfInBounds_toArray, List.set_cons_zero, List.set_cons_succ])) | (apply ord_pass rfl rfl (by assumption) rfl; (try simp only [Act.put, List.setIfInBounds_toArray, List.set_cons_zero, List.set_cons_succ])))
            (first | (apply ord_guard rfl rfl (by assumption) rfl; (focus ((intro w' hS'); go_simp; (try with_reducible rfl))); (try simp only [Act.put, List.setIfInBounds_toArray, List.set_cons_zero, List.set_cons_succ])) | (apply ord_pass rfl rfl (by assumption) rfl; (try simp only [Act.put, List.setIfInBounds_toArray, List.set_cons_zero, List.set_cons_succ])))
            (first | (apply ord_guard rfl rfl (by assumption) rfl; (focus ((intro w' hS'); go_simp; (try with_reducible rfl))); (try simp only [Act.put, List.setIfInBounds_toArray, List.set_cons_zero, List.set_cons_succ])) | (apply ord_pass rfl rfl (by assumption) rfl; (try simp only [Act.put, List.setIfInBounds_toArray, List.set_cons_zero, List.set_cons_succ])))
            (first | (apply ord_guard rfl rfl (by assumption) rfl; (focus ((intro w' hS'); go_simp; (try with_reducible rfl))); (try simp only [Act.put, List.setIfInBounds_toArray, List.set_cons_zero, List.set_cons_succ])) | (apply ord_pass rfl rfl (by assumption) rfl; (try simp only [Act.put, List.setIfInBounds_toArray, List.set_cons_zero, List.set_cons_succ])))
            (first | (apply ord_guard rfl rfl (by assumption) rfl; (focus ((intro w' hS'); go_simp; (try with_reducible rfl))); (try simp only [Act.put, List.setIfInBounds_toArray, List.set_cons_zero, List.set_cons_succ])) | (apply ord_pass rfl rfl (by assumption) rfl; (try simp only [Act.put, List.setIfInBounds_toArray, List.set_cons_zero, List.set_cons_succ])))
            (first | (apply ord_guard rfl rfl (by assumption) rfl; (focus ((intro w' hS'); go_simp; (try with_reducible rfl))); (try simp only [Act.put, List.setIfInBounds_toArray, List.set_cons_zero, List.set_cons_succ])) | (apply ord_pass rfl rfl (by assumption) rfl; (try simp only [Act.put, List.setIfInBounds_toArray, List.set_cons_zero, List.set_cons_succ])))
            (first | (apply ord_guard rfl rfl (by assumption) rfl; (focus ((intro w' hS'); go_simp; (try with_reducible rfl))); (try simp only [Act.put, List.setIfInBounds_toArray, List.set_cons_zero, List.set_cons_succ])) | (apply ord_pass rfl rfl (by assumption) rfl; (try simp only [Act.put, List.setIfInBounds_toArray, List.set_cons_zero, List.set_cons_succ])))
            (apply ord_held rfl rfl (by assumption) rfl; (focus ((intro w' hS'); go_simp; (try with_reducible rfl))); (try simp only [Act.put, List.setIfInBounds_toArray, List.set_cons_zero, List.set_cons_succ]))
            refine ord_end ?_
            go_wp2_with fail
            go_roundw
            case rel =>
              refine ⟨ext_trans hx (ext_trans (ext_drew (ext_refl _)) hx2), hbx.ext (ext_trans (ext_drew (ext_refl _)) hx2), j + 1, by omega, by go_num, ?_, ?_⟩
              · rw [take_snoc HT.out]
                exact properTs_snoc HTS.out HPP.out
              · intro h5
                have hz : j = 0 := by omega
                subst hz
                exact pairwise_one _
            case measure => simp [intOf]; omega
      · skip
        have hjm : j = kn := by omega
        subst hjm
        have hfull : t.kids.take j = t.kids := List.take_of_length_le (by have := HML.out; omega)
        have hTS := HTS.out
        rw [hfull] at hTS
        have hfull2 : t.keys.take j = t.keys := List.take_of_length_le (by have := HKL.out; omega)
        have hPW := HPW.out rfl
        rw [hfull2] at hPW
        have hP : ProperT t := by
          obtain ⟨tk, tx, td, ty, tks, tkids⟩ := t
          rw [ProperT]
          have h1 := HCK.out
          have h2 := HKL.out
          have h3 := HML.out
          simp only [T.kind, T.keys, T.kids] at h1 h2 h3 hTS hPW
          exact .inr ⟨.inr ⟨h1, by omega, hPW⟩, hTS⟩
        have HP := Lib.hid hP
        clear hP hTS
        go_wp2_with fail
        go_ret
        exact ⟨true, rfl, fun _ => HP.out, by (repeat (first | exact ext_refl _ | assumption | refine ext_alloc ?_ _ | refine ext_drew ?_ | refine ext_set ?_ (by simp) _ | refine ext_trans ?_ (by assumption)))⟩
  · go_enter Tryz.func86, Tryz.ntmps86
    go_wp2_with fail
    go_ret
    exact ⟨false, rfl, fun h => (Bool.noConfusion h), by (repeat (first | exact ext_refl _ | assumption | refine ext_alloc ?_ _ | refine ext_drew ?_ | refine ext_set ?_ (by simp) _ | refine ext_trans ?_ (by assumption)))⟩
theorem proper_at : ∀ n : Nat, PropAt n
  | 0 => fun S t e D w h hD => by
    have hD0 : D = 0 := hD.1
    subst hD0
    exact proper_zero t e w h
  | n + 1 => fun S t e D w h hD => by
    obtain ⟨h1, h2⟩ := hD
    by_cases h4 : t.kind = 4
    · exact proper_list n (proper_at n) t e D w h (by omega) (by omega) (by omega) h4
    · by_cases h5 : t.kind = 5
      · exact proper_map n (proper_at n) t e D w h (by omega) (by omega) (by omega) h5
      · exact proper_plain t e D w h (by omega) (by omega) ⟨h4, h5⟩

set_option maxHeartbeats 1000000 in
theorem query_any {S : Nat → Prop} (e : El) (t : T) (w : World) (h : TreeAt S w e t) : Calls Tryz.prog 42 #[e.val] w (Yes (t.kind = 5 ∧ ProperT t) w) := by
  obtain ⟨k, x, d, y, ka, n, kc, ca, m, cc⟩ := e
  have hkk := h.parts.1
  simp only at hkk
  have hC := Lib.hid fun w' (xx : Ext w w') => proper_at 100 S t _ 100 w' (h.ext xx) ⟨rfl, by omega⟩
  clear h
  simp only [El.val]
  by_cases hk : k = 5
  · have HKK := Lib.hid (hkk.symm.trans hk)
    clear hkk
    subst hk
    go_enter Tryz.func42, Tryz.ntmps42
    go_wp2_with (go_at_call 86; refine (hC.out _ (by (repeat (first | exact ext_refl _ | assumption | refine ext_alloc ?_ _ | refine ext_drew ?_ | refine ext_set ?_ (by simp) _ | refine ext_trans ?_ (by assumption))))).mono ?_; rintro r w2 ⟨b, rfl, hP, hx2⟩; have HP := Lib.hid hP; clear hP)
    go_ret
    exact ⟨_, rfl, fun hb => ⟨HKK.out, HP.out hb⟩, ext_trans (by (repeat (first | exact ext_refl _ | assumption | refine ext_alloc ?_ _ | refine ext_drew ?_ | refine ext_set ?_ (by simp) _ | refine ext_trans ?_ (by assumption)))) hx2⟩
  · clear hkk
    have hk2 : (k == 5) = false := by simpa using hk
    clear hk
    go_enter Tryz.func42, Tryz.ntmps42
    go_wp2_with fail
    go_ret
    exact ⟨false, rfl, fun h => (Bool.noConfusion h), by (repeat (first | exact ext_refl _ | assumption | refine ext_alloc ?_ _ | refine ext_drew ?_ | refine ext_set ?_ (by simp) _ | refine ext_trans ?_ (by assumption)))⟩
set_option maxRecDepth 20000 in
set_option maxHeartbeats 2000000 in
theorem queries_any {S : Nat → Prop} (a : Option Addr) (n c : Nat) (ts : List T) (w : World) (h : KidsAt S w a n c ts) : Calls Tryz.prog 43 #[.slice a n c] w (Yes ((∀ t ∈ ts, t.kind = 5 ∧ ProperT t) ∧ 0 < ts.length) w) := by
  have HK := Lib.hid h
  obtain ⟨hl, hn, hm, -⟩ := h
  unfold maxLen at hm
  have HL := Lib.hid hl
  clear hl
  go_enter Tryz.func43, Tryz.ntmps43
  go_wp2_with fail
  go_loopw [3] (fun i wr => Ext w wr ∧ ∃ j : Nat, j ≤ n ∧ i = .int .i64 j ∧ ∀ t ∈ ts.take j, t.kind = 5 ∧ ProperT t) (fun i _ => n - (intOf i).toNat)
  case atStart => exact ⟨by (repeat (first | exact ext_refl _ | assumption | refine ext_alloc ?_ _ | refine ext_drew ?_ | refine ext_set ?_ (by simp) _ | refine ext_trans ?_ (by assumption))), 0, Nat.zero_le _, rfl, fun t ht => by simp at ht⟩
  case round =>
    obtain ⟨hx, j, hj, rfl, hA⟩ := hrel
    have HA := Lib.hid hA
    clear hA
    by_cases hlt : j < n
    · obtain ⟨t, ht⟩ := some_of_lt HL.out hlt
      obtain ⟨b, off, ⟨k, x, d, y, ka, kn, kc, ca, m, cc⟩, rfl, -, hcell, hT⟩ := (KidsAt.ext hx HK.out).get ht
      have HT := Lib.hid ht
      obtain ⟨c0, c1, c2, c3, c4, c5⟩ := hcell
      have hC := Lib.hid fun w' (xx : Ext wr w') => query_any _ t w' (hT.ext xx)
      clear ht hT
      go_wp2_with (go_at_call 42; refine (hC.out _ (by (repeat (first | exact ext_refl _ | assumption | refine ext_alloc ?_ _ | refine ext_drew ?_ | refine ext_set ?_ (by simp) _ | refine ext_trans ?_ (by assumption))))).mono ?_; rintro r w2 ⟨b0, rfl, hP, hx2⟩; have HP := Lib.hid hP; clear hP; cases b0)
      · go_ret
        exact ⟨false, rfl, fun h => (Bool.noConfusion h), ext_trans hx hx2⟩
      · go_roundw
        case rel =>
          refine ⟨ext_trans hx hx2, j + 1, by omega, by go_num, fun q hq => ?_⟩
          rw [take_snoc HT.out] at hq
          rcases List.mem_append.1 hq with hq | hq
          · exact HA.out q hq
          · simp at hq; subst hq; exact HP.out (by trivial)
        case measure => simp [intOf]; omega
    · have hjn : j = n := by omega
      subst hjn
      have hfull : ts.take j = ts := List.take_of_length_le (by have := HL.out; omega)
      have hA := HA.out
      rw [hfull] at hA
      have HA2 := Lib.hid hA
      clear hA
      go_wp2_with fail
      go_ret
      exact ⟨_, rfl, fun hb => ⟨HA2.out, by have := HL.out; simp at hb; omega⟩, hx⟩
end Go.Proofs.YtdjojnlejkljdaaGreat

namespace Go.Proofs.YtdjojnlejkljdaaGreat
open Go.RowKit Go.Maps

end Go.Proofs.YtdjojnlejkljdaaGreat

namespace Go.Proofs.YtdjojnlejkljdaaGreat
open Go.RowKit Go.Maps

section
variable {ops : Array Oper} {rest : List Oper} {o : Oper} {a : Act} {Q : Exit → Act → World → Prop}
/-- An entry of a map as it is written down, in a walk. -/
theorem wp_ins (w : World) (hg : o.guard = none) (m x v : Operand) (t : TypeId) (hop : o.op = Op.insert t m x v) (e : TypeId) (ht : Tryz.prog.underlying t = some (.map 9 e)) (b : Nat) (ps : List (ByteArray × Value)) (hm : a.eval m = .map (some b)) (hM : MapAt w b ps) (hn : ps.length < maxLen)
    (key : ByteArray) (hx : a.eval x = .string key) (hk : key.size ≤ maxLen) (val : Value) (hv : a.eval v = val)
    (hK : ∀ w', MapAt w' b (ps ++ [(key, val)]) → w.grownBy w' (some b) → wpList Tryz.prog ops Q rest (a.put o.dst undef) w') : wpList Tryz.prog ops Q (o :: rest) a w := by
  refine wpList_plain hg fun K' hK' => ?_
  obtain ⟨w', hrun, r1, r2⟩ := hM.update ht hn hk val
  unfold Oper.wp
  simp [execOp, hop, hm, hx, hv, hrun, Result.andThen]
  exact hK' _ _ (hK w' r1 r2)
theorem op_ins {K : Act → World → Prop} (w : World) (m x v : Operand) (t : TypeId) (hop : o.op = Op.insert t m x v) (e : TypeId) (ht : Tryz.prog.underlying t = some (.map 9 e)) (b : Nat) (ps : List (ByteArray × Value)) (hm : a.eval m = .map (some b)) (hM : MapAt w b ps) (hn : ps.length < maxLen)
    (key : ByteArray) (hx : a.eval x = .string key) (hk : key.size ≤ maxLen) (val : Value) (hv : a.eval v = val)
    (hK : ∀ w', MapAt w' b (ps ++ [(key, val)]) → w.grownBy w' (some b) → K (a.put o.dst undef) w') : o.wp Tryz.prog a w K Q := by
  obtain ⟨w', hrun, r1, r2⟩ := hM.update ht hn hk val
  unfold Oper.wp
  simp [execOp, hop, hm, hx, hv, hrun, Result.andThen]
  exact hK w' r1 r2
end
/-- A value whose method Source gives j, as long as the blocks of S stay. -/
def Gives (S : Nat → Prop) (w : World) (q : Value) (j : J) : Prop := ∃ ty x f, q = .iface ty x ∧ (∀ fuel w', (method (fuel + 1) ty x "Source").run Tryz.prog w' = .ok (f, x) w') ∧ (∀ w', (callFunc f #[x]).run Tryz.prog w' = .ok (.enter f #[x]) w') ∧
  ∀ w', Keeps S w w' → w.heap.size ≤ w'.heap.size → Calls Tryz.prog f #[x] w' fun r w'' => ∃ ty' x', r = .returned (.tuple #[.iface ty' x', .nilIface]) ∧ JAt (fun b => w'.heap.size ≤ b) w'' (.iface ty' x') j ∧ Ext w' w''
theorem Gives.keep {S S' : Nat → Prop} {w w' : World} {q : Value} {j : J} (h : Gives S w q j) (hS : ∀ b, S b → b < w.heap.size → S' b) (k : Keeps S w w') (hsz : w.heap.size ≤ w'.heap.size) : Gives S' w' q j := by
  obtain ⟨ty, x, f, rfl, hm, hm2, hc⟩ := h
  refine ⟨ty, x, f, rfl, hm, hm2, fun w2 k2 h2 => hc w2 (fun b hb hl => ?_) (by omega)⟩
  rw [k2 b (hS b hb hl) (by omega)]
  exact k b hb hl
theorem Gives.ext {S : Nat → Prop} {w w' : World} {q : Value} {j : J} (h : Gives S w q j) (x : Ext w w') : Gives S w' q j := h.keep (fun _ h _ => h) (x.keeps S) x.sz
theorem Gives.to {S S' : Nat → Prop} {w : World} {q : Value} {j : J} (h : Gives S w q j) (hS : ∀ b, S b → b < w.heap.size → S' b) : Gives S' w q j := h.keep hS (fun _ _ _ => rfl) (Nat.le_refl _)
theorem Gives.one {S : Nat → Prop} {w : World} {q : Value} {j : J} (h : Gives S w q j) : q.oneCell' = true := by
  obtain ⟨ty, x, f, rfl, -⟩ := h
  rfl
/-- Values and what each gives. -/
def GivesL (S : Nat → Prop) (w : World) (vs : List Value) (js : List J) : Prop := vs.length = js.length ∧ ∀ (i : Nat) (q : Value) (j : J), vs[i]? = some q → js[i]? = some j → Gives S w q j
theorem GivesL.nil (S : Nat → Prop) (w : World) : GivesL S w [] [] := ⟨rfl, fun _ _ _ h => by simp at h⟩
theorem GivesL.keep {S S' : Nat → Prop} {w w' : World} {vs : List Value} {js : List J} (h : GivesL S w vs js) (hS : ∀ b, S b → b < w.heap.size → S' b) (k : Keeps S w w') (hsz : w.heap.size ≤ w'.heap.size) : GivesL S' w' vs js :=
  ⟨h.1, fun i q j hq hj => (h.2 i q j hq hj).keep hS k hsz⟩
theorem GivesL.append {S : Nat → Prop} {w : World} {vs us : List Value} {js ks : List J} (h : GivesL S w vs js) (k : GivesL S w us ks) : GivesL S w (vs ++ us) (js ++ ks) := by
  refine ⟨by simp [h.1, k.1], fun i u q hu hq => ?_⟩
  by_cases hi : i < vs.length
  · rw [List.getElem?_append_left hi] at hu
    rw [List.getElem?_append_left (by rw [← h.1]; exact hi)] at hq
    exact h.2 i u q hu hq
  · rw [List.getElem?_append_right (by omega)] at hu
    rw [List.getElem?_append_right (by rw [← h.1]; omega), ← h.1] at hq
    exact k.2 _ u q hu hq
theorem GivesL.one {S : Nat → Prop} {w : World} {q : Value} {j : J} (h : Gives S w q j) : GivesL S w [q] [j] := ⟨rfl, fun i u p hu hp => by
  cases i with
  | zero => simp at hu hp; subst hu hp; exact h
  | succ i => simp at hu⟩
theorem GivesL.cells {S : Nat → Prop} {w : World} {vs : List Value} {js : List J} (h : GivesL S w vs js) : ∀ u ∈ vs, u.oneCell' = true := fun u hu => by
  obtain ⟨i, hi⟩ := List.getElem?_of_mem hu
  obtain ⟨q, hq⟩ := some_of_lt (l := js) rfl (show i < js.length by rw [← h.1]; exact (List.getElem?_eq_some_iff.1 hi).1)
  exact (h.2 i u q hi hq).one
/-- A list of queries in memory. -/
def QsAt (S : Nat → Prop) (w : World) (a : Option Addr) (n c : Nat) (js : List J) : Prop :=
  ∃ vs, vs.length = n ∧ n ≤ c ∧ c ≤ maxLen ∧ (∀ i u, vs[i]? = some u → ∃ b off, a = some ⟨b, off, none⟩ ∧ S b ∧ w.cell? ⟨b, off + i, none⟩ = some u) ∧ GivesL S w vs js
theorem QsAt.keep {S S' : Nat → Prop} {w w' : World} {a : Option Addr} {n c : Nat} {js : List J} (h : QsAt S w a n c js) (hS : ∀ b, S b → b < w.heap.size → S' b) (k : Keeps S w w') (hsz : w.heap.size ≤ w'.heap.size) : QsAt S' w' a n c js := by
  obtain ⟨vs, h1, h2, h3, h4, h5⟩ := h
  refine ⟨vs, h1, h2, h3, fun i u hu => ?_, h5.keep hS k hsz⟩
  obtain ⟨b, off, e, hb, hc⟩ := h4 i u hu
  exact ⟨b, off, e, hS b hb (lt_of_cell hc), k.cell hb hc⟩
theorem QsAt.ext {S : Nat → Prop} {w w' : World} {a : Option Addr} {n c : Nat} {js : List J} (h : QsAt S w a n c js) (x : Ext w w') : QsAt S w' a n c js := h.keep (fun _ h _ => h) (x.keeps S) x.sz
theorem QsAt.to {S S' : Nat → Prop} {w : World} {a : Option Addr} {n c : Nat} {js : List J} (h : QsAt S w a n c js) (hS : ∀ b, S b → b < w.heap.size → S' b) : QsAt S' w a n c js := h.keep hS (fun _ _ _ => rfl) (Nat.le_refl _)
theorem QsAt.len {S : Nat → Prop} {w : World} {a : Option Addr} {n c : Nat} {js : List J} (h : QsAt S w a n c js) : js.length = n := by
  obtain ⟨vs, h1, -, -, -, h5⟩ := h
  rw [← h5.1, h1]
/-- Values of interfaces that the call itself has appended. -/
def OwnV (t : TypeId) (w : World) (base : Nat) (v : Value) (vs : List Value) : Prop := w.ownsRow base t 1 v vs.length vs
theorem OwnV.ext {t : TypeId} {w w' : World} {base : Nat} {v : Value} {vs : List Value} (h : OwnV t w base v vs) (x : Ext w w') : OwnV t w' base v vs := World.ownsRow.kept h (grown_of_ext x none) (by cases v.ownBlock <;> simp)
theorem OwnV.grown {t : TypeId} {w w' : World} {base : Nat} {v : Value} {vs : List Value} (h : OwnV t w base v vs) {r : Option Nat} (g : w.grownBy w' r) (hne : v.ownBlock = none ∨ v.ownBlock ≠ r) : OwnV t w' base v vs := World.ownsRow.kept h g hne
theorem OwnV.cells {t : TypeId} {S : Nat → Prop} {w : World} {base : Nat} {v : Value} {vs : List Value} (h : OwnV t w base v vs) (hS : ∀ b, v.ownBlock = some b → S b) : ∃ a c, v = .slice a vs.length c ∧ vs.length ≤ c ∧ c ≤ maxLen ∧ ∀ i u, vs[i]? = some u → ∃ b off, a = some ⟨b, off, none⟩ ∧ S b ∧ w.cell? ⟨b, off + i, none⟩ = some u := by
  obtain ⟨h1, h2⟩ := id h
  rcases h2 with ⟨rfl, h0⟩ | ⟨g, cap, cur, rfl, hg, hh, h3, h4, h5, h6⟩
  · refine ⟨none, 0, by rw [h0], by omega, by simp [maxLen], fun i s hi => ?_⟩
    rw [List.length_eq_zero_iff.1 h0] at hi
    cases hi
  · refine ⟨_, _, rfl, h3, h4, fun i s hi => ⟨g, 0, rfl, hS g rfl, ?_⟩⟩
    have := World.ownsRow.cells h (g := g) rfl i s (by simp [hi])
    simpa [Addr.add_lit] using this
theorem OwnV.qs {t : TypeId} {S : Nat → Prop} {w : World} {base : Nat} {v : Value} {vs : List Value} {js : List J} (h : OwnV t w base v vs) (hS : ∀ b, v.ownBlock = some b → S b) (hg : GivesL S w vs js) : ∃ a c, v = .slice a vs.length c ∧ QsAt S w a vs.length c js := by
  obtain ⟨a, c, e, h1, h2, h3⟩ := h.cells hS
  exact ⟨a, c, e, vs, rfl, h1, h2, h3, hg⟩
theorem OwnV.block {t : TypeId} {w : World} {base : Nat} {v : Value} {vs : List Value} (h : OwnV t w base v vs) {g : Nat} (hg : v.ownBlock = some g) : base ≤ g ∧ g < w.heap.size := World.ownsRow.lt h g hg

theorem jMap_iface {S : Nat → Prop} {w : World} {v : Value} {l : List (ByteArray × J)} (h : JAt S w v (jMap l)) : ∃ x, v = .iface 79 x := by
  unfold jMap at h
  simp only [JAt] at h
  obtain ⟨b, vs, e, -⟩ := h
  exact ⟨_, e⟩
end Go.Proofs.YtdjojnlejkljdaaGreat

namespace Go.Proofs.YtdjojnlejkljdaaGreat
open Go.RowKit Go.Maps

/-- A filter that a rule holds, or none, as long as the blocks of S stay. -/
def FilO (S : Nat → Prop) (w : World) (v : Option Addr) : Option J → Prop
  | none => v = none
  | some j => ∃ b, v = some ⟨b, 0, none⟩ ∧ ∀ w', Keeps S w w' → w.heap.size ≤ w'.heap.size → Calls Tryz.prog 141 #[.pointer (some ⟨b, 0, none⟩)] w' fun r w'' => ∃ ty' x', r = .returned (.tuple #[.iface ty' x', .nilIface]) ∧ JAt (fun b => w'.heap.size ≤ b) w'' (.iface ty' x') j ∧ Ext w' w''
theorem FilO.keep {S S' : Nat → Prop} {w w' : World} {v : Option Addr} {o : Option J} (h : FilO S w v o) (hS : ∀ b, S b → b < w.heap.size → S' b) (k : Keeps S w w') (hsz : w.heap.size ≤ w'.heap.size) : FilO S' w' v o := by
  cases o with
  | none => exact h
  | some j =>
    obtain ⟨b, e, hc⟩ := h
    refine ⟨b, e, fun w2 k2 h2 => hc w2 (fun b hb hl => ?_) (by omega)⟩
    rw [k2 b (hS b hb hl) (by omega)]
    exact k b hb hl
theorem FilO.ext {S : Nat → Prop} {w w' : World} {v : Option Addr} {o : Option J} (h : FilO S w v o) (x : Ext w w') : FilO S w' v o := h.keep (fun _ h _ => h) (x.keeps S) x.sz
def jF (k : ByteArray) : Option J → List (ByteArray × J)
  | none => []
  | some j => [(k, j)]
def filO (ns : List ByteArray) (js : List J) : Option J := if js.isEmpty then none else some (jMap (jFilter (ns.zip js)))
theorem jF_fil (ns : List ByteArray) (js : List J) : jF s_filter (filO ns js) = jFil ns js := by
  unfold filO jFil
  split <;> rfl
/-- A rule that a filter holds, or none. -/
def OptG (S : Nat → Prop) (w : World) (v : Value) : Option J → Prop
  | none => v = .nilIface
  | some j => Gives S w v j
theorem OptG.keep {S S' : Nat → Prop} {w w' : World} {v : Value} {o : Option J} (h : OptG S w v o) (hS : ∀ b, S b → b < w.heap.size → S' b) (k : Keeps S w w') (hsz : w.heap.size ≤ w'.heap.size) : OptG S' w' v o := by
  cases o with
  | none => exact h
  | some j => exact Gives.keep h hS k hsz
theorem OptG.ext {S : Nat → Prop} {w w' : World} {v : Value} {o : Option J} (h : OptG S w v o) (x : Ext w w') : OptG S w' v o := h.keep (fun _ h _ => h) (x.keeps S) x.sz
theorem rule_und : Tryz.prog.underlying 60 = some (.interface (Tryz.prog.methodsAt 60)) := by kernel_rfl
theorem rule_nil (w : World) : (binOp .neq 60 .nilIface .nilIface).run Tryz.prog w = .ok (.bool false) w := run_neq_nil_nil w 60 rule_und
theorem rule_held (ty : TypeId) (x : Value) (w : World) : (binOp .neq 60 (.iface ty x) .nilIface).run Tryz.prog w = .ok (.bool true) w := run_neq_held_nil w 60 ty x rule_und
theorem OptG.test {S : Nat → Prop} {w : World} {v : Value} {o : Option J} (h : OptG S w v o) : ∀ w', (binOp .neq 60 v .nilIface).run Tryz.prog w' = .ok (.bool o.isSome) w' := fun w' => by
  cases o with
  | none => obtain rfl : v = .nilIface := h; exact rule_nil w'
  | some j => obtain ⟨ty, x, f, rfl, -⟩ := (h : Gives S w v j); exact rule_held ty x w'
theorem OptG.guard {S : Nat → Prop} {w : World} {v : Value} {o : Option J} (h : OptG S w v o) : ∀ x w', (eqGuard .neq 60 x (.const .nilIface) v .nilIface).run Tryz.prog w' = .ok () w' := fun x w' => by
  cases o with
  | none => obtain rfl : v = .nilIface := h; simp [eqGuard]
  | some j => obtain ⟨ty, y, f, rfl, -⟩ := (h : Gives S w v j); simp [eqGuard]
theorem lastJ {α : Type} {l : List (ByteArray × α)} {j : Nat} {p : ByteArray × α} (hp : l[j]? = some p) (k : ByteArray) : lastOf (l.take (j + 1)) k = if seq p.1 k = true then some p.2 else lastOf (l.take j) k := by rw [take_snoc hp, lastOf_snoc]
theorem jFilter_eq (l : List (ByteArray × J)) : jFilter l = jF s_before (lastOf l s_before) ++ jF s_after (lastOf l s_after) ++ jF s_contained_by (lastOf l s_contained_by) ++ jF s_containing (lastOf l s_containing) ++ jF s_overlapping (lastOf l s_overlapping) ++ jF s_not_contained_by (lastOf l s_not_contained_by) ++ jF s_not_containing (lastOf l s_not_containing) ++ jF s_not_overlapping (lastOf l s_not_overlapping) := by
  have e : ∀ (k : ByteArray) (L : List ByteArray), ((k :: L).filterMap fun nm => (lastOf l nm).map fun j => (nm, j)) = jF k (lastOf l k) ++ L.filterMap fun nm => (lastOf l nm).map fun j => (nm, j) := fun k L => by
    cases h : lastOf l k <;> simp [h, jF]
  unfold jFilter
  rw [e, e, e, e, e, e, e, e, List.filterMap_nil]
  simp only [List.append_assoc, List.append_nil]
/-- A rule is made into something that gives what it stands for. -/
def Ruled (r : Rl) : Prop := ∀ (S : Nat → Prop) (e : Rv) (w : World), RuleAt S w e r → Calls Tryz.prog 22 #[e.val] w fun rr w' => ∃ q, rr = .returned q ∧ Gives (fun b => w.heap.size ≤ b) w' q (jRule r) ∧ Ext w w'
theorem neq_str (s : ByteArray) (h : s.toList.isEmpty = false) (w : World) : (binOp .neq 20 (.iface 9 (.string s)) (.iface 9 (.string ⟨#[]⟩))).run Tryz.prog w = .ok (.bool true) w := by
  obtain ⟨i, hi, hc⟩ : ∃ i, Tryz.prog.info? 9 = some i ∧ i.comparable = true := by
    have e : (Tryz.prog.info? 9).map (·.comparable) = some true := by kernel_rfl
    exact Option.map_eq_some_iff.1 e
  have hne : (s == (⟨#[]⟩ : ByteArray)) = false := by
    have e1 : (s == (⟨#[]⟩ : ByteArray)) = (s.data == #[]) := rfl
    rw [e1, beq_eq_false_iff_ne]
    intro e
    rw [Lib.toList_data, e] at h
    cases h
  have h2 : ∀ d : Nat, (Op.equalIn (d + 2) 20 (.iface 9 (.string s)) (.iface 9 (.string ⟨#[]⟩))).run Tryz.prog w = .ok false w := fun d => by simp [Op.equalIn, run_underlying Tryz.underlying20, run_underlying Tryz.underlying9, typeInfo, hi, hc, hne]
  simp only [binOp]
  simp [Op.equal, Op.maxDepth, h2 9998]
theorem neq_num (x : Nat) (w : World) : (binOp .neq 20 (.iface 32 (.float .f64 x)) (.iface 9 (.string ⟨#[]⟩))).run Tryz.prog w = .ok (.bool true) w := by kernel_rfl
theorem neq_yes (x : Bool) (w : World) : (binOp .neq 20 (.iface 4 (.bool x)) (.iface 9 (.string ⟨#[]⟩))).run Tryz.prog w = .ok (.bool true) w := by kernel_rfl
theorem neq_empty {w : World} {v : Value} {t : T} (hJ : JAt (fun _ => False) w v (jOf t)) (hs : scalarT t = true) : ∀ w', (binOp .neq 20 v (.iface 9 (.string ⟨#[]⟩))).run Tryz.prog w' = .ok (.bool true) w' := fun w' => by
  unfold jOf at hJ
  rcases scalar_kind hs with h | h | h
  · rw [if_pos h] at hJ
    simp only [JAt] at hJ
    subst hJ
    refine neq_str _ ?_ w'
    have h2 := (same_text h hs).2
    cases he : t.text.toList.isEmpty
    · rfl
    · exact absurd (toList_inj (by rw [List.isEmpty_iff.1 he, emptyS_list])) h2
  · rw [if_neg (by omega), if_pos h] at hJ
    simp only [JAt] at hJ
    subst hJ
    exact neq_num _ w'
  · rw [if_neg (by omega), if_neg (by omega)] at hJ
    simp only [JAt] at hJ
    subst hJ
    exact neq_yes _ w'
end Go.Proofs.YtdjojnlejkljdaaGreat

