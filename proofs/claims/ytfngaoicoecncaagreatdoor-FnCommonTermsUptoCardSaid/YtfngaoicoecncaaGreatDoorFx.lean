/-
  Settings that fit, with more kinds: a value or nothing, two numbers.
-/
import Derived.Test.YtfngaoicoecncaaGreatDoorZz
namespace Go.Proofs.YtfngaoicoecncaaGreatDoor
open Go.RowKit

set_option maxRecDepth 4000 in
set_option maxHeartbeats 800000 in
theorem fit_u {S : Nat → Prop} (e : El) (t : T) (w : World) (h : TreeAt S w e t) : Calls Tryz.prog 26 #[.string ⟨#[117]⟩, e.val] w (Yes (t.kind = 0 ∨ scalarT t = true) w) := by
  have hk := h.parts.1
  rw [← hk]
  clear hk
  obtain ⟨k, x, d, y, ka, n, kc, ca, m, cc⟩ := e
  have HS := Lib.hid (scal h)
  clear h
  generalize scalarT t = b at HS ⊢
  simp only [El.val]
  go_enter Tryz.func26, Tryz.ntmps26
  by_cases hk : k = 0
  · subst hk
    go_wp2_with fail
    go_ret
    exact ⟨true, rfl, fun _ => by simp, by (repeat (first | exact ext_refl _ | assumption | refine ext_alloc ?_ _ | refine ext_drew ?_ | refine ext_set ?_ (by simp) _ | refine ext_trans ?_ (by assumption)))⟩
  · go_wp2_with (go_at_call 7; refine (HS.out _ (by (repeat (first | exact ext_refl _ | assumption | refine ext_alloc ?_ _ | refine ext_drew ?_ | refine ext_set ?_ (by simp) _ | refine ext_trans ?_ (by assumption))))).mono ?_; rintro r w2 ⟨rfl, hx⟩)
    go_ret
    exact ⟨_, rfl, fun h => by simpa using h, ext_trans (ext_alloc (ext_refl _) _) hx⟩
/-- Two numbers. -/
def PairP (t : T) : Prop := t.kind = 4 ∧ t.keys.length = 0 ∧ ∃ p q : T, t.kids = [p, q] ∧ p.kind = 2 ∧ q.kind = 2 ∧ scalarT p = true ∧ scalarT q = true
set_option maxRecDepth 8000 in
set_option maxHeartbeats 2000000 in
theorem fit_p {S : Nat → Prop} (e : El) (t : T) (w : World) (h : TreeAt S w e t) : Calls Tryz.prog 26 #[.string ⟨#[112]⟩, e.val] w (Yes (PairP t) w) := by
  obtain ⟨hk, -, -, -, hs, hK⟩ := h.parts
  obtain ⟨k, x, d, y, ka, n, kc, ca, m, cc⟩ := e
  simp only at hk hs hK
  have hkl := hs.1
  have HSS := Lib.hid fun w' (xx : Ext w w') => scalars_any ca m cc t.kids w' (hK.ext xx)
  clear h
  simp only [El.val]
  have hb0 : Box (w.alloc (.cells #[.int .i64 k, .string x, .float .f64 d, .bool y, .slice ka n kc, .slice ca m cc] 26)) w.heap.size _ _ := Box.at rfl _ _
  go_enter Tryz.func26, Tryz.ntmps26
  by_cases h4 : k = 4
  · by_cases hn : n = 0
    · by_cases hm : m = 2
      · obtain ⟨p, hp⟩ := some_of_lt hK.1 (show 0 < m by omega)
        obtain ⟨q, hq⟩ := some_of_lt hK.1 (show 1 < m by omega)
        obtain ⟨b, off, e0, rfl, -, c0, hT0⟩ := hK.get hp
        obtain ⟨b', off', e1, ee, -, c1, hT1⟩ := hK.get hq
        cases ee
        have hkids : t.kids = [p, q] := by
          have hl := hK.1
          rw [hm] at hl
          match hh : t.kids, hl with
          | [a1, a2], _ => rw [hh] at hp hq; simp at hp hq; rw [hp, hq]
        have k0 := hT0.parts.1
        have k1 := hT1.parts.1
        obtain ⟨z0, -⟩ := c0
        obtain ⟨z1, -⟩ := c1
        have hbl : b < w.heap.size := lt_of_cell z0
        have HK0 := Lib.hid k0
        have HK1 := Lib.hid k1
        have HKK := Lib.hid hkids
        have HK := Lib.hid hk
        have HKL := Lib.hid hkl
        clear k0 k1 hkids hk hkl hp hq hT0 hT1 hs hK
        subst h4 hn hm
        obtain ⟨k0, x0, d0, y0, ka0, n0, kc0, ca0, m0, cc0⟩ := e0
        obtain ⟨k1, x1, d1, y1, ka1, n1, kc1, ca1, m1, cc1⟩ := e1
        simp only at z0 z1
        simp only [Nat.zero_mul, Nat.add_zero] at z0
        simp only [Nat.one_mul] at z1
        by_cases h0 : k0 = 2
        · subst h0
          by_cases h1 : k1 = 2
          · subst h1
            go_wp2_with (go_at_call 72; refine (HSS.out _ (by (repeat (first | exact ext_refl _ | assumption | refine ext_alloc ?_ _ | refine ext_drew ?_ | refine ext_set ?_ (by simp) _ | refine ext_trans ?_ (by assumption))))).mono ?_; rintro r w2 ⟨rfl, hx⟩)
            go_ret
            refine ⟨_, rfl, fun hb => ⟨HK.out.symm, HKL.out, p, q, HKK.out, HK0.out.symm, HK1.out.symm, ?_, ?_⟩, ext_trans (ext_alloc (ext_refl _) _) hx⟩
            · rw [HKK.out] at hb
              simp only [scalarsT, List.all_cons, Bool.and_eq_true] at hb
              exact hb.1.1
            · rw [HKK.out] at hb
              simp only [scalarsT, List.all_cons, Bool.and_eq_true] at hb
              exact hb.1.2.1
          · go_wp2_with fail
            go_ret
            exact ⟨false, rfl, by simp, by (repeat (first | exact ext_refl _ | assumption | refine ext_alloc ?_ _ | refine ext_drew ?_ | refine ext_set ?_ (by simp) _ | refine ext_trans ?_ (by assumption)))⟩
        · go_wp2_with fail
          go_ret
          exact ⟨false, rfl, by simp, by (repeat (first | exact ext_refl _ | assumption | refine ext_alloc ?_ _ | refine ext_drew ?_ | refine ext_set ?_ (by simp) _ | refine ext_trans ?_ (by assumption)))⟩
      · have HM := Lib.hid hm
        go_wp2_with fail
        go_ret
        exact ⟨false, rfl, by simp, by (repeat (first | exact ext_refl _ | assumption | refine ext_alloc ?_ _ | refine ext_drew ?_ | refine ext_set ?_ (by simp) _ | refine ext_trans ?_ (by assumption)))⟩
    · go_wp2_with fail
      go_ret
      exact ⟨false, rfl, by simp, by (repeat (first | exact ext_refl _ | assumption | refine ext_alloc ?_ _ | refine ext_drew ?_ | refine ext_set ?_ (by simp) _ | refine ext_trans ?_ (by assumption)))⟩
  · go_wp2_with fail
    go_ret
    exact ⟨false, rfl, by simp, by (repeat (first | exact ext_refl _ | assumption | refine ext_alloc ?_ _ | refine ext_drew ?_ | refine ext_set ?_ (by simp) _ | refine ext_trans ?_ (by assumption)))⟩
/-- A value of one of more kinds. -/
def FitX (kind : ByteArray) (t : T) : Prop := FitP kind t ∨ (kind = ⟨#[117]⟩ ∧ (t.kind = 0 ∨ scalarT t = true)) ∨ (kind = ⟨#[112]⟩ ∧ PairP t)
theorem fit_atX {S : Nat → Prop} (kind : ByteArray) (e : El) (t : T) (w : World) (hk : kind = emptyS ∨ kind ∈ plainK ∨ kind = ⟨#[117]⟩ ∨ kind = ⟨#[112]⟩) (h : TreeAt S w e t) : Calls Tryz.prog 26 #[.string kind, e.val] w (Yes (FitX kind t) w) := by
  rcases hk with hk | hk | rfl | rfl
  · exact (fit_at kind e t w (.inl hk) h).mono fun r w' ⟨b, h1, h2, h3⟩ => ⟨b, h1, fun hb => .inl (h2 hb), h3⟩
  · exact (fit_at kind e t w (.inr hk) h).mono fun r w' ⟨b, h1, h2, h3⟩ => ⟨b, h1, fun hb => .inl (h2 hb), h3⟩
  · exact (fit_u e t w h).mono fun r w' ⟨b, h1, h2, h3⟩ => ⟨b, h1, fun hb => .inr (.inl ⟨rfl, h2 hb⟩), h3⟩
  · exact (fit_p e t w h).mono fun r w' ⟨b, h1, h2, h3⟩ => ⟨b, h1, fun hb => .inr (.inr ⟨rfl, h2 hb⟩), h3⟩
theorem kindL_memX {rs : List (ByteArray × ByteArray)} (h : ∀ r ∈ rs, r.2 ∈ plainK ∨ r.2 = ⟨#[117]⟩ ∨ r.2 = ⟨#[112]⟩) (name : ByteArray) : kindL rs name = emptyS ∨ kindL rs name ∈ plainK ∨ kindL rs name = ⟨#[117]⟩ ∨ kindL rs name = ⟨#[112]⟩ := by
  unfold kindL
  cases hf : rs.find? fun r => seq r.1 name with
  | none => left; rfl
  | some r => right; exact h r (List.mem_of_find?_eq_some hf)
set_option maxHeartbeats 1000000 in
theorem fits_gen {S : Nat → Prop} (FP : ByteArray → T → Prop) (bd : ByteArray) (rs : List (ByteArray × ByteArray)) (a : Option Addr) (n c : Nat) (ps : List (ByteArray × T)) (w : World) (hR : ∀ w, Calls Tryz.prog 73 #[.string bd] w fun r w' => ∃ v, r = .returned v ∧ Own2 w' w.heap.size v rs ∧ Ext w w')
    (hrs : ∀ (name : ByteArray) (e : El) (t : T) (w : World), TreeAt S w e t → Calls Tryz.prog 26 #[.string (kindL rs name), e.val] w (Yes (FP (kindL rs name) t) w)) (h : PairsAt S w a n c ps) : Calls Tryz.prog 9 #[.string bd, .slice a n c] w (Yes (∀ (i : Nat) (p : ByteArray × T), ps[i]? = some p → FP (kindL rs p.1) p.2) w) := by
  have HR := Lib.hid fun name w => kindIn_any bd name rs w hR
  have HRS := Lib.hid hrs
  obtain ⟨hl, hn, hm, hc⟩ := h
  unfold maxLen at hm
  have HL := Lib.hid hl
  clear hR hrs hl
  go_enter Tryz.func9, Tryz.ntmps9
  go_wp2_with fail
  go_loopw [5] (fun i wr => Ext w wr ∧ ∃ j : Nat, j ≤ n ∧ i = .int .i64 j ∧ ∀ (q : Nat) (p : ByteArray × T), q < j → ps[q]? = some p → FP (kindL rs p.1) p.2) (fun i _ => n - (intOf i).toNat)
  case atStart => exact ⟨ext_refl _, 0, Nat.zero_le _, rfl, fun q p h => by omega⟩
  case round =>
    obtain ⟨hx, j, hj, rfl, hq⟩ := hrel
    have HQ := Lib.hid hq
    clear hq
    by_cases hlt : j < n
    · obtain ⟨p, hp⟩ := some_of_lt HL.out hlt
      obtain ⟨b, off, g, rfl, hSb, hc7, hT⟩ := hc j p hp
      have HJ := Lib.hid hp
      have hc7 := Cells7.ext hx hc7
      have hT := hT.ext hx
      clear hp
      go_upto_region 4 with fail
      refine wp_region_order (fun w' => Cells7 w' b (off + j * 7) p.1 g) [0, 1, 2, 3, 4, 5, 7, 8, 9, 10, 11] [0, 1, 2, 3, 4, 5, 7, 8, 9, 10, 11, 6, 12, 13] (by kernel_rfl) (by kernel_rfl) (fun d _ _ _ _ h => by cases d <;> exact h) (by kernel_rfl) ?_
      have hS : Cells7 wr.drew b (off + j * 7) p.1 g := hc7
      iterate 11 (apply ord_held rfl rfl (by assumption) rfl; (focus ((intro w' hS'); go_simp; (try with_reducible rfl))); (try simp only [Act.put, List.setIfInBounds_toArray, List.set_cons_zero, List.set_cons_succ]))
      (apply ord_loud rfl rfl rfl; intro K hK; go_simp)
      refine (HR.out p.1 _).mono ?_
      rintro r w2 ⟨rfl, hx2⟩
      have hx3 : Ext wr w2 := ext_trans (ext_drew (ext_refl _)) hx2
      refine hK _ _ (fun _ => Cells7.ext hx3 hc7) ?_
      clear hK K
      (try simp only [Act.put, List.setIfInBounds_toArray, List.set_cons_zero, List.set_cons_succ])
      (apply ord_loud rfl rfl rfl; intro K hK; go_simp)
      refine (HRS.out p.1 g p.2 _ (hT.ext hx3)).mono ?_
      rintro r w3 ⟨v, rfl, hv, hx4⟩
      refine hK _ _ (fun _ => Cells7.ext (ext_trans hx3 hx4) hc7) ?_
      clear hK K
      (try simp only [Act.put, List.setIfInBounds_toArray, List.set_cons_zero, List.set_cons_succ])
      (apply ord_loud rfl rfl rfl; intro K hK; go_simp)
      refine hK _ _ (fun _ => Cells7.ext (ext_trans hx3 hx4) hc7) ?_
      clear hK K
      (try simp only [Act.put, List.setIfInBounds_toArray, List.set_cons_zero, List.set_cons_succ])
      refine ord_end ?_
      have hx5 : Ext w w3 := ext_trans hx (ext_trans hx3 hx4)
      have HV := Lib.hid hv
      clear hv hS
      cases v
      · go_wp2_with fail
        go_ret
        exact ⟨false, rfl, by simp, hx5⟩
      · go_wp2_with fail
        go_roundw
        case rel =>
          refine ⟨hx5, j + 1, by omega, by go_num, fun q u h1 h2 => ?_⟩
          by_cases hqj : q < j
          · exact HQ.out q u hqj h2
          · have hqe : q = j := by omega
            subst hqe
            rw [HJ.out] at h2
            cases h2
            exact HV.out rfl
        case measure => simp [intOf]; omega
    · go_wp2_with fail
      go_ret
      refine ⟨true, rfl, fun _ i p hi => HQ.out i p ?_ hi, hx⟩
      have := (List.getElem?_eq_some_iff.1 hi).1
      have := HL.out
      omega
end Go.Proofs.YtfngaoicoecncaaGreatDoor
