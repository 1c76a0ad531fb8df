/-
  The law of a range query: what the builder gives is what is told.
-/
import Derived.Test.YtocfoheckgdonaaGreatDoorZz
import Derived.Test.YtocfoheckgdonaaGreatDoorRg
import Derived.Test.YtocfoheckgdonaaGreatDoorLx
namespace Go.Proofs.YtocfoheckgdonaaGreatDoor
open Go.RowKit

set_option maxRecDepth 4000 in
set_option maxHeartbeats 800000 in
theorem fit_u {S : Nat → Prop} (e : El) (t : T) (w : World) (h : TreeAt S w e t) : Calls Tryz.prog 33 #[.string ⟨#[117]⟩, e.val] w (Yes (t.kind = 0 ∨ scalarT t = true) w) := by
  have hk := h.parts.1
  rw [← hk]
  clear hk
  obtain ⟨k, x, d, y, ka, n, kc, ca, m, cc⟩ := e
  have HS := Lib.hid (scal h)
  clear h
  generalize scalarT t = b at HS ⊢
  simp only [El.val]
  go_enter Tryz.func33, Tryz.ntmps33
  by_cases hk : k = 0
  · subst hk
    go_wp2_with fail
    go_ret
    exact ⟨true, rfl, fun _ => by simp, by (repeat (first | exact ext_refl _ | assumption | refine ext_alloc ?_ _ | refine ext_drew ?_ | refine ext_set ?_ (by simp) _ | refine ext_trans ?_ (by assumption)))⟩
  · go_wp2_with (go_at_call 11; refine (HS.out _ (by (repeat (first | exact ext_refl _ | assumption | refine ext_alloc ?_ _ | refine ext_drew ?_ | refine ext_set ?_ (by simp) _ | refine ext_trans ?_ (by assumption))))).mono ?_; rintro r w2 ⟨rfl, hx⟩)
    go_ret
    exact ⟨_, rfl, fun h => by simpa using h, ext_trans (ext_alloc (ext_refl _) _) hx⟩
/-- Two numbers. -/
def PairP (t : T) : Prop := t.kind = 4 ∧ t.keys.length = 0 ∧ ∃ p q : T, t.kids = [p, q] ∧ p.kind = 2 ∧ q.kind = 2 ∧ scalarT p = true ∧ scalarT q = true
set_option maxRecDepth 8000 in
set_option maxHeartbeats 2000000 in
theorem fit_p {S : Nat → Prop} (e : El) (t : T) (w : World) (h : TreeAt S w e t) : Calls Tryz.prog 33 #[.string ⟨#[112]⟩, e.val] w (Yes (PairP t) w) := by
  obtain ⟨hk, -, -, -, hs, hK⟩ := h.parts
  obtain ⟨k, x, d, y, ka, n, kc, ca, m, cc⟩ := e
  simp only at hk hs hK
  have hkl := hs.1
  have HSS := Lib.hid fun w' (xx : Ext w w') => scalars_any ca m cc t.kids w' (hK.ext xx)
  clear h
  simp only [El.val]
  have hb0 : Box (w.alloc (.cells #[.int .i64 k, .string x, .float .f64 d, .bool y, .slice ka n kc, .slice ca m cc] 26)) w.heap.size _ _ := Box.at rfl _ _
  go_enter Tryz.func33, Tryz.ntmps33
  by_cases h4 : k = 4
  · by_cases hn : n = 0
    · by_cases hm : m = 2
      · obtain ⟨p, hp⟩ := some_of_lt hK.1 (show 0 < m by omega)
        obtain ⟨q, hq⟩ := some_of_lt hK.1 (show 1 < m by omega)
        obtain ⟨b, off, e0, rfl, -, c0, hT0⟩ := hK.get hp
        obtain ⟨b', off', e1, ee, -, c1, hT1⟩ := hK.get hq
        cases ee
        have hkids : t.kids = [p, q] := by
          have hl := hK.1
          rw [hm] at hl
          match hh : t.kids, hl with
          | [a1, a2], _ => rw [hh] at hp hq; simp at hp hq; rw [hp, hq]
        have k0 := hT0.parts.1
        have k1 := hT1.parts.1
        obtain ⟨z0, -⟩ := c0
        obtain ⟨z1, -⟩ := c1
        have hbl : b < w.heap.size := lt_of_cell z0
        have HK0 := Lib.hid k0
        have HK1 := Lib.hid k1
        have HKK := Lib.hid hkids
        have HK := Lib.hid hk
        have HKL := Lib.hid hkl
        clear k0 k1 hkids hk hkl hp hq hT0 hT1 hs hK
        subst h4 hn hm
        obtain ⟨k0, x0, d0, y0, ka0, n0, kc0, ca0, m0, cc0⟩ := e0
        obtain ⟨k1, x1, d1, y1, ka1, n1, kc1, ca1, m1, cc1⟩ := e1
        simp only at z0 z1
        simp only [Nat.zero_mul, Nat.add_zero] at z0
        simp only [Nat.one_mul] at z1
        by_cases h0 : k0 = 2
        · subst h0
          by_cases h1 : k1 = 2
          · subst h1
            go_wp2_with (go_at_call 19; refine (HSS.out _ (by (repeat (first | exact ext_refl _ | assumption | refine ext_alloc ?_ _ | refine ext_drew ?_ | refine ext_set ?_ (by simp) _ | refine ext_trans ?_ (by assumption))))).mono ?_; rintro r w2 ⟨rfl, hx⟩)
            go_ret
            refine ⟨_, rfl, fun hb => ⟨HK.out.symm, HKL.out, p, q, HKK.out, HK0.out.symm, HK1.out.symm, ?_, ?_⟩, ext_trans (ext_alloc (ext_refl _) _) hx⟩
            · rw [HKK.out] at hb
              simp only [scalarsT, List.all_cons, Bool.and_eq_true] at hb
              exact hb.1.1
            · rw [HKK.out] at hb
              simp only [scalarsT, List.all_cons, Bool.and_eq_true] at hb
              exact hb.1.2.1
          · go_wp2_with fail
            go_ret
            exact ⟨false, rfl, by simp, by (repeat (first | exact ext_refl _ | assumption | refine ext_alloc ?_ _ | refine ext_drew ?_ | refine ext_set ?_ (by simp) _ | refine ext_trans ?_ (by assumption)))⟩
        · go_wp2_with fail
          go_ret
          exact ⟨false, rfl, by simp, by (repeat (first | exact ext_refl _ | assumption | refine ext_alloc ?_ _ | refine ext_drew ?_ | refine ext_set ?_ (by simp) _ | refine ext_trans ?_ (by assumption)))⟩
      · have HM := Lib.hid hm
        go_wp2_with fail
        go_ret
        exact ⟨false, rfl, by simp, by (repeat (first | exact ext_refl _ | assumption | refine ext_alloc ?_ _ | refine ext_drew ?_ | refine ext_set ?_ (by simp) _ | refine ext_trans ?_ (by assumption)))⟩
    · go_wp2_with fail
      go_ret
      exact ⟨false, rfl, by simp, by (repeat (first | exact ext_refl _ | assumption | refine ext_alloc ?_ _ | refine ext_drew ?_ | refine ext_set ?_ (by simp) _ | refine ext_trans ?_ (by assumption)))⟩
  · go_wp2_with fail
    go_ret
    exact ⟨false, rfl, by simp, by (repeat (first | exact ext_refl _ | assumption | refine ext_alloc ?_ _ | refine ext_drew ?_ | refine ext_set ?_ (by simp) _ | refine ext_trans ?_ (by assumption)))⟩
/-- A value of one of more kinds. -/
def FitX (kind : ByteArray) (t : T) : Prop := FitP kind t ∨ (kind = ⟨#[117]⟩ ∧ (t.kind = 0 ∨ scalarT t = true)) ∨ (kind = ⟨#[112]⟩ ∧ PairP t)
theorem fit_atX {S : Nat → Prop} (kind : ByteArray) (e : El) (t : T) (w : World) (hk : kind = emptyS ∨ kind ∈ plainK ∨ kind = ⟨#[117]⟩ ∨ kind = ⟨#[112]⟩) (h : TreeAt S w e t) : Calls Tryz.prog 33 #[.string kind, e.val] w (Yes (FitX kind t) w) := by
  rcases hk with hk | hk | rfl | rfl
  · exact (fit_at kind e t w (.inl hk) h).mono fun r w' ⟨b, h1, h2, h3⟩ => ⟨b, h1, fun hb => .inl (h2 hb), h3⟩
  · exact (fit_at kind e t w (.inr hk) h).mono fun r w' ⟨b, h1, h2, h3⟩ => ⟨b, h1, fun hb => .inl (h2 hb), h3⟩
  · exact (fit_u e t w h).mono fun r w' ⟨b, h1, h2, h3⟩ => ⟨b, h1, fun hb => .inr (.inl ⟨rfl, h2 hb⟩), h3⟩
  · exact (fit_p e t w h).mono fun r w' ⟨b, h1, h2, h3⟩ => ⟨b, h1, fun hb => .inr (.inr ⟨rfl, h2 hb⟩), h3⟩
theorem kindL_memX {rs : List (ByteArray × ByteArray)} (h : ∀ r ∈ rs, r.2 ∈ plainK ∨ r.2 = ⟨#[117]⟩ ∨ r.2 = ⟨#[112]⟩) (name : ByteArray) : kindL rs name = emptyS ∨ kindL rs name ∈ plainK ∨ kindL rs name = ⟨#[117]⟩ ∨ kindL rs name = ⟨#[112]⟩ := by
  unfold kindL
  cases hf : rs.find? fun r => seq r.1 name with
  | none => left; rfl
  | some r => right; exact h r (List.mem_of_find?_eq_some hf)
set_option maxHeartbeats 1000000 in
theorem fits_gen {S : Nat → Prop} (FP : ByteArray → T → Prop) (bd : ByteArray) (rs : List (ByteArray × ByteArray)) (a : Option Addr) (n c : Nat) (ps : List (ByteArray × T)) (w : World) (hR : ∀ w, Calls Tryz.prog 120 #[.string bd] w fun r w' => ∃ v, r = .returned v ∧ Own2 w' w.heap.size v rs ∧ Ext w w')
    (hrs : ∀ (name : ByteArray) (e : El) (t : T) (w : World), TreeAt S w e t → Calls Tryz.prog 33 #[.string (kindL rs name), e.val] w (Yes (FP (kindL rs name) t) w)) (h : PairsAt S w a n c ps) : Calls Tryz.prog 13 #[.string bd, .slice a n c] w (Yes (∀ (i : Nat) (p : ByteArray × T), ps[i]? = some p → FP (kindL rs p.1) p.2) w) := by
  have HR := Lib.hid fun name w => kindIn_any bd name rs w hR
  have HRS := Lib.hid hrs
  obtain ⟨hl, hn, hm, hc⟩ := h
  unfold maxLen at hm
  have HL := Lib.hid hl
  clear hR hrs hl
  go_enter Tryz.func13, Tryz.ntmps13
  go_wp2_with fail
  go_loopw [5] (fun i wr => Ext w wr ∧ ∃ j : Nat, j ≤ n ∧ i = .int .i64 j ∧ ∀ (q : Nat) (p : ByteArray × T), q < j → ps[q]? = some p → FP (kindL rs p.1) p.2) (fun i _ => n - (intOf i).toNat)
  case atStart => exact ⟨ext_refl _, 0, Nat.zero_le _, rfl, fun q p h => by omega⟩
  case round =>
    obtain ⟨hx, j, hj, rfl, hq⟩ := hrel
    have HQ := Lib.hid hq
    clear hq
    by_cases hlt : j < n
    · obtain ⟨p, hp⟩ := some_of_lt HL.out hlt
      obtain ⟨b, off, g, rfl, hSb, hc7, hT⟩ := hc j p hp
      have HJ := Lib.hid hp
      have hc7 := Cells7.ext hx hc7
      have hT := hT.ext hx
      clear hp
      go_upto_region 4 with fail
      refine wp_region_order (fun w' => Cells7 w' b (off + j * 7) p.1 g) [0, 1, 2, 3, 4, 5, 7, 8, 9, 10, 11] [0, 1, 2, 3, 4, 5, 7, 8, 9, 10, 11, 6, 12, 13] (by kernel_rfl) (by kernel_rfl) (fun d _ _ _ _ h => by cases d <;> exact h) (by kernel_rfl) ?_
      have hS : Cells7 wr.drew b (off + j * 7) p.1 g := hc7
      iterate 11 (apply ord_held rfl rfl (by assumption) rfl; (focus ((intro w' hS'); go_simp; (try with_reducible rfl))); (try simp only [Act.put, List.setIfInBounds_toArray, List.set_cons_zero, List.set_cons_succ]))
      (apply ord_loud rfl rfl rfl; intro K hK; go_simp)
      refine (HR.out p.1 _).mono ?_
      rintro r w2 ⟨rfl, hx2⟩
      have hx3 : Ext wr w2 := ext_trans (ext_drew (ext_refl _)) hx2
      refine hK _ _ (fun _ => Cells7.ext hx3 hc7) ?_
      clear hK K
      (try simp only [Act.put, List.setIfInBounds_toArray, List.set_cons_zero, List.set_cons_succ])
      (apply ord_loud rfl rfl rfl; intro K hK; go_simp)
      refine (HRS.out p.1 g p.2 _ (hT.ext hx3)).mono ?_
      rintro r w3 ⟨v, rfl, hv, hx4⟩
      refine hK _ _ (fun _ => Cells7.ext (ext_trans hx3 hx4) hc7) ?_
      clear hK K
      (try simp only [Act.put, List.setIfInBounds_toArray, List.set_cons_zero, List.set_cons_succ])
      (apply ord_loud rfl rfl rfl; intro K hK; go_simp)
      refine hK _ _ (fun _ => Cells7.ext (ext_trans hx3 hx4) hc7) ?_
      clear hK K
      (try simp only [Act.put, List.setIfInBounds_toArray, List.set_cons_zero, List.set_cons_succ])
      refine ord_end ?_
      have hx5 : Ext w w3 := ext_trans hx (ext_trans hx3 hx4)
      have HV := Lib.hid hv
      clear hv hS
      cases v
      · go_wp2_with fail
        go_ret
        exact ⟨false, rfl, by simp, hx5⟩
      · go_wp2_with fail
        go_roundw
        case rel =>
          refine ⟨hx5, j + 1, by omega, by go_num, fun q u h1 h2 => ?_⟩
          by_cases hqj : q < j
          · exact HQ.out q u hqj h2
          · have hqe : q = j := by omega
            subst hqe
            rw [HJ.out] at h2
            cases h2
            exact HV.out rfl
        case measure => simp [intOf]; omega
    · go_wp2_with fail
      go_ret
      refine ⟨true, rfl, fun _ i p hi => HQ.out i p ?_ hi, hx⟩
      have := (List.getElem?_eq_some_iff.1 hi).1
      have := HL.out
      omega
end Go.Proofs.YtocfoheckgdonaaGreatDoor

namespace Go.Proofs.YtocfoheckgdonaaGreatDoor
open Go.RowKit

theorem filt_keep {l : List (ByteArray × T)} {L : List ByteArray} (h : KeysIn l L) {k : ByteArray} (hk : (L.all fun y => !decide (y = k)) = true) : (l.filter fun p => !seq p.1 k) = l := List.filter_eq_self.2 fun p hp => by
  have h1 := List.all_eq_true.1 hk _ (h p hp)
  simp at h1
  rw [seq_false.2 h1]
  rfl
theorem filt_drop (k : ByteArray) (v : T) : (([(k, v)] : List (ByteArray × T)).filter fun p => !seq p.1 k) = [] := by simp [seq_self]
theorem last_one (k : ByteArray) (v : T) : lastOf [(k, v)] k = some v := by simp [lastOf, seq_self]
def cc (b u : T) (gte gt : ByteArray) : List (ByteArray × T) := if b.kind = 0 then [] else [(if (true && !u.yes) = true then gt else gte, b)]
theorem cc_keys (b u : T) (gte gt : ByteArray) : KeysIn (cc b u gte gt) [gte, gt] := fun p hp => by
  unfold cc at hp
  split at hp
  · simp at hp
  · simp at hp
    subst hp
    by_cases h : u.yes = false <;> simp [h]
theorem rsteps_list (x y u v : T) {TZ FM RE BO NA : List (ByteArray × T)} (hTZ : KeysIn TZ [s_time_zone]) (hFM : KeysIn FM [s_format]) (hRE : KeysIn RE [s_relation]) (hBO : KeysIn BO [s_boost]) (hNA : KeysIn NA [s_name]) :
    rsteps 2 ([(s_from, x)] ++ ([(s_to, y)] ++ (TZ ++ (FM ++ (RE ++ (BO ++ ([(s_include_lower, u)] ++ ([(s_include_upper, v)] ++ NA)))))))) = (TZ ++ (FM ++ (RE ++ (BO ++ NA)))) ++ cc x u s_gte s_gt ++ cc y v s_lte s_lt := by
  have l1 : lastOf ([(s_from, x)] ++ ([(s_to, y)] ++ (TZ ++ (FM ++ (RE ++ (BO ++ ([(s_include_lower, u)] ++ ([(s_include_upper, v)] ++ NA)))))))) s_from = some x := by
    simp only [lastOf_append]
    rw [(hNA).no (x := s_from) (by decide), (keys_one s_include_upper v).no (x := s_from) (by decide), (keys_one s_include_lower u).no (x := s_from) (by decide), (hBO).no (x := s_from) (by decide), (hRE).no (x := s_from) (by decide), (hFM).no (x := s_from) (by decide), (hTZ).no (x := s_from) (by decide), (keys_one s_to y).no (x := s_from) (by decide), last_one]
    rfl
  have l2 : lastOf ([(s_from, x)] ++ ([(s_to, y)] ++ (TZ ++ (FM ++ (RE ++ (BO ++ ([(s_include_lower, u)] ++ ([(s_include_upper, v)] ++ NA)))))))) s_include_lower = some u := by
    simp only [lastOf_append]
    rw [(hNA).no (x := s_include_lower) (by decide), (keys_one s_include_upper v).no (x := s_include_lower) (by decide), last_one, (hBO).no (x := s_include_lower) (by decide), (hRE).no (x := s_include_lower) (by decide), (hFM).no (x := s_include_lower) (by decide), (hTZ).no (x := s_include_lower) (by decide), (keys_one s_to y).no (x := s_include_lower) (by decide), (keys_one s_from x).no (x := s_include_lower) (by decide)]
    rfl
  have f1 : (([(s_from, x)] ++ ([(s_to, y)] ++ (TZ ++ (FM ++ (RE ++ (BO ++ ([(s_include_lower, u)] ++ ([(s_include_upper, v)] ++ NA)))))))).filter fun p => !seq p.1 s_from) = ([(s_to, y)] ++ (TZ ++ (FM ++ (RE ++ (BO ++ ([(s_include_lower, u)] ++ ([(s_include_upper, v)] ++ NA))))))) := by
    simp only [List.filter_append]
    rw [filt_drop, filt_keep (keys_one s_to y) (k := s_from) (by decide), filt_keep (hTZ) (k := s_from) (by decide), filt_keep (hFM) (k := s_from) (by decide), filt_keep (hRE) (k := s_from) (by decide), filt_keep (hBO) (k := s_from) (by decide), filt_keep (keys_one s_include_lower u) (k := s_from) (by decide), filt_keep (keys_one s_include_upper v) (k := s_from) (by decide), filt_keep (hNA) (k := s_from) (by decide)]
    simp only [List.nil_append, List.append_nil]
  have f2 : (([(s_to, y)] ++ (TZ ++ (FM ++ (RE ++ (BO ++ ([(s_include_lower, u)] ++ ([(s_include_upper, v)] ++ NA))))))).filter fun p => !seq p.1 s_include_lower) = ([(s_to, y)] ++ (TZ ++ (FM ++ (RE ++ (BO ++ ([(s_include_upper, v)] ++ NA)))))) := by
    simp only [List.filter_append]
    rw [filt_keep (keys_one s_to y) (k := s_include_lower) (by decide), filt_keep (hTZ) (k := s_include_lower) (by decide), filt_keep (hFM) (k := s_include_lower) (by decide), filt_keep (hRE) (k := s_include_lower) (by decide), filt_keep (hBO) (k := s_include_lower) (by decide), filt_drop, filt_keep (keys_one s_include_upper v) (k := s_include_lower) (by decide), filt_keep (hNA) (k := s_include_lower) (by decide)]
    simp only [List.nil_append, List.append_nil]
  have r1 : rstep s_from s_include_lower s_gte s_gt ([(s_from, x)] ++ ([(s_to, y)] ++ (TZ ++ (FM ++ (RE ++ (BO ++ ([(s_include_lower, u)] ++ ([(s_include_upper, v)] ++ NA)))))))) = ([(s_to, y)] ++ (TZ ++ (FM ++ (RE ++ (BO ++ ([(s_include_upper, v)] ++ (NA ++ cc x u s_gte s_gt))))))) := by
    unfold rstep
    rw [l1, l2, f1, f2]
    simp only [Option.isSome_some, Option.getD_some, List.append_assoc]
    rfl
  have l3 : lastOf ([(s_to, y)] ++ (TZ ++ (FM ++ (RE ++ (BO ++ ([(s_include_upper, v)] ++ (NA ++ cc x u s_gte s_gt))))))) s_to = some y := by
    simp only [lastOf_append]
    rw [(cc_keys x u s_gte s_gt).no (x := s_to) (by decide), (hNA).no (x := s_to) (by decide), (keys_one s_include_upper v).no (x := s_to) (by decide), (hBO).no (x := s_to) (by decide), (hRE).no (x := s_to) (by decide), (hFM).no (x := s_to) (by decide), (hTZ).no (x := s_to) (by decide), last_one]
    rfl
  have l4 : lastOf ([(s_to, y)] ++ (TZ ++ (FM ++ (RE ++ (BO ++ ([(s_include_upper, v)] ++ (NA ++ cc x u s_gte s_gt))))))) s_include_upper = some v := by
    simp only [lastOf_append]
    rw [(cc_keys x u s_gte s_gt).no (x := s_include_upper) (by decide), (hNA).no (x := s_include_upper) (by decide), last_one, (hBO).no (x := s_include_upper) (by decide), (hRE).no (x := s_include_upper) (by decide), (hFM).no (x := s_include_upper) (by decide), (hTZ).no (x := s_include_upper) (by decide), (keys_one s_to y).no (x := s_include_upper) (by decide)]
    rfl
  have f3 : (([(s_to, y)] ++ (TZ ++ (FM ++ (RE ++ (BO ++ ([(s_include_upper, v)] ++ (NA ++ cc x u s_gte s_gt))))))).filter fun p => !seq p.1 s_to) = (TZ ++ (FM ++ (RE ++ (BO ++ ([(s_include_upper, v)] ++ (NA ++ cc x u s_gte s_gt)))))) := by
    simp only [List.filter_append]
    rw [filt_drop, filt_keep (hTZ) (k := s_to) (by decide), filt_keep (hFM) (k := s_to) (by decide), filt_keep (hRE) (k := s_to) (by decide), filt_keep (hBO) (k := s_to) (by decide), filt_keep (keys_one s_include_upper v) (k := s_to) (by decide), filt_keep (hNA) (k := s_to) (by decide), filt_keep (cc_keys x u s_gte s_gt) (k := s_to) (by decide)]
    simp only [List.nil_append, List.append_nil]
  have f4 : ((TZ ++ (FM ++ (RE ++ (BO ++ ([(s_include_upper, v)] ++ (NA ++ cc x u s_gte s_gt)))))).filter fun p => !seq p.1 s_include_upper) = (TZ ++ (FM ++ (RE ++ (BO ++ (NA ++ cc x u s_gte s_gt))))) := by
    simp only [List.filter_append]
    rw [filt_keep (hTZ) (k := s_include_upper) (by decide), filt_keep (hFM) (k := s_include_upper) (by decide), filt_keep (hRE) (k := s_include_upper) (by decide), filt_keep (hBO) (k := s_include_upper) (by decide), filt_drop, filt_keep (hNA) (k := s_include_upper) (by decide), filt_keep (cc_keys x u s_gte s_gt) (k := s_include_upper) (by decide)]
    simp only [List.nil_append, List.append_nil]
  show rstep s_to s_include_upper s_lte s_lt (rstep s_from s_include_lower s_gte s_gt _) = _
  rw [r1]
  unfold rstep
  rw [l3, l4, f3, f4]
  simp only [Option.isSome_some, Option.getD_some, List.append_assoc]
  rfl

/-- The settings of a range query fit. -/
def FitsR (ps : List (ByteArray × T)) : Prop := ∀ (i : Nat) (p : ByteArray × T), ps[i]? = some p → FitX (kindL rRange p.1) p.2
theorem last_filterK {α : Type} (f : ByteArray → Bool) (l : List (ByteArray × α)) (k : ByteArray) : lastOf (l.filter fun p => f p.1) k = if f k = true then lastOf l k else none := by
  induction l with
  | nil => simp [lastOf]
  | cons p r ih =>
    by_cases hp : f p.1 = true
    · rw [List.filter_cons_of_pos (p := fun q : ByteArray × α => f q.1) hp, lastOf_cons, lastOf_cons, ih]
      by_cases hk : f k = true
      · rw [if_pos hk, if_pos hk]
      · rw [if_neg hk, if_neg hk, seq_false.2 (fun e => hk (by rw [← e]; exact hp))]
        simp
    · rw [List.filter_cons_of_neg (p := fun q : ByteArray × α => f q.1) hp, ih, lastOf_cons]
      by_cases hk : f k = true
      · rw [if_pos hk, if_pos hk, seq_false.2 (fun e => hp (by rw [e]; exact hk))]
        simp
      · rw [if_neg hk, if_neg hk]
def notU (k : ByteArray) : Bool := !decide (kindL rRange k = ⟨#[117]⟩) && !decide (kindL rRange k = ⟨#[112]⟩)
theorem fitsR_P {ps : List (ByteArray × T)} (h : FitsR ps) : FitsP rRange (ps.filter fun p => notU p.1) := fun i p hp => by
  have hm := List.mem_filter.1 (List.mem_of_getElem? hp)
  obtain ⟨j, hj⟩ := List.getElem?_of_mem hm.1
  have hn := hm.2
  unfold notU at hn
  simp only [Bool.and_eq_true, Bool.not_eq_true', decide_eq_false_iff_not] at hn
  rcases h j p hj with h1 | h1 | h1
  · exact h1
  · exact absurd h1.1 hn.1
  · exact absurd h1.1 hn.2
theorem last_notU (ps : List (ByteArray × T)) {k : ByteArray} (hk : notU k = true) : lastOf (ps.filter fun p => notU p.1) k = lastOf ps k := by rw [last_filterK, if_pos hk]
theorem param_notU (ps : List (ByteArray × T)) {k : ByteArray} (hk : notU k = true) (kd : ByteArray) : param (ps.filter fun p => notU p.1) (k, kd) = param ps (k, kd) := by
  unfold param
  rw [last_notU ps hk]
theorem fitsR_U {ps : List (ByteArray × T)} (h : FitsR ps) {k : ByteArray} (hk : kindL rRange k = ⟨#[117]⟩) {p : ByteArray × T} (hp : p ∈ ps) (he : seq p.1 k = true) : p.2.kind = 0 ∨ scalarT p.2 = true := by
  obtain ⟨j, hj⟩ := List.getElem?_of_mem hp
  have h1 := h j p hj
  rw [seq_iff.1 he, hk] at h1
  rcases h1 with ⟨-, h1 | h1 | h1 | h1 | h1⟩ | h1 | h1
  · exact absurd h1.1 (by decide)
  · exact absurd h1.1 (by decide)
  · exact absurd h1.1 (by decide)
  · exact absurd h1.1 (by decide)
  · exact absurd h1 (by decide)
  · exact h1.2
  · exact absurd h1.1 (by decide)
theorem bound_in {a b c : ByteArray} : ∀ (n : Nat) (ps : List (ByteArray × T)) (t : T), bound a b c (ps.take n) = some t → ∃ p ∈ ps, (p.1 = a ∨ p.1 = b ∨ p.1 = c) ∧ p.2 = t
  | 0, ps, t, h => by simp [bound] at h
  | n + 1, ps, t, h => by
    cases hp : ps[n]? with
    | none =>
      have : ps.take (n + 1) = ps.take n := by
        have := List.getElem?_eq_none_iff.1 hp
        rw [List.take_of_length_le (by omega), List.take_of_length_le (by omega)]
      rw [this] at h
      exact bound_in n ps t h
    | some p =>
      rw [bound_snoc hp] at h
      by_cases h1 : p.1 = a
      · rw [if_pos h1] at h
        exact ⟨p, List.mem_of_getElem? hp, .inl h1, by simpa using h⟩
      · rw [if_neg h1] at h
        by_cases h2 : p.1 = b
        · rw [if_pos h2] at h
          exact ⟨p, List.mem_of_getElem? hp, .inr (.inl h2), by simpa using h⟩
        · rw [if_neg h2] at h
          by_cases h3 : p.1 = c
          · rw [if_pos h3] at h
            exact ⟨p, List.mem_of_getElem? hp, .inr (.inr h3), by simpa using h⟩
          · rw [if_neg h3] at h
            exact bound_in n ps t h
theorem bound_fit {ps : List (ByteArray × T)} (h : FitsR ps) {a b c : ByteArray} (ha : kindL rRange a = ⟨#[117]⟩) (hb : kindL rRange b = ⟨#[117]⟩) (hc : kindL rRange c = ⟨#[117]⟩) : ((bound a b c ps).getD nullT).kind = 0 ∨ scalarT ((bound a b c ps).getD nullT) = true := by
  cases ho : bound a b c ps with
  | none => exact .inl rfl
  | some t =>
    obtain ⟨p, hp, hk, rfl⟩ := bound_in ps.length ps t (by rw [List.take_length]; exact ho)
    rcases hk with hk | hk | hk
    · exact fitsR_U h ha hp (seq_iff.2 hk)
    · exact fitsR_U h hb hp (seq_iff.2 hk)
    · exact fitsR_U h hc hp (seq_iff.2 hk)
theorem jU_kind (o : Option T) : ((treeJ (jU o)).kind = 0 ↔ (o.getD nullT).kind = 0) ∧ ((o.getD nullT).kind ≠ 0 → treeJ (jU o) = treeJ (jOf (o.getD nullT))) := by
  cases o with
  | none => exact ⟨by simp [jU, treeJ, nullT, T.kind], fun h => absurd rfl h⟩
  | some t =>
    by_cases h : t.kind = 0
    · have hj : jU (some t) = .null := by show (if t.kind = 0 then J.null else jOf t) = _; rw [if_pos h]
      rw [hj]
      exact ⟨⟨fun _ => h, fun _ => rfl⟩, fun h2 => absurd h h2⟩
    · refine ⟨?_, fun _ => by simp [jU, h]⟩
      simp only [jU, if_neg h, Option.getD_some]
      exact ⟨fun e => absurd e (jOf_kind t), fun e => absurd e h⟩
theorem cc_same {ps : List (ByteArray × T)} {fr gt gte inc : ByteArray} (hb : ((bound fr gt gte ps).getD nullT).kind = 0 ∨ scalarT ((bound fr gt gte ps).getD nullT) = true) : SameL (cc (treeJ (jU (bound fr gt gte ps))) (treeJ (J.yes (incl gt gte inc ps))) gte gt) (rb fr gt gte inc ps) := by
  unfold cc rb
  obtain ⟨h1, h2⟩ := jU_kind (bound fr gt gte ps)
  by_cases hz : ((bound fr gt gte ps).getD nullT).kind = 0
  · rw [if_pos (h1.2 hz), if_pos hz]
    exact SameL.nil
  · rw [if_neg (fun e => hz (h1.1 e)), if_neg hz, h2 hz]
    have hk : (if (true && !(treeJ (J.yes (incl gt gte inc ps))).yes) = true then gt else gte) = if incl gt gte inc ps = true then gte else gt := by
      cases incl gt gte inc ps <;> rfl
    rw [hk]
    exact SameL.one _ (jOf_same (hb.resolve_left hz))
abbrev range_A (ps : List (ByteArray × T)) : List (ByteArray × J) := [(s_from, jU (bound s_from s_gt s_gte ps))] ++ [(s_to, jU (bound s_to s_lt s_lte ps))] ++ jT s_time_zone (lastOf ps s_time_zone) ++ jT s_format (lastOf ps s_format) ++ jT s_relation (lastOf ps s_relation) ++ jN s_boost (lastOf ps s_boost) ++ [(s_include_lower, J.yes (incl s_gt s_gte s_include_lower ps))] ++ [(s_include_upper, J.yes (incl s_lt s_lte s_include_upper ps))]
abbrev range_R (ps : List (ByteArray × T)) : List (ByteArray × J) := jT s_name (lastOf ps s_name)
theorem range_list {ps : List (ByteArray × T)} (hF : FitsR ps) : SameL (rsteps 2 (jTree (range_A ps) ++ jTree (range_R ps))) (rbs 2 ((paramsL rRange ps).filter fun p => !hasS inUp p.1) ps) := by
  have hM : rsteps 2 (jTree (range_A ps) ++ jTree (range_R ps)) = (jTree (jT s_time_zone (lastOf ps s_time_zone)) ++ (jTree (jT s_format (lastOf ps s_format)) ++ (jTree (jT s_relation (lastOf ps s_relation)) ++ (jTree (jN s_boost (lastOf ps s_boost)) ++ jTree (jT s_name (lastOf ps s_name)))))) ++ cc (treeJ (jU (bound s_from s_gt s_gte ps))) (treeJ (J.yes (incl s_gt s_gte s_include_lower ps))) s_gte s_gt ++ cc (treeJ (jU (bound s_to s_lt s_lte ps))) (treeJ (J.yes (incl s_lt s_lte s_include_upper ps))) s_lte s_lt := by
    rw [← rsteps_list _ _ _ _ (keys_T _ _) (keys_T _ _) (keys_T _ _) (keys_N _ _) (keys_T _ _)]
    congr 1
    simp only [range_A, range_R, jTree, List.map_append, List.map_cons, List.map_nil, List.append_assoc]
  rw [hM]
  have hB : rbs 2 ((paramsL rRange ps).filter fun p => !hasS inUp p.1) ps = ((paramsL rRange ps).filter fun p => !hasS inUp p.1) ++ rb s_from s_gt s_gte s_include_lower ps ++ rb s_to s_lt s_lte s_include_upper ps := rfl
  rw [hB]
  refine SameL.append (SameL.append ?_ (cc_same (bound_fit hF (by rw [kindL_dec]; decide) (by rw [kindL_dec]; decide) (by rw [kindL_dec]; decide)))) (cc_same (bound_fit hF (by rw [kindL_dec]; decide) (by rw [kindL_dec]; decide) (by rw [kindL_dec]; decide)))
  let chs : Nat → Ch := fun i => match i with
    | 0 => (s_time_zone, (param ps (s_time_zone, ⟨#[116]⟩)).toList)
    | 1 => (s_format, (param ps (s_format, ⟨#[116]⟩)).toList)
    | 2 => (s_relation, (param ps (s_relation, ⟨#[116]⟩)).toList)
    | 3 => (s_boost, (param ps (s_boost, ⟨#[110]⟩)).toList)
    | 4 => (s_name, (param ps (s_name, ⟨#[116]⟩)).toList)
    | _ => (emptyS, [])
  have h0 : SameL (jTree (jT s_time_zone (lastOf ps s_time_zone)) ++ (jTree (jT s_format (lastOf ps s_format)) ++ (jTree (jT s_relation (lastOf ps s_relation)) ++ (jTree (jN s_boost (lastOf ps s_boost)) ++ jTree (jT s_name (lastOf ps s_name)))))) ((param ps (s_time_zone, ⟨#[116]⟩)).toList ++ ((param ps (s_format, ⟨#[116]⟩)).toList ++ ((param ps (s_relation, ⟨#[116]⟩)).toList ++ ((param ps (s_boost, ⟨#[110]⟩)).toList ++ ((param ps (s_name, ⟨#[116]⟩)).toList))))) := SameL.append (by have := jT_same (fitsR_P hF) (k := s_time_zone) (by rw [kindL_dec]; decide); rwa [last_notU ps (by unfold notU; rw [kindL_dec]; decide), param_notU ps (by unfold notU; rw [kindL_dec]; decide)] at this) (SameL.append (by have := jT_same (fitsR_P hF) (k := s_format) (by rw [kindL_dec]; decide); rwa [last_notU ps (by unfold notU; rw [kindL_dec]; decide), param_notU ps (by unfold notU; rw [kindL_dec]; decide)] at this) (SameL.append (by have := jT_same (fitsR_P hF) (k := s_relation) (by rw [kindL_dec]; decide); rwa [last_notU ps (by unfold notU; rw [kindL_dec]; decide), param_notU ps (by unfold notU; rw [kindL_dec]; decide)] at this) (SameL.append (by have := jN_same (fitsR_P hF) (k := s_boost) (by rw [kindL_dec]; decide); rwa [last_notU ps (by unfold notU; rw [kindL_dec]; decide), param_notU ps (by unfold notU; rw [kindL_dec]; decide)] at this) ((by have := jT_same (fitsR_P hF) (k := s_name) (by rw [kindL_dec]; decide); rwa [last_notU ps (by unfold notU; rw [kindL_dec]; decide), param_notU ps (by unfold notU; rw [kindL_dec]; decide)] at this)))))
  have h1 := SameL.reorder (f := chs) [0, 1, 2, 3, 4] [3, 1, 2, 0, 4] (by decide) (show [s_time_zone, s_format, s_relation, s_boost, s_name].Nodup by decide) (by intro c hc; simp only [List.map_cons, List.map_nil, List.mem_cons, List.not_mem_nil, or_false] at hc; rcases hc with rfl | rfl | rfl | rfl | rfl <;> exact keys_param _ _) (by simpa only [chs, flatC, List.map_cons, List.map_nil, List.flatMap_cons, List.flatMap_nil, List.append_nil, List.append_assoc] using h0)
  have hU : ∀ (k : ByteArray), param ps (k, (⟨#[117]⟩ : ByteArray)) = none := fun k => by
    unfold param
    rw [if_neg (by simp [plainK, hasS, seq_false.2])]
  have hpk : ((paramsL rRange ps).filter fun p => !hasS inUp p.1) = (param ps (s_boost, ⟨#[110]⟩)).toList ++ (param ps (s_format, ⟨#[116]⟩)).toList ++ (param ps (s_relation, ⟨#[116]⟩)).toList ++ (param ps (s_time_zone, ⟨#[116]⟩)).toList ++ (param ps (s_name, ⟨#[116]⟩)).toList := by
    rw [params_cons, params_cons, params_cons, params_cons, params_cons, params_cons, params_cons, params_cons, params_cons, params_cons, params_cons, params_cons, params_cons, params_nil]
    simp only [hU, Option.toList_none, List.nil_append, List.append_nil, List.filter_append]
    have hk1 : ∀ (k kd : ByteArray), hasS inUp k = true → ((param ps (k, kd)).toList.filter fun p => !hasS inUp p.1) = [] := fun k kd h => List.filter_eq_nil_iff.2 fun p hp => by have := keys_param ps (k, kd) p hp; simp at this; rw [this, h]; simp
    have hk2 : ∀ (k kd : ByteArray), hasS inUp k = false → ((param ps (k, kd)).toList.filter fun p => !hasS inUp p.1) = (param ps (k, kd)).toList := fun k kd h => List.filter_eq_self.2 fun p hp => by have := keys_param ps (k, kd) p hp; simp at this; rw [this, h]; rfl
    rw [hk1 _ _ (by simp [hasS, seq_self]), hk1 _ _ (by simp [hasS, seq_self]), hk2 s_boost _ (by simp [hasS, seq_false.2 (show s_include_lower ≠ s_boost by decide), seq_false.2 (show s_include_upper ≠ s_boost by decide)]), hk2 s_format _ (by simp [hasS, seq_false.2 (show s_include_lower ≠ s_format by decide), seq_false.2 (show s_include_upper ≠ s_format by decide)]), hk2 s_relation _ (by simp [hasS, seq_false.2 (show s_include_lower ≠ s_relation by decide), seq_false.2 (show s_include_upper ≠ s_relation by decide)]), hk2 s_time_zone _ (by simp [hasS, seq_false.2 (show s_include_lower ≠ s_time_zone by decide), seq_false.2 (show s_include_upper ≠ s_time_zone by decide)]), hk2 s_name _ (by simp [hasS, seq_false.2 (show s_include_lower ≠ s_name by decide), seq_false.2 (show s_include_upper ≠ s_name by decide)])]
    simp only [List.nil_append, List.append_assoc]
  rw [hpk]
  refine (show SameL _ _ from ?_)
  simpa only [chs, flatC, List.map_cons, List.map_nil, List.flatMap_cons, List.flatMap_nil, List.append_nil, List.append_assoc, List.cons_append, List.nil_append] using h1
theorem range_keys (ps : List (ByteArray × T)) : KeysIn (jTree (range_A ps) ++ jTree (range_R ps)) [s_from, s_to, s_time_zone, s_format, s_relation, s_boost, s_include_lower, s_include_upper, s_name] := by
  have h : KeysIn (jTree (range_A ps) ++ jTree (range_R ps)) ([s_from] ++ ([s_to] ++ ([s_time_zone] ++ ([s_format] ++ ([s_relation] ++ ([s_boost] ++ ([s_include_lower] ++ ([s_include_upper] ++ [s_name])))))))) := by
    unfold range_A range_R jTree
    simp only [List.map_append, List.append_assoc]
    exact KeysIn.append (keys_one _ _) (KeysIn.append (keys_one _ _) (KeysIn.append (keys_T _ _) (KeysIn.append (keys_T _ _) (KeysIn.append (keys_T _ _) (KeysIn.append (keys_N _ _) (KeysIn.append (keys_one _ _) (KeysIn.append (keys_one _ _) (keys_T _ _))))))))
  exact h
theorem jU_flat (o : Option T) : (treeJ (jU o)).kind ≠ 5 := by
  cases o with
  | none => simp [jU, treeJ, nullT, T.kind]
  | some t =>
    unfold jU
    dsimp only
    split
    · simp [treeJ, nullT, T.kind]
    · exact jOf_flat t
theorem range_nomap (ps : List (ByteArray × T)) : ∀ p ∈ jTree (range_A ps) ++ jTree (range_R ps), p.2.kind ≠ 5 := fun p hp => by
  rcases List.mem_append.1 hp with hp | hp
  · exact (NoMap.append (NoMap.append (NoMap.append (NoMap.append (NoMap.append (NoMap.append (NoMap.append (noMap_J _ _ (jU_flat _)) (noMap_J _ _ (jU_flat _))) (noMap_T _ _)) (noMap_T _ _)) (noMap_T _ _)) (noMap_N _ _)) (noMap_J _ _ (by simp [treeJ, yesT, T.kind]))) (noMap_J _ _ (by simp [treeJ, yesT, T.kind])) : NoMap (range_A ps)) p hp
  · exact noMap_T _ _ p hp
theorem range_len (ps : List (ByteArray × T)) : (jTree (range_A ps)).length + (jTree (range_R ps)).length ≤ 100 := by
  have h1 := jT_len s_time_zone (lastOf ps s_time_zone)
  have h2 := jT_len s_format (lastOf ps s_format)
  have h3 := jT_len s_relation (lastOf ps s_relation)
  have h4 := jN_len s_boost (lastOf ps s_boost)
  have h5 := jT_len s_name (lastOf ps s_name)
  simp only [range_A, range_R, List.length_map, List.length_append, List.length_cons, List.length_nil]
  omega
theorem rangeJ_tree (f : ByteArray) (ps : List (ByteArray × T)) : treeJ (rangeJ f ps) = mapT [(s_range, mapT ((f, treeJ (jMap (range_A ps))) :: jTree (range_R ps)))] := by
  unfold rangeJ
  rw [treeJ_jMap, List.map_cons, List.map_nil, treeJ_jMap, List.map_append, List.map_cons, List.map_nil]
  rfl
end Go.Proofs.YtocfoheckgdonaaGreatDoor

namespace Go.Proofs.YtocfoheckgdonaaGreatDoor
open Go.RowKit

set_option maxRecDepth 20000 in
theorem rows_range (w : World) : Calls Tryz.prog 120 #[.string sRange] w fun r w' => ∃ v, r = .returned v ∧ Own2 w' w.heap.size v rRange ∧ Ext w w' :=
  rows_any sRange tRange w table_range 16 (by decide) (by decide)
theorem fitsR_UT {ps : List (ByteArray × T)} (h : FitsR ps) : ∀ p ∈ ps, seq p.1 s_from = true ∨ seq p.1 s_to = true ∨ seq p.1 s_gt = true ∨ seq p.1 s_gte = true ∨ seq p.1 s_lt = true ∨ seq p.1 s_lte = true → UT p.2 := fun p hp hk => by
  have h1 : p.2.kind = 0 ∨ scalarT p.2 = true := by
    rcases hk with e | e | e | e | e | e <;> exact fitsR_U h (by rw [kindL_dec]; decide) hp e
  exact h1.imp id fun h2 => scalar_kind h2
theorem range_akeys (ps : List (ByteArray × T)) : KeysIn (jTree (range_A ps)) [s_from, s_to, s_time_zone, s_format, s_relation, s_boost, s_include_lower, s_include_upper, s_name] := fun p hp => range_keys ps p (List.mem_append_left _ hp)
set_option maxHeartbeats 4000000 in
theorem range_law {S : Nat → Prop} (f : ByteArray) (a : Option Addr) (n c : Nat) (ps : List (ByteArray × T)) (w : World) (h : PairsAt S w a n c ps) : Calls Tryz.prog 8 #[.string f, .slice a n c] w fun r w' => r = .returned (.bool true) ∧ Ext w w' := by
  have hnl := Nat.le_trans h.2.1 h.2.2.1
  unfold maxLen at hnl
  have hPs := Lib.hid fun w' (x : Ext w w') => (h.keep (S' := fun _ => True) (fun _ _ _ => trivial) (fun _ _ _ => rfl)).ext x
  have hF := Lib.hid fun w' (x : Ext w w') => fits_gen FitX sRange rRange a n c ps w' rows_range (fun name e t w h => fit_atX _ e t w (kindL_memX (by simp [plainK]) name) h) (h.ext x)
  have hQ := Lib.hid fun w' (x : Ext w w') (hf_le : f.size ≤ maxLen) (hff : FitsR ps) => range_any a n c ps w' f hf_le (fitsR_UT hff) (h.ext x)
  clear h
  go_enter Tryz.func8, Tryz.ntmps8
  by_cases hsz0 : 2147483647 < f.size
  · go_wp2_with fail
    all_goals (go_ret; exact ⟨rfl, by (repeat (first | exact ext_refl _ | assumption | refine ext_alloc ?_ _ | refine ext_drew ?_ | refine ext_set ?_ (by simp) _ | refine ext_trans ?_ (by assumption)))⟩)
  · skip
    by_cases hsz2 : 2147483647 < n
    · go_wp2_with fail
      all_goals (go_ret; exact ⟨rfl, by (repeat (first | exact ext_refl _ | assumption | refine ext_alloc ?_ _ | refine ext_drew ?_ | refine ext_set ?_ (by simp) _ | refine ext_trans ?_ (by assumption)))⟩)
    · skip
      go_wp2_with (first
        | (go_at_call 12; refine (field_any f (by omega) _).mono ?_; rintro r wfdf ⟨bfdf, rfl, hfdf, hxfdf⟩; have Hfdf := Lib.hid hfdf; clear hfdf; cases bfdf)
        | (go_at_call 13; refine (hF.out _ (by (repeat (first | exact ext_refl _ | assumption | refine ext_alloc ?_ _ | refine ext_drew ?_ | refine ext_set ?_ (by simp) _ | refine ext_trans ?_ (by assumption))))).mono ?_; rintro r wff ⟨bff, rfl, hff, hxff⟩; have Hff := Lib.hid hff; clear hff; cases bff))
      all_goals (try (go_ret; exact ⟨rfl, by (repeat (first | exact ext_refl _ | assumption | refine ext_alloc ?_ _ | refine ext_drew ?_ | refine ext_set ?_ (by simp) _ | refine ext_trans ?_ (by assumption)))⟩))
      have hff : FitsR ps := Hff.out (by trivial)
      have HFF := Lib.hid hff
      have hfd := Hfdf.out (by trivial)
      have HFD := Lib.hid hfd
      have hfit := Lib.hid (same_one s_range (same_one f (sameT_map (range_list hff))))
      have hx0 : Ext w wff := by (repeat (first | exact ext_refl _ | assumption | refine ext_alloc ?_ _ | refine ext_drew ?_ | refine ext_set ?_ (by simp) _ | refine ext_trans ?_ (by assumption)))
      have hx1 : Ext w wff := by (repeat (first | exact ext_refl _ | assumption | refine ext_alloc ?_ _ | refine ext_drew ?_ | refine ext_set ?_ (by simp) _ | refine ext_trans ?_ (by assumption)))
      refine (hQ.out wff hx1 (by unfold maxLen; omega) hff).mono ?_
      clear hff hfd
      rintro r w3 ⟨e, rfl, hT, hx3⟩
      simp only [El.val]
      go_upto_region 6 with fail
      have hb3 : Box (w3.alloc (.cells e.arr 26)) w3.heap.size e.arr 26 := Box.at rfl _ _
      have hxa := ext_alloc (ext_trans hx0 hx3) (.cells e.arr 26)
      have hxb : Ext w (w3.alloc (.cells e.arr 26)) := ext_alloc (ext_trans hx1 hx3) _
      rw [rangeJ_tree] at hT
      have hT3 := Lib.hid (hT.ext (ext_alloc (ext_refl w3) (.cells e.arr 26)))
      clear hT
      generalize w3.alloc (.cells e.arr 26) = w4 at hb3 hxa hxb hT3 ⊢
      generalize w3.heap.size = b3 at hb3 ⊢
      have tk4 := trivial
      have tk7 := trivial
      have tk10 := trivial
      obtain ⟨o0, o1, o2, o3, o4, o5⟩ := hb3.six
      go_wp2_with (first
        | (go_at_call 26; have _t := tk4; clear _t tk4
           refine (readRange_any f _ (jTree (range_A ps)) (jTree (range_R ps)) e _ hT3.out (map_own _ _) ((range_akeys ps).no (by decide)) (field_ne HFD.out (by decide)) (field_ne HFD.out (by decide)) (fun p hp => .inl (by simpa using keys_T _ _ p hp)) (by omega) (fun p hp => ⟨keys_size (range_keys ps) (by decide) p hp, range_nomap ps p hp⟩) (by have := range_len ps; omega) (flat_of (range_nomap ps) (range_keys ps) (by decide))).mono ?_
           rintro r wr ⟨gr, rfl, hTr, hxr⟩
           try simp only [El.val]
           have hb3_wr := hb3.ext (hxr)
           obtain ⟨o0, o1, o2, o3, o4, o5⟩ := hb3_wr.six)
        | (go_at_call 27; have _t := tk7; clear _t tk7
           refine (rangeSpec_any (S := fun _ => True) f a n c ps _ (hPs.out _ (ext_trans hxb hxr))).mono ?_
           rintro r wb ⟨gb, rfl, hTb, hxbb⟩
           try simp only [El.val]
           have hb3_wb := hb3.ext (ext_trans hxr hxbb)
           obtain ⟨o0, o1, o2, o3, o4, o5⟩ := hb3_wb.six)
        | (go_at_call 15; have _t := tk10; clear _t tk10
           refine (same_any (S := fun _ => True) _ _ gr gb _ (hTr.ext hxbb) (hTb.any)).mono ?_
           rintro r ws ⟨rfl, hxs⟩
           try simp only [El.val]
           rw [hfit.out]
           have hb3_ws := hb3.ext (ext_trans (ext_trans hxr hxbb) hxs)
           obtain ⟨o0, o1, o2, o3, o4, o5⟩ := hb3_ws.six))
      go_ret
      exact ⟨rfl, ext_trans hxb (ext_trans (ext_trans hxr hxbb) hxs)⟩
end Go.Proofs.YtocfoheckgdonaaGreatDoor

