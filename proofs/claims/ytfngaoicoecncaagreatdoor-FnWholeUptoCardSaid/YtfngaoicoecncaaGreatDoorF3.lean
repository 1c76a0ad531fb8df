/-
  Whether a text can be the name of a field.
-/
import Derived.Test.YtfngaoicoecncaaGreatDoorP5
import Derived.Test.YtfngaoicoecncaaGreatDoorW1
import Derived.Test.YtfngaoicoecncaaGreatDoorW4
import Derived.Test.YtfngaoicoecncaaGreatDoorFl
import Derived.Test.YtfngaoicoecncaaGreatDoorDraw
namespace Go.Proofs.YtfngaoicoecncaaGreatDoor
open Go.RowKit

theorem scal {S : Nat → Prop} {k : Int} {x : ByteArray} {d : Nat} {y : Bool} {ka : Option Addr} {n kc : Nat} {ca : Option Addr} {m cc : Nat} {t : T} {w : World} (h : TreeAt S w ⟨k, x, d, y, ka, n, kc, ca, m, cc⟩ t) :
    ∀ w', Ext w w' → Calls Tryz.prog 7 #[.agg #[.int .i64 k, .string x, .float .f64 d, .bool y, .slice ka n kc, .slice ca m cc]] w' fun r w'' => r = .returned (.bool (scalarT t)) ∧ Ext w' w'' :=
  fun w' z => scalar_any ⟨k, x, d, y, ka, n, kc, ca, m, cc⟩ t w' (h.ext z)

set_option maxRecDepth 4000 in
set_option maxHeartbeats 400000 in
theorem fit_text {S : Nat → Prop} (e : El) (t : T) (w : World) (h : TreeAt S w e t) : Calls Tryz.prog 26 #[.string ⟨#[116]⟩, e.val] w fun r w' => r = .returned (.bool (t.kind == 1 && scalarT t)) ∧ Ext w w' := by
  have hk := h.parts.1
  rw [← hk]
  clear hk
  obtain ⟨k, x, d, y, ka, n, kc, ca, m, cc⟩ := e
  have HS := Lib.hid (scal h)
  clear h
  generalize scalarT t = b at HS ⊢
  simp only [El.val]
  go_enter Tryz.func26, Tryz.ntmps26
  by_cases hk : k = 1
  · subst hk
    go_wp2_with (go_at_call 7; refine (HS.out _ (by (repeat (first | exact ext_refl _ | assumption | refine ext_alloc ?_ _ | refine ext_drew ?_ | refine ext_set ?_ (by simp) _ | refine ext_trans ?_ (by assumption))))).mono ?_; rintro r w2 ⟨rfl, hx⟩)
    go_ret
    exact ⟨ret_bool (by simp), by (repeat (first | exact ext_refl _ | assumption | refine ext_alloc ?_ _ | refine ext_drew ?_ | refine ext_set ?_ (by simp) _ | refine ext_trans ?_ (by assumption)))⟩
  · go_wp2_with fail
    go_ret
    exact ⟨ret_bool (by simp [hk]), by (repeat (first | exact ext_refl _ | assumption | refine ext_alloc ?_ _ | refine ext_drew ?_ | refine ext_set ?_ (by simp) _ | refine ext_trans ?_ (by assumption)))⟩
set_option maxRecDepth 4000 in
set_option maxHeartbeats 400000 in
theorem fit_num {S : Nat → Prop} (e : El) (t : T) (w : World) (h : TreeAt S w e t) : Calls Tryz.prog 26 #[.string ⟨#[110]⟩, e.val] w fun r w' => r = .returned (.bool (t.kind == 2 && scalarT t)) ∧ Ext w w' := by
  have hk := h.parts.1
  rw [← hk]
  clear hk
  obtain ⟨k, x, d, y, ka, n, kc, ca, m, cc⟩ := e
  have HS := Lib.hid (scal h)
  clear h
  generalize scalarT t = b at HS ⊢
  simp only [El.val]
  go_enter Tryz.func26, Tryz.ntmps26
  by_cases hk : k = 2
  · subst hk
    go_wp2_with (go_at_call 7; refine (HS.out _ (by (repeat (first | exact ext_refl _ | assumption | refine ext_alloc ?_ _ | refine ext_drew ?_ | refine ext_set ?_ (by simp) _ | refine ext_trans ?_ (by assumption))))).mono ?_; rintro r w2 ⟨rfl, hx⟩)
    go_ret
    exact ⟨ret_bool (by simp), by (repeat (first | exact ext_refl _ | assumption | refine ext_alloc ?_ _ | refine ext_drew ?_ | refine ext_set ?_ (by simp) _ | refine ext_trans ?_ (by assumption)))⟩
  · go_wp2_with fail
    go_ret
    exact ⟨ret_bool (by simp [hk]), by (repeat (first | exact ext_refl _ | assumption | refine ext_alloc ?_ _ | refine ext_drew ?_ | refine ext_set ?_ (by simp) _ | refine ext_trans ?_ (by assumption)))⟩
set_option maxRecDepth 4000 in
set_option maxHeartbeats 400000 in
theorem fit_yes {S : Nat → Prop} (e : El) (t : T) (w : World) (h : TreeAt S w e t) : Calls Tryz.prog 26 #[.string ⟨#[98]⟩, e.val] w fun r w' => r = .returned (.bool (t.kind == 3 && scalarT t)) ∧ Ext w w' := by
  have hk := h.parts.1
  rw [← hk]
  clear hk
  obtain ⟨k, x, d, y, ka, n, kc, ca, m, cc⟩ := e
  have HS := Lib.hid (scal h)
  clear h
  generalize scalarT t = b at HS ⊢
  simp only [El.val]
  go_enter Tryz.func26, Tryz.ntmps26
  by_cases hk : k = 3
  · subst hk
    go_wp2_with (go_at_call 7; refine (HS.out _ (by (repeat (first | exact ext_refl _ | assumption | refine ext_alloc ?_ _ | refine ext_drew ?_ | refine ext_set ?_ (by simp) _ | refine ext_trans ?_ (by assumption))))).mono ?_; rintro r w2 ⟨rfl, hx⟩)
    go_ret
    exact ⟨ret_bool (by simp), by (repeat (first | exact ext_refl _ | assumption | refine ext_alloc ?_ _ | refine ext_drew ?_ | refine ext_set ?_ (by simp) _ | refine ext_trans ?_ (by assumption)))⟩
  · go_wp2_with fail
    go_ret
    exact ⟨ret_bool (by simp [hk]), by (repeat (first | exact ext_refl _ | assumption | refine ext_alloc ?_ _ | refine ext_drew ?_ | refine ext_set ?_ (by simp) _ | refine ext_trans ?_ (by assumption)))⟩
set_option maxRecDepth 4000 in
set_option maxHeartbeats 400000 in
theorem fit_any {S : Nat → Prop} (e : El) (t : T) (w : World) (h : TreeAt S w e t) : Calls Tryz.prog 26 #[.string ⟨#[118]⟩, e.val] w fun r w' => r = .returned (.bool (scalarT t)) ∧ Ext w w' := by
  obtain ⟨k, x, d, y, ka, n, kc, ca, m, cc⟩ := e
  have HS := Lib.hid (scal h)
  clear h
  generalize scalarT t = b at HS ⊢
  simp only [El.val]
  go_enter Tryz.func26, Tryz.ntmps26
  go_wp2_with (go_at_call 7; refine (HS.out _ (by (repeat (first | exact ext_refl _ | assumption | refine ext_alloc ?_ _ | refine ext_drew ?_ | refine ext_set ?_ (by simp) _ | refine ext_trans ?_ (by assumption))))).mono ?_; rintro r w2 ⟨rfl, hx⟩)
  go_ret
  exact ⟨rfl, by (repeat (first | exact ext_refl _ | assumption | refine ext_alloc ?_ _ | refine ext_drew ?_ | refine ext_set ?_ (by simp) _ | refine ext_trans ?_ (by assumption)))⟩
set_option maxRecDepth 4000 in
set_option maxHeartbeats 400000 in
theorem fit_none (e : El) (w : World) : Calls Tryz.prog 26 #[.string ⟨#[]⟩, e.val] w fun r w' => r = .returned (.bool false) ∧ Ext w w' := by
  obtain ⟨k, x, d, y, ka, n, kc, ca, m, cc⟩ := e
  simp only [El.val]
  go_enter Tryz.func26, Tryz.ntmps26
  go_wp2_with fail
  go_ret
  exact ⟨rfl, by (repeat (first | exact ext_refl _ | assumption | refine ext_alloc ?_ _ | refine ext_drew ?_ | refine ext_set ?_ (by simp) _ | refine ext_trans ?_ (by assumption)))⟩
/-- A number is a whole one. -/
def wholeP (d : Nat) : Prop := ∃ n, floatToIntVal .f64 d .i64 = some n ∧ orderB2 (floatOfInt .f64 n) d = true
/-- An answer that tells something when it is yes. -/
def Yes (p : Prop) (w : World) (r : Ending) (w' : World) : Prop := ∃ b : Bool, r = .returned (.bool b) ∧ (b = true → p) ∧ Ext w w'
set_option maxRecDepth 4000 in
set_option maxHeartbeats 800000 in
theorem fit_whole {S : Nat → Prop} (e : El) (t : T) (w : World) (h : TreeAt S w e t) : Calls Tryz.prog 26 #[.string ⟨#[119]⟩, e.val] w (Yes (t.kind = 2 ∧ scalarT t = true ∧ wholeP t.num) w) := by
  have hk := h.parts.1
  have hd := h.parts.2.2.1
  rw [← hk]
  clear hk
  obtain ⟨k, x, d, y, ka, n, kc, ca, m, cc⟩ := e
  have HS := Lib.hid (scal h)
  have HD := Lib.hid hd
  clear h hd
  generalize scalarT t = b at HS ⊢
  simp only [El.val]
  go_enter Tryz.func26, Tryz.ntmps26
  by_cases hk : k = 2
  · subst hk
    have hb0 : Box (w.alloc (.cells #[.int .i64 2, .string x, .float .f64 d, .bool y, .slice ka n kc, .slice ca m cc] 26)) w.heap.size _ _ := Box.at rfl _ _
    cases b
    · go_wp2_with (go_at_call 7; refine (HS.out _ (by (repeat (first | exact ext_refl _ | assumption | refine ext_alloc ?_ _ | refine ext_drew ?_ | refine ext_set ?_ (by simp) _ | refine ext_trans ?_ (by assumption))))).mono ?_; rintro r w2 ⟨rfl, hx⟩)
      go_ret
      exact ⟨false, rfl, by simp, ext_trans (ext_alloc (ext_refl _) _) hx⟩
    · go_upto_region 7 with fail
      generalize hc1 : (FloatKind.f64.format.order d 0 == some .gt || FloatKind.f64.format.order d 0 == some .eq) = c1
      generalize hc2 : (FloatKind.f64.format.order d 4696837146684686336 == some .lt || FloatKind.f64.format.order d 4696837146684686336 == some .eq) = c2
      cases c1
      · go_wp2_with (go_at_call 7; refine (HS.out _ (by (repeat (first | exact ext_refl _ | assumption | refine ext_alloc ?_ _ | refine ext_drew ?_ | refine ext_set ?_ (by simp) _ | refine ext_trans ?_ (by assumption))))).mono ?_; rintro r w2 ⟨rfl, hx⟩; obtain ⟨o0, o1, o2, o3, o4, o5⟩ := (hb0.ext hx).six)
        go_ret
        exact ⟨false, rfl, by simp, ext_trans (ext_alloc (ext_refl _) _) hx⟩
      · cases c2
        · go_wp2_with (go_at_call 7; refine (HS.out _ (by (repeat (first | exact ext_refl _ | assumption | refine ext_alloc ?_ _ | refine ext_drew ?_ | refine ext_set ?_ (by simp) _ | refine ext_trans ?_ (by assumption))))).mono ?_; rintro r w2 ⟨rfl, hx⟩; obtain ⟨o0, o1, o2, o3, o4, o5⟩ := (hb0.ext hx).six)
          go_ret
          exact ⟨false, rfl, by simp, ext_trans (ext_alloc (ext_refl _) _) hx⟩
        · obtain ⟨z, hz⟩ := whole_some hc2 hc1
          have hcv : ∀ w, (convert 22 3 (.float .f64 d)).run Tryz.prog w = .ok (.int .i64 z) w := fun w => run_convert_float_int w 22 3 .f64 .i64 d z (by rw [Tryz.underlying22]; rfl) Tryz.underlying3 hz
          have HZ := Lib.hid hz
          clear hz
          go_wp2_with (go_at_call 7; refine (HS.out _ (by (repeat (first | exact ext_refl _ | assumption | refine ext_alloc ?_ _ | refine ext_drew ?_ | refine ext_set ?_ (by simp) _ | refine ext_trans ?_ (by assumption))))).mono ?_; rintro r w2 ⟨rfl, hx⟩; obtain ⟨o0, o1, o2, o3, o4, o5⟩ := (hb0.ext hx).six)
          go_ret
          exact ⟨_, rfl, fun hq => ⟨by trivial, by trivial, z, by rw [← HD.out]; exact HZ.out, by rw [← HD.out]; exact hq⟩, ext_trans (ext_alloc (ext_refl _) _) hx⟩
  · go_wp2_with fail
    go_ret
    exact ⟨false, rfl, by simp, by (repeat (first | exact ext_refl _ | assumption | refine ext_alloc ?_ _ | refine ext_drew ?_ | refine ext_set ?_ (by simp) _ | refine ext_trans ?_ (by assumption)))⟩
end Go.Proofs.YtfngaoicoecncaaGreatDoor

namespace Go.Proofs.YtfngaoicoecncaaGreatDoor
open Go.RowKit

def FitP (kind : ByteArray) (t : T) : Prop := scalarT t = true ∧ ((kind = ⟨#[116]⟩ ∧ t.kind = 1) ∨ (kind = ⟨#[110]⟩ ∧ t.kind = 2) ∨ (kind = ⟨#[119]⟩ ∧ t.kind = 2 ∧ wholeP t.num) ∨ (kind = ⟨#[98]⟩ ∧ t.kind = 3) ∨ kind = ⟨#[118]⟩)
theorem fit_at {S : Nat → Prop} (kind : ByteArray) (e : El) (t : T) (w : World) (hk : kind = emptyS ∨ kind ∈ plainK) (h : TreeAt S w e t) : Calls Tryz.prog 26 #[.string kind, e.val] w (Yes (FitP kind t) w) := by
  rcases hk with rfl | hk
  · exact (fit_none e w).mono fun r w' ⟨h1, h2⟩ => ⟨false, h1, by simp, h2⟩
  · simp only [plainK, List.mem_cons, List.mem_nil_iff, or_false] at hk
    rcases hk with rfl | rfl | rfl | rfl | rfl
    · refine (fit_text e t w h).mono fun r w' ⟨h1, h2⟩ => ⟨_, h1, fun hb => ?_, h2⟩
      simp only [Bool.and_eq_true, beq_iff_eq] at hb
      exact ⟨hb.2, .inl ⟨rfl, hb.1⟩⟩
    · refine (fit_num e t w h).mono fun r w' ⟨h1, h2⟩ => ⟨_, h1, fun hb => ?_, h2⟩
      simp only [Bool.and_eq_true, beq_iff_eq] at hb
      exact ⟨hb.2, .inr (.inl ⟨rfl, hb.1⟩)⟩
    · refine (fit_whole e t w h).mono fun r w' ⟨b, h1, h2, h3⟩ => ⟨b, h1, fun hb => ?_, h3⟩
      obtain ⟨a1, a2, a3⟩ := h2 hb
      exact ⟨a2, .inr (.inr (.inl ⟨rfl, a1, a3⟩))⟩
    · refine (fit_yes e t w h).mono fun r w' ⟨h1, h2⟩ => ⟨_, h1, fun hb => ?_, h2⟩
      simp only [Bool.and_eq_true, beq_iff_eq] at hb
      exact ⟨hb.2, .inr (.inr (.inr (.inl ⟨rfl, hb.1⟩)))⟩
    · exact (fit_any e t w h).mono fun r w' ⟨h1, h2⟩ => ⟨_, h1, fun hb => ⟨hb, .inr (.inr (.inr (.inr rfl)))⟩, h2⟩

def kindL (rs : List (ByteArray × ByteArray)) (name : ByteArray) : ByteArray := ((rs.find? fun r => seq r.1 name).map Prod.snd).getD emptyS
theorem kindL_at {rs : List (ByteArray × ByteArray)} {name : ByteArray} {j : Nat} {r : ByteArray × ByteArray} (h : rs[j]? = some r) (hs : seq r.1 name = true) (hq : ∀ (i : Nat) (u : ByteArray × ByteArray), i < j → rs[i]? = some u → seq u.1 name = false) : kindL rs name = r.2 := by
  have : rs.find? (fun r => seq r.1 name) = some r := by
    induction rs generalizing j with
    | nil => simp at h
    | cons u l ih =>
      cases j with
      | zero => simp at h; subst h; simp [hs]
      | succ j =>
        have h0 := hq 0 u (by omega) rfl
        rw [List.find?_cons, h0]
        exact ih (j := j) (by simpa using h) fun i v hi hv => hq (i + 1) v (by omega) (by simpa using hv)
  unfold kindL
  rw [this]
  rfl
theorem kindL_none {rs : List (ByteArray × ByteArray)} {name : ByteArray} (hq : ∀ (i : Nat) (u : ByteArray × ByteArray), rs[i]? = some u → seq u.1 name = false) : kindL rs name = emptyS := by
  have : rs.find? (fun r => seq r.1 name) = none := by
    rw [List.find?_eq_none]
    intro u hu
    obtain ⟨i, hi⟩ := List.getElem?_of_mem hu
    rw [hq i u hi]
    simp
  unfold kindL
  rw [this]
  rfl
theorem kindL_mem {rs : List (ByteArray × ByteArray)} (h : ∀ r ∈ rs, r.2 ∈ plainK) (name : ByteArray) : kindL rs name = emptyS ∨ kindL rs name ∈ plainK := by
  unfold kindL
  cases hf : rs.find? fun r => seq r.1 name with
  | none => exact .inl rfl
  | some r => exact .inr (h r (List.mem_of_find?_eq_some hf))

set_option maxHeartbeats 1000000 in
theorem kindIn_any (bd : ByteArray) (name : ByteArray) (rs : List (ByteArray × ByteArray)) (w : World) (hR : ∀ w, Calls Tryz.prog 73 #[.string bd] w fun r w' => ∃ v, r = .returned v ∧ Own2 w' w.heap.size v rs ∧ Ext w w') :
    Calls Tryz.prog 27 #[.string bd, .string name] w fun r w' => r = .returned (.string (kindL rs name)) ∧ Ext w w' := by
  have HR := Lib.hid hR
  clear hR
  go_enter Tryz.func27, Tryz.ntmps27
  go_wp2_with (go_at_call 73; refine (HR.out _).mono ?_; rintro r w1 ⟨rv, rfl, hrow, hx1⟩)
  obtain ⟨ra, rc, rfl, hrw⟩ := hrow.rows (S := fun _ => True) (fun _ _ => trivial)
  have HRW := Lib.hid hrw
  have hrcl := hrw.2.1
  have hrcm := hrw.2.2.1
  unfold maxLen at hrcm
  clear hrow hrw
  go_loopw [6] (fun i wr => wr = w1 ∧ ∃ j : Nat, j ≤ rs.length ∧ i = .int .i64 j ∧ ∀ (q : Nat) (u : ByteArray × ByteArray), q < j → rs[q]? = some u → seq u.1 name = false) (fun i _ => rs.length - (intOf i).toNat)
  case atStart => exact ⟨rfl, 0, Nat.zero_le _, rfl, fun q u h => by omega⟩
  case round =>
    obtain ⟨rfl, j, hj, rfl, hq⟩ := hrel
    have HQ := Lib.hid hq
    clear hq
    by_cases hlt : j < rs.length
    · obtain ⟨r, hr⟩ := some_of_lt (l := rs) rfl hlt
      obtain ⟨b, off, rfl, -, hc1, hc2⟩ := HRW.out.2.2.2 j r hr
      have HJ := Lib.hid hr
      clear hr
      cases he : r.1.toList == name.toList
      · go_wp2_with fail
        go_roundw
        case rel =>
          refine ⟨trivial, j + 1, by omega, by go_num, fun q u h1 h2 => ?_⟩
          by_cases hqj : q < j
          · exact HQ.out q u hqj h2
          · have hqe : q = j := by omega
            subst hqe
            rw [HJ.out] at h2
            cases h2
            exact he
        case measure => simp [intOf]; omega
      · go_wp2_with fail
        go_ret
        exact ⟨by rw [kindL_at HJ.out he HQ.out]; rfl, hx1⟩
    · have hje : j = rs.length := by omega
      subst hje
      go_wp2_with fail
      go_ret
      exact ⟨by rw [kindL_none fun i u hi => HQ.out i u (List.getElem?_eq_some_iff.1 hi).1 hi]; rfl, hx1⟩

def FitsP (rs : List (ByteArray × ByteArray)) (ps : List (ByteArray × T)) : Prop := ∀ (i : Nat) (p : ByteArray × T), ps[i]? = some p → FitP (kindL rs p.1) p.2
set_option maxHeartbeats 1000000 in
theorem fits_any {S : Nat → Prop} (bd : ByteArray) (rs : List (ByteArray × ByteArray)) (a : Option Addr) (n c : Nat) (ps : List (ByteArray × T)) (w : World) (hR : ∀ w, Calls Tryz.prog 73 #[.string bd] w fun r w' => ∃ v, r = .returned v ∧ Own2 w' w.heap.size v rs ∧ Ext w w')
    (hrs : ∀ r ∈ rs, r.2 ∈ plainK) (h : PairsAt S w a n c ps) : Calls Tryz.prog 9 #[.string bd, .slice a n c] w (Yes (FitsP rs ps) w) := by
  have HR := Lib.hid fun name w => kindIn_any bd name rs w hR
  have HRS := Lib.hid hrs
  obtain ⟨hl, hn, hm, hc⟩ := h
  unfold maxLen at hm
  have HL := Lib.hid hl
  clear hR hrs hl
  go_enter Tryz.func9, Tryz.ntmps9
  go_wp2_with fail
  go_loopw [5] (fun i wr => Ext w wr ∧ ∃ j : Nat, j ≤ n ∧ i = .int .i64 j ∧ ∀ (q : Nat) (p : ByteArray × T), q < j → ps[q]? = some p → FitP (kindL rs p.1) p.2) (fun i _ => n - (intOf i).toNat)
  case atStart => exact ⟨ext_refl _, 0, Nat.zero_le _, rfl, fun q p h => by omega⟩
  case round =>
    obtain ⟨hx, j, hj, rfl, hq⟩ := hrel
    have HQ := Lib.hid hq
    clear hq
    by_cases hlt : j < n
    · obtain ⟨p, hp⟩ := some_of_lt HL.out hlt
      obtain ⟨b, off, g, rfl, hSb, hc7, hT⟩ := hc j p hp
      have HJ := Lib.hid hp
      have hc7 := Cells7.ext hx hc7
      have hT := hT.ext hx
      clear hp
      go_upto_region 4 with fail
      refine wp_region_order (fun w' => Cells7 w' b (off + j * 7) p.1 g) [0, 1, 2, 3, 4, 5, 7, 8, 9, 10, 11] [0, 1, 2, 3, 4, 5, 7, 8, 9, 10, 11, 6, 12, 13] (by kernel_rfl) (by kernel_rfl) (fun d _ _ _ _ h => by cases d <;> exact h) (by kernel_rfl) ?_
      have hS : Cells7 wr.drew b (off + j * 7) p.1 g := hc7
      iterate 11 (apply ord_held rfl rfl (by assumption) rfl; (focus ((intro w' hS'); go_simp; (try with_reducible rfl))); (try simp only [Act.put, List.setIfInBounds_toArray, List.set_cons_zero, List.set_cons_succ]))
      (apply ord_loud rfl rfl rfl; intro K hK; go_simp)
      refine (HR.out p.1 _).mono ?_
      rintro r w2 ⟨rfl, hx2⟩
      have hx3 : Ext wr w2 := ext_trans (ext_drew (ext_refl _)) hx2
      refine hK _ _ (fun _ => Cells7.ext hx3 hc7) ?_
      clear hK K
      (try simp only [Act.put, List.setIfInBounds_toArray, List.set_cons_zero, List.set_cons_succ])
      (apply ord_loud rfl rfl rfl; intro K hK; go_simp)
      refine (fit_at (kindL rs p.1) g p.2 _ (kindL_mem HRS.out _) (hT.ext hx3)).mono ?_
      rintro r w3 ⟨v, rfl, hv, hx4⟩
      refine hK _ _ (fun _ => Cells7.ext (ext_trans hx3 hx4) hc7) ?_
      clear hK K
      (try simp only [Act.put, List.setIfInBounds_toArray, List.set_cons_zero, List.set_cons_succ])
      (apply ord_loud rfl rfl rfl; intro K hK; go_simp)
      refine hK _ _ (fun _ => Cells7.ext (ext_trans hx3 hx4) hc7) ?_
      clear hK K
      (try simp only [Act.put, List.setIfInBounds_toArray, List.set_cons_zero, List.set_cons_succ])
      refine ord_end ?_
      have hx5 : Ext w w3 := ext_trans hx (ext_trans hx3 hx4)
      have HV := Lib.hid hv
      clear hv hS
      cases v
      · go_wp2_with fail
        go_ret
        exact ⟨false, rfl, by simp, hx5⟩
      · go_wp2_with fail
        go_roundw
        case rel =>
          refine ⟨hx5, j + 1, by omega, by go_num, fun q u h1 h2 => ?_⟩
          by_cases hqj : q < j
          · exact HQ.out q u hqj h2
          · have hqe : q = j := by omega
            subst hqe
            rw [HJ.out] at h2
            cases h2
            exact HV.out rfl
        case measure => simp [intOf]; omega
    · go_wp2_with fail
      go_ret
      refine ⟨true, rfl, fun _ i p hi => HQ.out i p ?_ hi, hx⟩
      have := (List.getElem?_eq_some_iff.1 hi).1
      have := HL.out
      omega
end Go.Proofs.YtfngaoicoecncaaGreatDoor

namespace Go.Proofs.YtfngaoicoecncaaGreatDoor
open Go.RowKit

def fieldNames : List ByteArray := [⟨#[98, 111, 111, 115, 116]⟩, ⟨#[116, 121, 112, 101]⟩, ⟨#[100, 105, 115, 116, 97, 110, 99, 101]⟩, ⟨#[100, 105, 115, 116, 97, 110, 99, 101, 95, 116, 121, 112, 101]⟩, ⟨#[118, 97, 108, 105, 100, 97, 116, 105, 111, 110, 95, 109, 101, 116, 104, 111, 100]⟩, ⟨#[105, 103, 110, 111, 114, 101, 95, 117, 110, 109, 97, 112, 112, 101, 100]⟩, ⟨#[109, 117, 108, 116, 105, 95, 118, 97, 108, 117, 101, 95, 109, 111, 100, 101]⟩]
def FieldP (s : ByteArray) : Prop := (∀ x, s.data.toList[0]? = some x → x.toNat ≠ 95) ∧ hasS fieldNames s = false
theorem hasF (s : ByteArray) (w2 : World) (v : Nat) (hb : Box w2 v (fieldNames.map Value.string).toArray 9) :
    Calls Tryz.prog 25 #[.slice (some ⟨v, 0, none⟩) 7 7, .string s] w2 fun r w' => r = .returned (.bool (hasS fieldNames s)) ∧ w2 = w' :=
  has_any (S := fun _ => True) (some ⟨v, 0, none⟩) 7 7 fieldNames s w2 ⟨rfl, Nat.le_refl _, by simp [maxLen], fun i s hi => ⟨v, 0, rfl, trivial, by
    rw [Nat.zero_add]
    exact hb.cell i _ (by simp [hi])⟩⟩

set_option maxHeartbeats 1000000 in
theorem field_any (s : ByteArray) (hs : s.size ≤ 2147483647) (w : World) : Calls Tryz.prog 8 #[.string s] w (Yes (FieldP s) w) := by
  have hPl := Lib.hid fun w => place_any s 94 (by decide) w (by omega)
  have hH := Lib.hid fun w2 v hb => hasF s w2 v hb
  go_enter Tryz.func8, Tryz.ntmps8
  by_cases h0 : 0 < s.size
  · have he : s.toList.isEmpty = false := by
      rw [Lib.toList_data]
      cases h : s.data.toList with
      | nil => have := size_len s; rw [h] at this; simp at this; omega
      | cons => rfl
    cases h95 : ((s[0]'h0).toNat : Int) == 95
    · have hg0 : s.data.toList[0]? = some s[0] := by
        rw [Array.getElem?_toList]
        exact Array.getElem?_eq_getElem h0
      have HG := Lib.hid hg0
      clear hg0
      by_cases hp : placeL 94 s.data.toList < s.size
      · go_wp2_with (go_at_call 24; refine (hPl.out _).mono ?_; rintro r w' ⟨rfl, rfl⟩)
        go_ret
        exact ⟨false, rfl, by simp, ext_refl _⟩
      · go_wp2_with (first
          | (go_at_call 24; refine (hPl.out _).mono ?_; rintro r w' ⟨rfl, rfl⟩)
          | (go_at_call 25; refine (hH.out _ _ (Box.at rfl _ _)).mono ?_; rintro r w' ⟨rfl, rfl⟩))
        go_ret
        refine ⟨_, rfl, fun hb => ⟨fun x hx => ?_, by simpa using hb⟩, ext_alloc (ext_refl _) _⟩
        rw [HG.out] at hx
        cases hx
        intro e
        rw [e] at h95
        exact absurd h95 (by decide)
    · go_wp2_with fail
      go_ret
      exact ⟨false, rfl, by simp, ext_refl _⟩
  · have he : s.toList.isEmpty = true := by
      rw [Lib.toList_data, List.isEmpty_iff]
      exact List.length_eq_zero_iff.1 (by rw [size_len]; omega)
    go_wp2_with fail
    go_ret
    exact ⟨false, rfl, by simp, ext_refl _⟩
end Go.Proofs.YtfngaoicoecncaaGreatDoor

