/-
  Whether a text can be the name of a field.
-/
import Derived.Test.YtfngaoicoecncaaDoorF2
namespace Go.Proofs.YtfngaoicoecncaaDoor
open Go.RowKit

def fieldNames : List ByteArray := [⟨#[98, 111, 111, 115, 116]⟩, ⟨#[116, 121, 112, 101]⟩, ⟨#[100, 105, 115, 116, 97, 110, 99, 101]⟩, ⟨#[100, 105, 115, 116, 97, 110, 99, 101, 95, 116, 121, 112, 101]⟩, ⟨#[118, 97, 108, 105, 100, 97, 116, 105, 111, 110, 95, 109, 101, 116, 104, 111, 100]⟩, ⟨#[105, 103, 110, 111, 114, 101, 95, 117, 110, 109, 97, 112, 112, 101, 100]⟩, ⟨#[109, 117, 108, 116, 105, 95, 118, 97, 108, 117, 101, 95, 109, 111, 100, 101]⟩]
def FieldP (s : ByteArray) : Prop := (∀ x, s.data.toList[0]? = some x → x.toNat ≠ 95) ∧ hasS fieldNames s = false
theorem hasF (s : ByteArray) (w2 : World) (v : Nat) (hb : Box w2 v (fieldNames.map Value.string).toArray 9) :
    Calls Tryd.prog 37 #[.slice (some ⟨v, 0, none⟩) 7 7, .string s] w2 fun r w' => r = .returned (.bool (hasS fieldNames s)) ∧ w2 = w' :=
  has_any (S := fun _ => True) (some ⟨v, 0, none⟩) 7 7 fieldNames s w2 ⟨rfl, Nat.le_refl _, by simp [maxLen], fun i s hi => ⟨v, 0, rfl, trivial, by
    rw [Nat.zero_add]
    exact hb.cell i _ (by simp [hi])⟩⟩

set_option maxHeartbeats 1000000 in
theorem field_any (s : ByteArray) (hs : s.size ≤ 2147483647) (w : World) : Calls Tryd.prog 28 #[.string s] w (Yes (FieldP s) w) := by
  have hPl := Lib.hid fun w => place_any s 94 (by decide) w (by omega)
  have hH := Lib.hid fun w2 v hb => hasF s w2 v hb
  go_enter Tryd.func28, Tryd.ntmps28
  by_cases h0 : 0 < s.size
  · have he : s.toList.isEmpty = false := by
      rw [Lib.toList_data]
      cases h : s.data.toList with
      | nil => have := size_len s; rw [h] at this; simp at this; omega
      | cons => rfl
    cases h95 : ((s[0]'h0).toNat : Int) == 95
    · have hg0 : s.data.toList[0]? = some s[0] := by
        rw [Array.getElem?_toList]
        exact Array.getElem?_eq_getElem h0
      have HG := Lib.hid hg0
      clear hg0
      by_cases hp : placeL 94 s.data.toList < s.size
      · go_wp2_with (go_at_call 36; refine (hPl.out _).mono ?_; rintro r w' ⟨rfl, rfl⟩)
        go_ret
        exact ⟨false, rfl, by simp, ext_refl _⟩
      · go_wp2_with (first
          | (go_at_call 36; refine (hPl.out _).mono ?_; rintro r w' ⟨rfl, rfl⟩)
          | (go_at_call 37; refine (hH.out _ _ (Box.at rfl _ _)).mono ?_; rintro r w' ⟨rfl, rfl⟩))
        go_ret
        refine ⟨_, rfl, fun hb => ⟨fun x hx => ?_, by simpa using hb⟩, ext_alloc (ext_refl _) _⟩
        rw [HG.out] at hx
        cases hx
        intro e
        rw [e] at h95
        exact absurd h95 (by decide)
    · go_wp2_with fail
      go_ret
      exact ⟨false, rfl, by simp, ext_refl _⟩
  · have he : s.toList.isEmpty = true := by
      rw [Lib.toList_data, List.isEmpty_iff]
      exact List.length_eq_zero_iff.1 (by rw [size_len]; omega)
    go_wp2_with fail
    go_ret
    exact ⟨false, rfl, by simp, ext_refl _⟩
end Go.Proofs.YtfngaoicoecncaaDoor
