/-
  How many terms should match, for rare and for frequent ones.
-/
import Derived.Test.YtfngaoicoecncaaGreatDoorNm2
namespace Go.Proofs.YtfngaoicoecncaaGreatDoor
open Go.RowKit

abbrev s_common : ByteArray := ⟨#[99, 111, 109, 109, 111, 110]⟩
def jMM (lo hi : Option T) : List (ByteArray × J) := if (jT s_low_freq lo ++ jT s_high_freq hi).isEmpty then [] else [(s_minimum_should_match, jMap (jT s_low_freq lo ++ jT s_high_freq hi))]
theorem jMM_both {lo hi : Option T} {a b : ByteArray} (h1 : a = fT lo) (h2 : b = fT hi) (e1 : a.toList.isEmpty = false) (e2 : b.toList.isEmpty = false) : jMM lo hi = [(s_minimum_should_match, jMap [(s_low_freq, .str a), (s_high_freq, .str b)])] := by
  unfold jMM
  rw [jT_some (k := s_low_freq) h1 e1, jT_some (k := s_high_freq) h2 e2]
  rfl
theorem jMM_low {lo hi : Option T} {a b : ByteArray} (h1 : a = fT lo) (h2 : b = fT hi) (e1 : a.toList.isEmpty = false) (e2 : b.toList.isEmpty = true) : jMM lo hi = [(s_minimum_should_match, jMap [(s_low_freq, .str a)])] := by
  unfold jMM
  rw [jT_some (k := s_low_freq) h1 e1, jT_none (k := s_high_freq) h2 e2]
  rfl
theorem jMM_high {lo hi : Option T} {a b : ByteArray} (h1 : a = fT lo) (h2 : b = fT hi) (e1 : a.toList.isEmpty = true) (e2 : b.toList.isEmpty = false) : jMM lo hi = [(s_minimum_should_match, jMap [(s_high_freq, .str b)])] := by
  unfold jMM
  rw [jT_none (k := s_low_freq) h1 e1, jT_some (k := s_high_freq) h2 e2]
  rfl
theorem jMM_none {lo hi : Option T} {a b : ByteArray} (h1 : a = fT lo) (h2 : b = fT hi) (e1 : a.toList.isEmpty = true) (e2 : b.toList.isEmpty = true) : jMM lo hi = [] := by
  unfold jMM
  rw [jT_none (k := s_low_freq) h1 e1, jT_none (k := s_high_freq) h2 e2]
  rfl
end Go.Proofs.YtfngaoicoecncaaGreatDoor
