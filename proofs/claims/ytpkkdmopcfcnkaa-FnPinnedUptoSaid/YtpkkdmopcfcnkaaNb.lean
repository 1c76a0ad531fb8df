/-
  How the builders of a boosting query and of a pinned query begin.
-/
import Derived.Test.YtpkkdmopcfcnkaaNm
import Derived.Test.YtpkkdmopcfcnkaaGv
namespace Go.Proofs.Ytpkkdmopcfcnkaa
open Go.RowKit

theorem Six.set {w : World} {b c i : Nat} {e : El} (h : Six w b e) (hne : b ≠ c) (v : Value) : Six (w.setCell ⟨c, i, none⟩ v) b e := by
  have k : Keeps (fun q => q = b) w (w.setCell ⟨c, i, none⟩ v) := fun q hq _ => Below.heap_setCell _ _ _ _ (by simp; omega)
  exact ⟨k.cell rfl h.1, k.cell rfl h.2.1, k.cell rfl h.2.2.1, k.cell rfl h.2.2.2.1, k.cell rfl h.2.2.2.2.1, k.cell rfl h.2.2.2.2.2⟩
theorem newBoosting_any (w : World) : Calls Try.prog 57 #[] w fun r w' => r = .returned (.pointer (some ⟨w.heap.size, 0, none⟩)) ∧ w' = w.alloc (.cells #[.nilIface, .nilIface, .nilIface, .pointer none, .pointer none] 164) := by
  go_enter Try.func57, Try.ntmps57
  go_wp2_with fail
  go_ret
  exact ⟨rfl, rfl⟩
theorem positive_any (w : World) (b : Nat) (z1 z2 : Value) (hb : Box w b #[.nilIface, z1, z2, .pointer none, .pointer none] 164) (ty : TypeId) (x : Value) : Calls Try.prog 58 #[.pointer (some ⟨b, 0, none⟩), .iface ty x] w fun r w' => r = .returned (.pointer (some ⟨b, 0, none⟩)) ∧ w' = w.setCell ⟨b, 1, none⟩ (.iface ty x) := by
  have c1 := hb.cell 1 _ rfl
  have f1 := hb.free 1
  have hl := hb.lt
  go_enter Try.func58, Try.ntmps58
  go_wp2_with fail
  go_ret
  exact ⟨rfl, rfl⟩
theorem negative_any (w : World) (b : Nat) (z1 z2 : Value) (hb : Box w b #[.nilIface, z1, z2, .pointer none, .pointer none] 164) (ty : TypeId) (x : Value) : Calls Try.prog 59 #[.pointer (some ⟨b, 0, none⟩), .iface ty x] w fun r w' => r = .returned (.pointer (some ⟨b, 0, none⟩)) ∧ w' = w.setCell ⟨b, 2, none⟩ (.iface ty x) := by
  have c2 := hb.cell 2 _ rfl
  have f2 := hb.free 2
  have hl := hb.lt
  go_enter Try.func59, Try.ntmps59
  go_wp2_with fail
  go_ret
  exact ⟨rfl, rfl⟩
theorem newPinned_any (w : World) : Calls Try.prog 99 #[] w fun r w' => r = .returned (.pointer (some ⟨w.heap.size, 0, none⟩)) ∧ w' = w.alloc (.cells #[.slice none 0 0, .nilIface] 181) := by
  go_enter Try.func99, Try.ntmps99
  go_wp2_with fail
  go_ret
  exact ⟨rfl, rfl⟩
theorem pinIds_any (w : World) (b : Nat) (z0 z1 : Value) (hb : Box w b #[z0, z1] 181) (a : Option Addr) (n c : Nat) : Calls Try.prog 100 #[.pointer (some ⟨b, 0, none⟩), .slice a n c] w fun r w' => r = .returned (.pointer (some ⟨b, 0, none⟩)) ∧ w' = w.setCell ⟨b, 0, none⟩ (.slice a n c) := by
  have c0 := hb.cell 0 _ rfl
  have f0 := hb.free 0
  have hl := hb.lt
  go_enter Try.func100, Try.ntmps100
  go_wp2_with fail
  go_ret
  exact ⟨rfl, rfl⟩
theorem pinOrganic_any (w : World) (b : Nat) (z0 z1 : Value) (hb : Box w b #[z0, z1] 181) (ty : TypeId) (x : Value) : Calls Try.prog 101 #[.pointer (some ⟨b, 0, none⟩), .iface ty x] w fun r w' => r = .returned (.pointer (some ⟨b, 0, none⟩)) ∧ w' = w.setCell ⟨b, 1, none⟩ (.iface ty x) := by
  have c1 := hb.cell 1 _ rfl
  have f1 := hb.free 1
  have hl := hb.lt
  go_enter Try.func101, Try.ntmps101
  go_wp2_with fail
  go_ret
  exact ⟨rfl, rfl⟩
end Go.Proofs.Ytpkkdmopcfcnkaa
