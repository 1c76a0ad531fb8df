/-
  Corners of a geo_bounding_box query, as they are set at last.
-/
import Derived.Test.YtfngaoicoecncaaGd
import Derived.Test.YtfngaoicoecncaaAny
namespace Go.Proofs.Ytfngaoicoecncaa
open Go.RowKit

/-- What a setting makes of a corner: two numbers, one of them behind the other, or a text. -/
def stepC (K KH : ByteArray) (sw : Bool) (o : Option J) (p : ByteArray × T) : Option J := if seq p.1 K then some (.nums (if sw then [(kidT p.2 0).num, (kidT p.2 1).num] else [(kidT p.2 1).num, (kidT p.2 0).num])) else if seq p.1 KH then some (.str p.2.text) else o
def foldC (K KH : ByteArray) (sw : Bool) (ps : List (ByteArray × T)) : Option J := ps.foldl (stepC K KH sw) none
theorem foldC_step {K KH : ByteArray} {sw : Bool} {ps : List (ByteArray × T)} {j : Nat} {p : ByteArray × T} (hp : ps[j]? = some p) : foldC K KH sw (ps.take (j + 1)) = stepC K KH sw (foldC K KH sw (ps.take j)) p := by
  rw [take_snoc hp]
  unfold foldC
  rw [List.foldl_append]
  rfl
theorem stepC_skip {K KH : ByteArray} {sw : Bool} {o : Option J} {p : ByteArray × T} (h1 : seq p.1 K = false) (h2 : seq p.1 KH = false) : stepC K KH sw o p = o := by
  unfold stepC
  rw [h1, h2]
  rfl
theorem stepC_ne {K KH k : ByteArray} {sw : Bool} {o : Option J} {p : ByteArray × T} (h : seq p.1 k = true) (h1 : seq k K = false) (h2 : seq k KH = false) : stepC K KH sw o p = o := by
  have e := seq_iff.1 h
  exact stepC_skip (by rw [e]; exact h1) (by rw [e]; exact h2)
theorem stepC_pair {K KH : ByteArray} {sw : Bool} {o : Option J} {p : ByteArray × T} (h : seq p.1 K = true) : stepC K KH sw o p = some (.nums (if sw then [(kidT p.2 0).num, (kidT p.2 1).num] else [(kidT p.2 1).num, (kidT p.2 0).num])) := by
  unfold stepC
  rw [h]
  rfl
theorem stepC_text {K KH : ByteArray} {sw : Bool} {o : Option J} {p : ByteArray × T} (h : seq p.1 KH = true) (h1 : seq KH K = false) : stepC K KH sw o p = some (.str p.2.text) := by
  have e := seq_iff.1 h
  have h2 : seq p.1 K = false := by rw [e]; exact h1
  unfold stepC
  rw [h2, h]
  rfl
def CornAt (S : Nat → Prop) (w : World) (v : Value) : Option J → Prop
  | none => v = .nilIface
  | some j => ∃ ty x, v = .iface ty x ∧ JAt S w (.iface ty x) j
theorem CornAt.keep {S S' : Nat → Prop} {w w' : World} {v : Value} {o : Option J} (h : CornAt S w v o) (hS : ∀ b, S b → b < w.heap.size → S' b) (k : Keeps S w w') : CornAt S' w' v o := by
  cases o with
  | none => exact h
  | some j =>
    obtain ⟨ty, x, rfl, hJ⟩ := h
    exact ⟨ty, x, rfl, JAt.keep hS k j hJ⟩
theorem CornAt.ext {S : Nat → Prop} {w w' : World} {v : Value} {o : Option J} (h : CornAt S w v o) (x : Ext w w') : CornAt S w' v o := h.keep (fun _ h _ => h) (x.keeps S)
theorem CornAt.to {S S' : Nat → Prop} {w : World} {v : Value} {o : Option J} (h : CornAt S w v o) (hS : ∀ b, S b → b < w.heap.size → S' b) : CornAt S' w v o := h.keep hS (fun _ _ _ => rfl)
theorem corn_nil (w : World) : (binOp .neq 20 .nilIface .nilIface).run Try.prog w = .ok (.bool false) w := by kernel_rfl
theorem corn_held (ty : TypeId) (x : Value) (w : World) : (binOp .neq 20 (.iface ty x) .nilIface).run Try.prog w = .ok (.bool true) w := by kernel_rfl
theorem CornAt.test {S : Nat → Prop} {w : World} {v : Value} {o : Option J} (h : CornAt S w v o) : ∀ w', (binOp .neq 20 v .nilIface).run Try.prog w' = .ok (.bool o.isSome) w' := fun w' => by
  cases o with
  | none => obtain rfl : v = .nilIface := h; exact corn_nil w'
  | some j => obtain ⟨ty, x, rfl, -⟩ := h; exact corn_held ty x w'
theorem CornAt.guard {S : Nat → Prop} {w : World} {v : Value} {o : Option J} (h : CornAt S w v o) : ∀ x w', (eqGuard .neq 20 x (.const .nilIface) v .nilIface).run Try.prog w' = .ok () w' := fun x w' => by
  cases o with
  | none => obtain rfl : v = .nilIface := h; simp [eqGuard]
  | some j => obtain ⟨ty, y, rfl, -⟩ := h; simp [eqGuard]
theorem FV.test {v : Value} {o : Option T} (h : FV v o) : ∀ w', (binOp .neq 20 v .nilIface).run Try.prog w' = .ok (.bool o.isSome) w' := fun w' => by
  cases o with
  | none => obtain rfl : v = .nilIface := h; exact corn_nil w'
  | some j => obtain ⟨ty, x, rfl, -⟩ := h; exact corn_held ty x w'
theorem FV.guard {v : Value} {o : Option T} (h : FV v o) : ∀ x w', (eqGuard .neq 20 x (.const .nilIface) v .nilIface).run Try.prog w' = .ok () w' := fun x w' => by
  cases o with
  | none => obtain rfl : v = .nilIface := h; simp [eqGuard]
  | some j => obtain ⟨ty, y, rfl, -⟩ := h; simp [eqGuard]
def jC (k : ByteArray) : Option J → List (ByteArray × J)
  | none => []
  | some j => [(k, j)]
/-- What a query says of its box: a text, or its corners. -/
def jBox (o : Option T) (tl tr bl br : Option J) : J := match o with
  | some t => jMap [(s_wkt, jOf t)]
  | none => jMap (jC s_top_left tl ++ jC s_top_right tr ++ jC s_bottom_left bl ++ jC s_bottom_right br)
theorem nums_at {S : Nat → Prop} {w : World} {b : Nat} {x y : Nat} (hb : Box w b #[.float .f64 x, .float .f64 y] 26) (hS : S b) : JAt S w (.iface 102 (.slice (some ⟨b, 0, none⟩) 2 2)) (.nums [x, y]) := by
  simp only [JAt]
  refine ⟨_, _, _, rfl, by simp, rfl, Nat.le_refl _, by simp [maxLen], fun i z hi => ?_⟩
  match i, hi with
  | 0, hi => simp at hi; subst hi; exact ⟨b, 0, rfl, hS, hb.cell 0 _ rfl⟩
  | 1, hi => simp at hi; subst hi; exact ⟨b, 0, rfl, hS, hb.cell 1 _ rfl⟩
set_option maxHeartbeats 1000000 in
theorem cTopLeft_any (w : World) (b : Nat) (z0 z1 z2 z3 z4 z5 z6 z7 z8 z9 : Value) (hb : Box w b #[z0, z1, z2, z3, z4, z5, z6, z7, z8, z9] 101) (x y : Nat) :
    Calls Try.prog 26 #[.pointer (some ⟨b, 0, none⟩), .float .f64 x, .float .f64 y] w fun r w' => r = .returned (.pointer (some ⟨b, 0, none⟩)) ∧ w' = (w.setCell ⟨b, 1, none⟩ (.iface 102 (.slice (some ⟨w.heap.size, 0, none⟩) 2 2))).alloc (.cells #[.float .f64 y, .float .f64 x] 26) := by
  have c := hb.cell 1 _ rfl
  have f := hb.free 1
  have hl := hb.lt
  go_enter Try.func26, Try.ntmps26
  go_wp2_with fail
  go_ret
  exact ⟨rfl, rfl⟩
set_option maxHeartbeats 1000000 in
theorem cTopRight_any (w : World) (b : Nat) (z0 z1 z2 z3 z4 z5 z6 z7 z8 z9 : Value) (hb : Box w b #[z0, z1, z2, z3, z4, z5, z6, z7, z8, z9] 101) (x y : Nat) :
    Calls Try.prog 30 #[.pointer (some ⟨b, 0, none⟩), .float .f64 x, .float .f64 y] w fun r w' => r = .returned (.pointer (some ⟨b, 0, none⟩)) ∧ w' = (w.setCell ⟨b, 2, none⟩ (.iface 102 (.slice (some ⟨w.heap.size, 0, none⟩) 2 2))).alloc (.cells #[.float .f64 y, .float .f64 x] 26) := by
  have c := hb.cell 2 _ rfl
  have f := hb.free 2
  have hl := hb.lt
  go_enter Try.func30, Try.ntmps30
  go_wp2_with fail
  go_ret
  exact ⟨rfl, rfl⟩
set_option maxHeartbeats 1000000 in
theorem cBottomRight_any (w : World) (b : Nat) (z0 z1 z2 z3 z4 z5 z6 z7 z8 z9 : Value) (hb : Box w b #[z0, z1, z2, z3, z4, z5, z6, z7, z8, z9] 101) (x y : Nat) :
    Calls Try.prog 28 #[.pointer (some ⟨b, 0, none⟩), .float .f64 x, .float .f64 y] w fun r w' => r = .returned (.pointer (some ⟨b, 0, none⟩)) ∧ w' = (w.setCell ⟨b, 3, none⟩ (.iface 102 (.slice (some ⟨w.heap.size, 0, none⟩) 2 2))).alloc (.cells #[.float .f64 y, .float .f64 x] 26) := by
  have c := hb.cell 3 _ rfl
  have f := hb.free 3
  have hl := hb.lt
  go_enter Try.func28, Try.ntmps28
  go_wp2_with fail
  go_ret
  exact ⟨rfl, rfl⟩
set_option maxHeartbeats 1000000 in
theorem cBottomLeft_any (w : World) (b : Nat) (z0 z1 z2 z3 z4 z5 z6 z7 z8 z9 : Value) (hb : Box w b #[z0, z1, z2, z3, z4, z5, z6, z7, z8, z9] 101) (x y : Nat) :
    Calls Try.prog 29 #[.pointer (some ⟨b, 0, none⟩), .float .f64 x, .float .f64 y] w fun r w' => r = .returned (.pointer (some ⟨b, 0, none⟩)) ∧ w' = (w.setCell ⟨b, 4, none⟩ (.iface 102 (.slice (some ⟨w.heap.size, 0, none⟩) 2 2))).alloc (.cells #[.float .f64 x, .float .f64 y] 26) := by
  have c := hb.cell 4 _ rfl
  have f := hb.free 4
  have hl := hb.lt
  go_enter Try.func29, Try.ntmps29
  go_wp2_with fail
  go_ret
  exact ⟨rfl, rfl⟩
end Go.Proofs.Ytfngaoicoecncaa
