/-
  Fields that several settings turn: bounds, and whether they are included.
-/
import Derived.Test.YtdpgmmkecghihaaAny
namespace Go.Proofs.Ytdpgmmkecghihaa
open Go.RowKit

def jU : Option T → J
  | none => .null
  | some t => if t.kind = 0 then .null else jOf t
/-- A field that holds a value or nothing. -/
def FU (v : Value) (o : Option T) : Prop := ∀ w, JAt (fun _ => False) w v (jU o)
/-- The last value under one of three names. -/
def bound (a b c : ByteArray) (ps : List (ByteArray × T)) : Option T := ps.foldl (fun o p => if p.1 = a then some p.2 else if p.1 = b then some p.2 else if p.1 = c then some p.2 else o) none
/-- Whether a bound is included: one name says no, one yes, one as told. -/
def incl (no yes told : ByteArray) (ps : List (ByteArray × T)) : Bool := ps.foldl (fun o p => if p.1 = no then false else if p.1 = yes then true else if p.1 = told then p.2.yes else o) true
theorem bound_snoc {a b c : ByteArray} {ps : List (ByteArray × T)} {j : Nat} {p : ByteArray × T} (h : ps[j]? = some p) : bound a b c (ps.take (j + 1)) = if p.1 = a then some p.2 else if p.1 = b then some p.2 else if p.1 = c then some p.2 else bound a b c (ps.take j) := by
  unfold bound
  rw [take_snoc h, List.foldl_append]
  rfl
theorem incl_snoc {a b c : ByteArray} {ps : List (ByteArray × T)} {j : Nat} {p : ByteArray × T} (h : ps[j]? = some p) : incl a b c (ps.take (j + 1)) = if p.1 = a then false else if p.1 = b then true else if p.1 = c then p.2.yes else incl a b c (ps.take j) := by
  unfold incl
  rw [take_snoc h, List.foldl_append]
  rfl
/-- The plain value of a scalar, or of nothing. -/
def UT (t : T) : Prop := t.kind = 0 ∨ PlainT t
set_option maxHeartbeats 1000000 in
theorem plain_u {S : Nat → Prop} (e : El) (t : T) (w : World) (h : TreeAt S w e t) (hs : UT t) : Calls Try.prog 85 #[e.val] w fun r w' => ∃ v, r = .returned v ∧ (v = .nilIface ∨ ∃ ty x, v = .iface ty x) ∧ (∀ w, JAt (fun _ => False) w v (jU (some t))) ∧ Ext w w' := by
  by_cases h0 : t.kind = 0
  · obtain ⟨k, x, d, y, ka, n, kc, ca, m, cc⟩ := e
    have hk := h.parts.1
    simp only at hk
    rw [h0] at hk
    subst hk
    clear h
    have hj : jU (some t) = .null := by simp [jU, h0]
    rw [hj]
    clear hj hs h0
    simp only [El.val]
    go_enter Try.func85, Try.ntmps85
    go_wp2_with fail
    go_ret
    exact ⟨_, rfl, .inl rfl, fun _ => by simp [JAt], by (repeat (first | exact ext_refl _ | assumption | refine ext_alloc ?_ _ | refine ext_drew ?_ | refine ext_set ?_ (by simp) _ | refine ext_trans ?_ (by assumption)))⟩
  · have hp : PlainT t := hs.resolve_left h0
    refine (plain_kind e t w h hp).mono ?_
    rintro r w2 ⟨ty, x, rfl, hJ, hx⟩
    have hj : jU (some t) = jOf t := by simp [jU, h0]
    exact ⟨_, rfl, .inr ⟨_, _, rfl⟩, fun w => by rw [hj]; exact JAt.no hJ, hx⟩
/-- All settings of a name are scalars or nothing. -/
def UAt (ps : List (ByteArray × T)) (k : ByteArray) : Prop := ∀ p ∈ ps, seq p.1 k = true → UT p.2
end Go.Proofs.Ytdpgmmkecghihaa
