/-
  The reference's functions as plain Lean functions over trees: no memory, no program.
-/
import Derived.Test.YtfngaoicoecncaaGreatDoorBase
namespace Go.Proofs.YtfngaoicoecncaaGreatDoor
open Go.RowKit

/-- The bits of a float stand for a number: no infinity, no NaN. -/
def finiteB (x : Nat) : Bool := match FloatKind.f64.format.read x with | .number .. => true | _ => false

theorem sub_finite {x : Nat} (h : finiteB x = true) : FloatKind.f64.format.sub x x = some 0 := by
  unfold finiteB at h
  unfold Ieee.Format.sub
  cases hr : FloatKind.f64.format.read x with
  | infinity s => simp [hr] at h
  | nan s f => simp [hr] at h
  | number s m i =>
    cases s <;> simp [Ieee.Datum.opposite, Ieee.Datum.sum, Ieee.signed, Ieee.Format.write, Ieee.Format.nearest, Ieee.Format.word, Int.add_left_neg, Int.add_right_neg]
theorem sub_not_finite {x : Nat} (h : finiteB x = false) : FloatKind.f64.format.sub x x = none := by
  unfold finiteB at h
  unfold Ieee.Format.sub
  cases hr : FloatKind.f64.format.read x with
  | infinity s => cases s <;> simp [Ieee.Datum.opposite, Ieee.Datum.sum]
  | nan s f => simp [Ieee.Datum.sum]
  | number s m i => simp [hr] at h
theorem order_nan {x t : Nat} (y z : Nat) (h : x = (Question.nanBits .f64 y z).cut t) (v : Nat) : FloatKind.f64.format.order x v = none := by
  have hx : ∃ s f, FloatKind.f64.format.read x = .nan s f := by
    have h1 : (t / 2) % (2 ^ 52 - 1) < 2 ^ 52 - 1 := Nat.mod_lt _ (by decide)
    have h2 : x = (t % 2) * 2 ^ 63 + 0x7ff0000000000000 + 1 + (t / 2) % (2 ^ 52 - 1) := h
    generalize (t / 2) % (2 ^ 52 - 1) = r at h1 h2
    have h3 : x % 9223372036854775808 = 0x7ff0000000000000 + 1 + r := by omega
    unfold Ieee.Format.read
    dsimp only
    have e1 : FloatKind.f64.format.signWeight = 9223372036854775808 := by decide
    have e2 : FloatKind.f64.format.binade = 4503599627370496 := by decide
    have e3 : FloatKind.f64.format.infRung = 0x7ff0000000000000 := by decide
    rw [e1, e2, e3, h3, if_neg (by omega), if_neg (by omega), if_neg (by omega)]
    exact ⟨_, _, rfl⟩
  obtain ⟨s, f, hx⟩ := hx
  simp [Ieee.Format.order, hx, Ieee.Datum.order]
theorem order_self {x : Nat} (h : finiteB x = true) : FloatKind.f64.format.order x x = some .eq := by
  unfold finiteB at h
  cases hr : FloatKind.f64.format.read x with
  | infinity s => simp [hr] at h
  | nan s f => simp [hr] at h
  | number s m i => simp [Ieee.Format.order, hr, Ieee.Datum.order]

def scalarF (k : Int) (x : ByteArray) (d n m : Nat) : Bool :=
  if 0 < n then false else if 0 < m then false
  else if k = 1 then !x.toList.isEmpty else if k = 2 then finiteB d else k == 3
def scalarT (t : T) : Bool := scalarF t.kind t.text t.num t.keys.length t.kids.length
def scalarsT (l : List T) : Bool := l.all scalarT && decide (0 < l.length)

def seq (a b : ByteArray) : Bool := a.toList == b.toList
def hasS (l : List ByteArray) (s : ByteArray) : Bool := l.any (seq · s)

/-! ### maps -/
def wstep {α : Type} (key : ByteArray) (kid : α) (acc : List ByteArray × List α × Bool) (p : ByteArray × α) : List ByteArray × List α × Bool :=
  let acc1 := if !acc.2.2 && !(Op.bytesLess p.1.toList key.toList) then (acc.1 ++ [key], acc.2.1 ++ [kid], true) else acc
  if seq p.1 key then acc1 else (acc1.1 ++ [p.1], acc1.2.1 ++ [p.2], acc1.2.2)
def wend {α : Type} (key : ByteArray) (kid : α) (acc : List ByteArray × List α × Bool) : List ByteArray × List α × Bool := if acc.2.2 then acc else (acc.1 ++ [key], acc.2.1 ++ [kid], acc.2.2)
def withL {α : Type} (key : ByteArray) (kid : α) (ks : List ByteArray) (xs : List α) : List ByteArray × List α × Bool := wend key kid ((ks.zip xs).foldl (wstep key kid) ([], [], false))
theorem wstep_len {α : Type} (key : ByteArray) (kid : α) (acc : List ByteArray × List α × Bool) (p : ByteArray × α) (k : Nat) (h : acc.1.length ≤ k + acc.2.2.toNat ∧ acc.2.1.length = acc.1.length) :
    (wstep key kid acc p).1.length ≤ k + 1 + (wstep key kid acc p).2.2.toNat ∧ (wstep key kid acc p).2.1.length = (wstep key kid acc p).1.length := by
  obtain ⟨a, b, c⟩ := acc
  unfold wstep
  simp only at h ⊢
  cases c <;> cases hb : Op.bytesLess p.1.toList key.toList <;> cases hs : seq p.1 key <;> simp at h ⊢ <;> omega
theorem wfold_len {α : Type} (key : ByteArray) (kid : α) (l : List (ByteArray × α)) (acc : List ByteArray × List α × Bool) (k : Nat) (h : acc.1.length ≤ k + acc.2.2.toNat ∧ acc.2.1.length = acc.1.length) :
    (l.foldl (wstep key kid) acc).1.length ≤ k + l.length + (l.foldl (wstep key kid) acc).2.2.toNat ∧ (l.foldl (wstep key kid) acc).2.1.length = (l.foldl (wstep key kid) acc).1.length := by
  induction l generalizing acc k with
  | nil => simpa using h
  | cons p r ih =>
    have := ih (wstep key kid acc p) (k + 1) (wstep_len key kid acc p k h)
    simp only [List.foldl_cons, List.length_cons] at this ⊢
    omega
theorem wtake_len {α : Type} (key : ByteArray) (kid : α) (l : List (ByteArray × α)) (k : Nat) :
    ((l.take k).foldl (wstep key kid) ([], [], false)).1.length ≤ k + ((l.take k).foldl (wstep key kid) ([], [], false)).2.2.toNat ∧ ((l.take k).foldl (wstep key kid) ([], [], false)).2.1.length = ((l.take k).foldl (wstep key kid) ([], [], false)).1.length := by
  have := wfold_len key kid (l.take k) ([], [], false) 0 (by simp)
  have h2 : (l.take k).length ≤ k := List.length_take_le _ _
  omega
theorem wstep_map {α β : Type} (f : α → β) (key : ByteArray) (kid : α) (acc : List ByteArray × List α × Bool) (p : ByteArray × α) :
    wstep key (f kid) (acc.1, acc.2.1.map f, acc.2.2) (p.1, f p.2) = ((wstep key kid acc p).1, (wstep key kid acc p).2.1.map f, (wstep key kid acc p).2.2) := by
  obtain ⟨a, b, c⟩ := acc
  unfold wstep
  cases c <;> cases Op.bytesLess p.1.toList key.toList <;> cases seq p.1 key <;> simp
theorem wfold_map {α β : Type} (f : α → β) (key : ByteArray) (kid : α) (l : List (ByteArray × α)) (acc : List ByteArray × List α × Bool) :
    (l.map fun p => (p.1, f p.2)).foldl (wstep key (f kid)) (acc.1, acc.2.1.map f, acc.2.2) = ((l.foldl (wstep key kid) acc).1, (l.foldl (wstep key kid) acc).2.1.map f, (l.foldl (wstep key kid) acc).2.2) := by
  induction l generalizing acc with
  | nil => rfl
  | cons p r ih => simp only [List.map_cons, List.foldl_cons]; rw [wstep_map]; exact ih _
theorem withL_map {α β : Type} (f : α → β) (key : ByteArray) (kid : α) (ks : List ByteArray) (xs : List α) :
    withL key (f kid) ks (xs.map f) = ((withL key kid ks xs).1, (withL key kid ks xs).2.1.map f, (withL key kid ks xs).2.2) := by
  have h := wfold_map f key kid (ks.zip xs) ([], [], false)
  have hz : ks.zip (xs.map f) = (ks.zip xs).map fun p => (p.1, f p.2) := by
    rw [List.zip_map_right]; rfl
  unfold withL
  rw [hz]
  simp only [List.map_nil] at h
  rw [h]
  unfold wend
  split <;> simp
abbrev emptyS : ByteArray := ⟨#[]⟩
def withT (t : T) (key : ByteArray) (kid : T) : T := let r := withL key kid t.keys t.kids; .mk 5 emptyS 0 false r.1 r.2.1

theorem withL_len {α : Type} (key : ByteArray) (kid : α) (ks : List ByteArray) (xs : List α) : (withL key kid ks xs).1.length ≤ ks.length + 1 ∧ (withL key kid ks xs).2.1.length = (withL key kid ks xs).1.length := by
  have h := wfold_len key kid (ks.zip xs) ([], [], false) 0 (by simp)
  have hz : (ks.zip xs).length ≤ ks.length := by rw [List.length_zip]; omega
  have hb : ((ks.zip xs).foldl (wstep key kid) ([], [], false)).2.2.toNat ≤ 1 := Bool.toNat_le _
  unfold withL wend
  split
  · omega
  · rename_i hn
    have : ((ks.zip xs).foldl (wstep key kid) ([], [], false)).2.2.toNat = 0 := by simpa using hn
    simp only [List.length_append, List.length_cons, List.length_nil]
    omega
def emptyM : T := .mk 5 emptyS 0 false [] []
def mapT (ps : List (ByteArray × T)) : T := ps.foldl (fun t p => withT t p.1 p.2) emptyM
theorem mapT_len (ps : List (ByteArray × T)) : (mapT ps).keys.length ≤ ps.length ∧ (mapT ps).kids.length = (mapT ps).keys.length := by
  have key : ∀ (l : List (ByteArray × T)) (t : T), t.kids.length = t.keys.length → (l.foldl (fun t p => withT t p.1 p.2) t).keys.length ≤ t.keys.length + l.length ∧ (l.foldl (fun t p => withT t p.1 p.2) t).kids.length = (l.foldl (fun t p => withT t p.1 p.2) t).keys.length := by
    intro l
    induction l with
    | nil => intro t h; simpa using h
    | cons p r ih =>
      intro t h
      have h2 := withL_len p.1 p.2 t.keys t.kids
      have := ih (withT t p.1 p.2) h2.2
      simp only [List.foldl_cons, List.length_cons]
      have h3 : (withT t p.1 p.2).keys.length ≤ t.keys.length + 1 := h2.1
      omega
  have h := key ps emptyM rfl
  have e : (emptyM.keys).length = 0 := rfl
  exact ⟨by have := h.1; rw [e] at this; unfold mapT; omega, h.2⟩
end Go.Proofs.YtfngaoicoecncaaGreatDoor
