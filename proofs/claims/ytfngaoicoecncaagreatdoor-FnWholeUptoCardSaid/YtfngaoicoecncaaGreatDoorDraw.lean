/-
  A statement whose order Go leaves open: where its loads look at memory that nothing in it turns, it may be walked in one order.
-/
import Derived.Test.YtfngaoicoecncaaGreatDoorBase
import Derived.OrdersHeld
namespace Go.Proofs.YtfngaoicoecncaaGreatDoor
open Go.RowKit

section
variable {P : Program} {ops : Array Oper} {Q : Exit → Act → World → Prop} {md : Region.Mode} {S : World → Prop}

/-- May an operation of the list come behind number i? Then what i leaves must meet S. -/
def needB (md : Region.Mode) (ops : Array Oper) (held : List Nat) (i : Nat) : Bool :=
  held.any fun j => j != i && match ops[i]? with | some o => !(o.after.any fun e => Region.binds md e && e.on == j) | none => true

def wpAnyN (P : Program) (md : Region.Mode) (ops : Array Oper) (Q : Exit → Act → World → Prop) (S : World → Prop) (held : List Nat) : Nat → Array Bool → Act → World → Prop
  | 0, listed, a, w => Region.ready md ops listed = [] ∧ Q .normal a w
  | fuel + 1, listed, a, w =>
    (Region.ready md ops listed = [] → Q .normal a w) ∧
    ∀ i ∈ Region.ready md ops listed, wpOp P ops Q i (fun a' w' => (needB md ops held i = true → S w') ∧ wpAnyN P md ops Q S held fuel (listed.setIfInBounds i true) a' w') a w

theorem wpAny_of_N {held : List Nat} : ∀ (fuel : Nat) (listed : Array Bool) (a : Act) (w : World), wpAnyN P md ops Q S held fuel listed a w → wpAny P md ops Q fuel listed a w
  | 0, _, _, _, h => h
  | fuel + 1, _, _, _, h => ⟨h.1, fun i hi => wpOp_mono (fun a' w' h' => wpAny_of_N fuel _ a' w' h'.2) (h.2 i hi)⟩

theorem wpAnyN_first {held : List Nat} {i : Nat} {oi : Oper} {v : Value} (hh : i ∈ held) (hi : ops[i]? = some oi) (hsel : ∀ (j : Nat) (o : Oper) cs b, ops[j]? = some o → o.op ≠ .select cs b)
    (hQ : ∀ c a w, Q (.panic c) (a.put oi.dst v) w → Q (.panic c) a w) :
    ∀ (fuel : Nat) (listed : Array Bool) (a : Act) (w : World),
      (∀ j oj, ops[j]? = some oj → j ≠ i → listed.getD j true = false → (∀ e ∈ oj.after, Region.binds md e = true → e.on ≠ i) → oi.apart ops oj = true) →
      i ∈ Region.ready md ops listed → YieldsIf P ops S oi v a → S w →
      wpAnyN P md ops Q S held fuel (listed.setIfInBounds i true) (a.put oi.dst v) w → wpAnyN P md ops Q S held (fuel + 1) listed a w := by
  intro fuel
  induction fuel with
  | zero =>
    intro listed a w _ hr hy hS H
    refine ⟨fun h => (by rw [h] at hr; cases hr), fun j hj => ?_⟩
    by_cases hji : j = i
    · subst hji; exact hy.wpOp hi hS ⟨fun _ => hS, H⟩
    · have := ready_mono hj hji
      rw [H.1] at this
      cases this
  | succ fuel ih =>
    intro listed a w hfree hr hy hS H
    refine ⟨fun h => (by rw [h] at hr; cases hr), fun j hj => ?_⟩
    by_cases hji : j = i
    · subst hji; exact hy.wpOp hi hS ⟨fun _ => hS, H⟩
    · have h1 := H.2 j (ready_mono hj hji)
      obtain ⟨hjun, oj, hoj, hall⟩ := mem_ready.1 hj
      have hnot : ∀ e ∈ oj.after, Region.binds md e = true → e.on ≠ i := fun e he hb heq => by
        have h1 := hall e he hb
        have h0 := (mem_ready.1 hr).1
        rw [heq] at h1
        rcases Nat.lt_or_ge i listed.size with h' | h'
        · simp [h'] at h0 h1; rw [h0] at h1; cases h1
        · simp [Array.getElem?_eq_none h'] at h1
      have hneed : needB md ops held j = true := by
        unfold needB
        rw [List.any_eq_true]
        refine ⟨i, hh, ?_⟩
        rw [hoj]
        have h3 : (oj.after.any fun e => Region.binds md e && e.on == i) = false := by
          rw [Bool.eq_false_iff]
          intro h4
          rw [Array.any_eq_true'] at h4
          obtain ⟨e, he, hb⟩ := h4
          simp only [Bool.and_eq_true, beq_iff_eq] at hb
          exact hnot e he hb.1 hb.2
        simp [h3, Ne.symm hji]
      have h2 := wpOp_putIf hoj (hfree j oj hoj hji hjun hnot) (fun cs b => hsel i oi cs b hi) (fun cs b => hsel j oj cs b hoj) hQ hy h1
      have hfree' : ∀ k ok, ops[k]? = some ok → k ≠ i → (listed.setIfInBounds j true).getD k true = false →
          (∀ e ∈ ok.after, Region.binds md e = true → e.on ≠ i) → oi.apart ops ok = true := fun k ok hk hki hun hno => by
        refine hfree k ok hk hki ?_ hno
        by_cases hjk : j = k
        · subst hjk; exact hjun
        · rw [getD_set_ne true hjk] at hun; exact hun
      refine wpOp_mono (fun a' w' h3 => ⟨h3.2.1, ih (listed.setIfInBounds j true) a' w' hfree' (ready_mono hr (Ne.symm hji)) h3.1 (h3.2.1 hneed) ?_⟩) h2
      rw [Array.setIfInBounds_comm _ _ hji]
      exact h3.2.2

/-- One order: of 'held' each yields in every world that meets S; of the others each is the only one that may come up. -/
def wpOrder (P : Program) (ops : Array Oper) (Q : Exit → Act → World → Prop) (S : World → Prop) (held : List Nat) : List Nat → Act → World → Prop
  | [], a, w => Q .normal a w
  | i :: rest, a, w =>
    if held.contains i then ∃ oi v, ops[i]? = some oi ∧ YieldsIf P ops S oi v a ∧ S w ∧ wpOrder P ops Q S held rest (a.put oi.dst v) w
    else wpOp P ops Q i (fun a' w' => (needB .any ops held i = true → S w') ∧ wpOrder P ops Q S held rest a' w') a w

def orderB (ops : Array Oper) (held : List Nat) : List Nat → Array Bool → Bool
  | [], listed => (Region.ready .any ops listed).isEmpty
  | i :: rest, listed =>
    (if held.contains i then (Region.ready .any ops listed).contains i && Region.free .any ops listed i else Region.ready .any ops listed == [i]) && orderB ops held rest (listed.setIfInBounds i true)

theorem wpAnyN_of_order {held : List Nat} (hsel : Region.noSelect ops = true) (hQ : ∀ (d : Option Tmp) (v : Value) c a w, Q (.panic c) (a.put d v) w → Q (.panic c) a w) :
    ∀ (order : List Nat) (listed : Array Bool) (a : Act) (w : World), orderB ops held order listed = true → wpOrder P ops Q S held order a w → wpAnyN P .any ops Q S held order.length listed a w
  | [], listed, a, w, hB, h => ⟨by simpa [orderB] using hB, h⟩
  | i :: rest, listed, a, w, hB, h => by
    simp only [orderB, Bool.and_eq_true] at hB
    simp only [wpOrder] at h
    by_cases hc : held.contains i = true
    · rw [if_pos hc] at hB h
      obtain ⟨oi, v, hi, hy, hS, h⟩ := h
      simp only [Bool.and_eq_true] at hB
      exact wpAnyN_first (by simpa using hc) hi (Region.noSelect_spec hsel) (hQ oi.dst v) rest.length listed a w (Region.free_spec hi hB.1.2) (by simpa using hB.1.1) hy hS (wpAnyN_of_order hsel hQ rest _ _ _ hB.2 h)
    · rw [if_neg hc] at hB h
      have hr : Region.ready .any ops listed = [i] := by simpa using hB.1
      refine ⟨fun h0 => (by rw [h0] at hr; cases hr), fun j hj => ?_⟩
      rw [hr] at hj
      obtain rfl : j = i := by simpa using hj
      exact wpOp_mono (fun a' w' h' => ⟨h'.1, wpAnyN_of_order hsel hQ rest _ _ _ hB.2 h'.2⟩) h

theorem wp_region_order {id : Nat} {a : Act} {w : World} {l : List Oper} (S : World → Prop) (held order : List Nat) (hm : P.follows .mixedOrders = true) (hsel : Region.noSelect l.toArray = true)
    (hQ : ∀ (d : Option Tmp) (v : Value) c a w, Q (.panic c) (a.put d v) w → Q (.panic c) a w)
    (hB : (orderB l.toArray held order (Array.replicate l.toArray.size false) && order.length == l.toArray.size) = true) (h : wpOrder P l.toArray Q S held order a w.drew) : (Code.region id l.toArray true).wp P Q a w := by
  simp only [Bool.and_eq_true, beq_iff_eq] at hB
  refine wp_region_any hm ?_
  have := wpAny_of_N _ _ _ _ (wpAnyN_of_order hsel hQ order _ _ _ hB.1 h)
  rw [hB.2] at this
  exact this

theorem ord_held {l : List Oper} {held : List Nat} {i : Nat} {rest : List Nat} {oi : Oper} {v : Value} {a : Act} {w : World} (hc : held.contains i = true) (hi : l[i]? = some oi) (hS : S w)
    (hg : oi.guard = none) (hy : ∀ w, S w → (execOp a.eval oi).run P w = .ok (.value v) w) (h : wpOrder P l.toArray Q S held rest (a.put oi.dst v) w) : wpOrder P l.toArray Q S held (i :: rest) a w := by
  rw [wpOrder, if_pos hc]
  exact ⟨oi, v, by simpa using hi, .inl ⟨by simp [Region.wanted, hg], hy⟩, hS, h⟩
theorem ord_guard {l : List Oper} {held : List Nat} {i : Nat} {rest : List Nat} {oi : Oper} {v : Value} {a : Act} {w : World} (hc : held.contains i = true) (hi : l[i]? = some oi) (hS : S w)
    (hg : Region.wanted oi (yielded l.toArray a.tmps) = true) (hy : ∀ w, S w → (execOp a.eval oi).run P w = .ok (.value v) w) (h : wpOrder P l.toArray Q S held rest (a.put oi.dst v) w) : wpOrder P l.toArray Q S held (i :: rest) a w := by
  rw [wpOrder, if_pos hc]
  exact ⟨oi, v, by simpa using hi, .inl ⟨hg, hy⟩, hS, h⟩
theorem ord_pass {l : List Oper} {held : List Nat} {i : Nat} {rest : List Nat} {oi : Oper} {a : Act} {w : World} (hc : held.contains i = true) (hi : l[i]? = some oi) (hS : S w)
    (hg : Region.wanted oi (yielded l.toArray a.tmps) = false) (h : wpOrder P l.toArray Q S held rest (a.put oi.dst undef) w) : wpOrder P l.toArray Q S held (i :: rest) a w := by
  rw [wpOrder, if_pos hc]
  exact ⟨oi, undef, by simpa using hi, .inr ⟨hg, rfl⟩, hS, h⟩
theorem ord_loud {l : List Oper} {held : List Nat} {i : Nat} {rest : List Nat} {oi : Oper} {a : Act} {w : World} (hc : held.contains i = false) (hi : l[i]? = some oi) (hg : oi.guard = none)
    (h : ∀ K : Act → World → Prop, (∀ a' w', (needB .any l.toArray held i = true → S w') → wpOrder P l.toArray Q S held rest a' w' → K a' w') → oi.wp P a w K Q) : wpOrder P l.toArray Q S held (i :: rest) a w := by
  rw [wpOrder, if_neg (by rw [hc]; simp)]
  unfold wpOp
  simp only [show l.toArray[i]? = some oi by simpa using hi]
  rw [if_pos (by simp [Region.wanted, hg])]
  exact .inl (h _ fun a' w' h1 h2 => ⟨h1, h2⟩)
/-- A guarded operation that is passed over. -/
theorem ord_skip {l : List Oper} {held : List Nat} {i : Nat} {rest : List Nat} {oi : Oper} {a : Act} {w : World} (hc : held.contains i = false) (hi : l[i]? = some oi) (hS : S w)
    (hg : Region.wanted oi (yielded l.toArray a.tmps) = false) (h : wpOrder P l.toArray Q S held rest (a.put oi.dst undef) w) : wpOrder P l.toArray Q S held (i :: rest) a w := by
  rw [wpOrder, if_neg (by rw [hc]; simp)]
  unfold wpOp
  simp only [show l.toArray[i]? = some oi by simpa using hi]
  rw [if_neg (by rw [hg]; simp)]
  exact ⟨fun _ => hS, h⟩
/-- A guarded operation that is wanted. -/
theorem ord_want {l : List Oper} {held : List Nat} {i : Nat} {rest : List Nat} {oi : Oper} {a : Act} {w : World} (hc : held.contains i = false) (hi : l[i]? = some oi) (hg : Region.wanted oi (yielded l.toArray a.tmps) = true)
    (h : ∀ K : Act → World → Prop, (∀ a' w', (needB .any l.toArray held i = true → S w') → wpOrder P l.toArray Q S held rest a' w' → K a' w') → oi.wp P a w K Q) : wpOrder P l.toArray Q S held (i :: rest) a w := by
  rw [wpOrder, if_neg (by rw [hc]; simp)]
  unfold wpOp
  simp only [show l.toArray[i]? = some oi by simpa using hi]
  rw [if_pos hg]
  exact .inl (h _ fun a' w' h1 h2 => ⟨h1, h2⟩)
/-- The last ones need no S: nobody of the list may come behind. -/
theorem ord_last {l : List Oper} {held : List Nat} {i : Nat} {rest : List Nat} {oi : Oper} {a : Act} {w : World} (hc : held.contains i = false) (hi : l[i]? = some oi) (hg : oi.guard = none) (hn : needB .any l.toArray held i = false)
    (h : ∀ K : Act → World → Prop, (∀ a' w', wpOrder P l.toArray Q S held rest a' w' → K a' w') → oi.wp P a w K Q) : wpOrder P l.toArray Q S held (i :: rest) a w :=
  ord_loud hc hi hg fun K hK => h K fun a' w' h2 => hK a' w' (fun h0 => by rw [hn] at h0; cases h0) h2
/-- Cells that are as told. -/
abbrev C1 (p : Addr) (u : Value) (w : World) : Prop := w.cell? p = some u
abbrev C2 (p : Addr) (u : Value) (q : Addr) (v : Value) (w : World) : Prop := w.cell? p = some u ∧ w.cell? q = some v
abbrev C3 (p : Addr) (u : Value) (q : Addr) (v : Value) (r : Addr) (x : Value) (w : World) : Prop := w.cell? p = some u ∧ w.cell? q = some v ∧ w.cell? r = some x
abbrev C4 (p : Addr) (u : Value) (q : Addr) (v : Value) (r : Addr) (x : Value) (s : Addr) (y : Value) (w : World) : Prop := w.cell? p = some u ∧ w.cell? q = some v ∧ w.cell? r = some x ∧ w.cell? s = some y
theorem ord_end {held : List Nat} {a : Act} {w : World} (h : Q .normal a w) : wpOrder P ops Q S held [] a w := h
end
end Go.Proofs.YtfngaoicoecncaaGreatDoor
