/-
  A statement whose order Go leaves open, walked in a tree of orders: where two operations may come up, both ways are walked.
-/
import Derived.Test.YtfngaoicoecncaaGreatDoorDraw
namespace Go.Proofs.YtfngaoicoecncaaGreatDoor
open Go.RowKit

inductive Tr where
  | done
  | held (i : Nat) (t : Tr)
  | one (i : Nat) (t : Tr)
  | two (i : Nat) (t : Tr) (j : Nat) (u : Tr)
def Tr.depth : Tr → Nat
  | .done => 0
  | .held _ t => t.depth + 1
  | .one _ t => t.depth + 1
  | .two _ t _ _ => t.depth + 1

section
variable {P : Program} {ops : Array Oper} {Q : Exit → Act → World → Prop} {S : World → Prop}
def wpTree (P : Program) (ops : Array Oper) (Q : Exit → Act → World → Prop) (S : World → Prop) (held : List Nat) : Tr → Act → World → Prop
  | .done, a, w => Q .normal a w
  | .held i t, a, w => ∃ oi v, ops[i]? = some oi ∧ YieldsIf P ops S oi v a ∧ S w ∧ wpTree P ops Q S held t (a.put oi.dst v) w
  | .one i t, a, w => wpOp P ops Q i (fun a' w' => (needB .any ops held i = true → S w') ∧ wpTree P ops Q S held t a' w') a w
  | .two i t j u, a, w => wpOp P ops Q i (fun a' w' => (needB .any ops held i = true → S w') ∧ wpTree P ops Q S held t a' w') a w ∧
      wpOp P ops Q j (fun a' w' => (needB .any ops held j = true → S w') ∧ wpTree P ops Q S held u a' w') a w
def treeB (ops : Array Oper) (held : List Nat) : Tr → Array Bool → Bool
  | .done, listed => (Region.ready .any ops listed).isEmpty
  | .held i t, listed => held.contains i && (Region.ready .any ops listed).contains i && Region.free .any ops listed i && treeB ops held t (listed.setIfInBounds i true)
  | .one i t, listed => Region.ready .any ops listed == [i] && treeB ops held t (listed.setIfInBounds i true)
  | .two i t j u, listed => Region.ready .any ops listed == [i, j] && treeB ops held t (listed.setIfInBounds i true) && treeB ops held u (listed.setIfInBounds j true) && t.depth == u.depth
theorem wpAnyN_of_tree {held : List Nat} (hsel : Region.noSelect ops = true) (hQ : ∀ (d : Option Tmp) (v : Value) c a w, Q (.panic c) (a.put d v) w → Q (.panic c) a w) :
    ∀ (t : Tr) (listed : Array Bool) (a : Act) (w : World), treeB ops held t listed = true → wpTree P ops Q S held t a w → wpAnyN P .any ops Q S held t.depth listed a w
  | .done, listed, a, w, hB, h => ⟨by simpa [treeB] using hB, h⟩
  | .held i t, listed, a, w, hB, h => by
    simp only [treeB, Bool.and_eq_true] at hB
    obtain ⟨oi, v, hi, hy, hS, h⟩ := h
    exact wpAnyN_first (by simpa using hB.1.1.1) hi (Region.noSelect_spec hsel) (hQ oi.dst v) t.depth listed a w (Region.free_spec hi hB.1.2) (by simpa using hB.1.1.2) hy hS (wpAnyN_of_tree hsel hQ t _ _ _ hB.2 h)
  | .one i t, listed, a, w, hB, h => by
    simp only [treeB, Bool.and_eq_true] at hB
    have hr : Region.ready .any ops listed = [i] := by simpa using hB.1
    refine ⟨fun h0 => (by rw [h0] at hr; cases hr), fun j hj => ?_⟩
    rw [hr] at hj
    obtain rfl : j = i := by simpa using hj
    exact wpOp_mono (fun a' w' h' => ⟨h'.1, wpAnyN_of_tree hsel hQ t _ _ _ hB.2 h'.2⟩) h
  | .two i t k u, listed, a, w, hB, h => by
    simp only [treeB, Bool.and_eq_true] at hB
    have hr : Region.ready .any ops listed = [i, k] := by simpa using hB.1.1.1
    have hd : t.depth = u.depth := by simpa using hB.2
    refine ⟨fun h0 => (by rw [h0] at hr; cases hr), fun j hj => ?_⟩
    rw [hr] at hj
    have hj : j = i ∨ j = k := by simpa using hj
    rcases hj with rfl | rfl
    · exact wpOp_mono (fun a' w' h' => ⟨h'.1, wpAnyN_of_tree hsel hQ t _ _ _ hB.1.1.2 h'.2⟩) h.1
    · refine wpOp_mono (fun a' w' h' => ⟨h'.1, ?_⟩) h.2
      rw [hd]
      exact wpAnyN_of_tree hsel hQ u _ _ _ hB.1.2 h'.2
theorem wp_region_tree {id : Nat} {a : Act} {w : World} {l : List Oper} (S : World → Prop) (held : List Nat) (t : Tr) (hm : P.follows .mixedOrders = true) (hsel : Region.noSelect l.toArray = true)
    (hQ : ∀ (d : Option Tmp) (v : Value) c a w, Q (.panic c) (a.put d v) w → Q (.panic c) a w)
    (hB : (treeB l.toArray held t (Array.replicate l.toArray.size false) && t.depth == l.toArray.size) = true) (h : wpTree P l.toArray Q S held t a w.drew) : (Code.region id l.toArray true).wp P Q a w := by
  simp only [Bool.and_eq_true, beq_iff_eq] at hB
  refine wp_region_any hm ?_
  have := wpAny_of_N _ _ _ _ (wpAnyN_of_tree hsel hQ t _ _ _ hB.1 h)
  rw [hB.2] at this
  exact this
theorem tr_held {l : List Oper} {held : List Nat} {i : Nat} {t : Tr} {oi : Oper} {v : Value} {a : Act} {w : World} (hi : l[i]? = some oi) (hS : S w)
    (hg : oi.guard = none) (hy : ∀ w, S w → (execOp a.eval oi).run P w = .ok (.value v) w) (h : wpTree P l.toArray Q S held t (a.put oi.dst v) w) : wpTree P l.toArray Q S held (.held i t) a w :=
  ⟨oi, v, by simpa using hi, .inl ⟨by simp [Region.wanted, hg], hy⟩, hS, h⟩
theorem tr_guard {l : List Oper} {held : List Nat} {i : Nat} {t : Tr} {oi : Oper} {v : Value} {a : Act} {w : World} (hi : l[i]? = some oi) (hS : S w)
    (hg : Region.wanted oi (yielded l.toArray a.tmps) = true) (hy : ∀ w, S w → (execOp a.eval oi).run P w = .ok (.value v) w) (h : wpTree P l.toArray Q S held t (a.put oi.dst v) w) : wpTree P l.toArray Q S held (.held i t) a w :=
  ⟨oi, v, by simpa using hi, .inl ⟨hg, hy⟩, hS, h⟩
theorem op_loud {l : List Oper} {i : Nat} {oi : Oper} {a : Act} {w : World} {K : Act → World → Prop} (hi : l[i]? = some oi) (hg : oi.guard = none) (h : oi.wp P a w K Q) : wpOp P l.toArray Q i K a w := by
  unfold wpOp
  simp only [show l.toArray[i]? = some oi by simpa using hi]
  rw [if_pos (by simp [Region.wanted, hg])]
  exact .inl h
theorem op_want {l : List Oper} {i : Nat} {oi : Oper} {a : Act} {w : World} {K : Act → World → Prop} (hi : l[i]? = some oi) (hg : Region.wanted oi (yielded l.toArray a.tmps) = true) (h : oi.wp P a w K Q) : wpOp P l.toArray Q i K a w := by
  unfold wpOp
  simp only [show l.toArray[i]? = some oi by simpa using hi]
  rw [if_pos hg]
  exact .inl h
theorem tr_loud {l : List Oper} {held : List Nat} {i : Nat} {t : Tr} {oi : Oper} {a : Act} {w : World} (hi : l[i]? = some oi) (hg : oi.guard = none)
    (h : ∀ K : Act → World → Prop, (∀ a' w', (needB .any l.toArray held i = true → S w') → wpTree P l.toArray Q S held t a' w' → K a' w') → oi.wp P a w K Q) : wpTree P l.toArray Q S held (.one i t) a w :=
  op_loud hi hg (h _ fun _ _ h1 h2 => ⟨h1, h2⟩)
theorem tr_want {l : List Oper} {held : List Nat} {i : Nat} {t : Tr} {oi : Oper} {a : Act} {w : World} (hi : l[i]? = some oi) (hg : Region.wanted oi (yielded l.toArray a.tmps) = true)
    (h : ∀ K : Act → World → Prop, (∀ a' w', (needB .any l.toArray held i = true → S w') → wpTree P l.toArray Q S held t a' w' → K a' w') → oi.wp P a w K Q) : wpTree P l.toArray Q S held (.one i t) a w :=
  op_want hi hg (h _ fun _ _ h1 h2 => ⟨h1, h2⟩)
theorem tr_last {l : List Oper} {held : List Nat} {i : Nat} {t : Tr} {oi : Oper} {a : Act} {w : World} (hi : l[i]? = some oi) (hg : oi.guard = none) (hn : needB .any l.toArray held i = false)
    (h : ∀ K : Act → World → Prop, (∀ a' w', wpTree P l.toArray Q S held t a' w' → K a' w') → oi.wp P a w K Q) : wpTree P l.toArray Q S held (.one i t) a w :=
  tr_loud hi hg fun K hK => h K fun a' w' h2 => hK a' w' (fun h0 => by rw [hn] at h0; cases h0) h2
theorem tr_two {l : List Oper} {held : List Nat} {i j : Nat} {t u : Tr} {a : Act} {w : World} (h : wpTree P l.toArray Q S held (.one i t) a w) (h' : wpTree P l.toArray Q S held (.one j u) a w) : wpTree P l.toArray Q S held (.two i t j u) a w := ⟨h, h'⟩
theorem tr_end {l : List Oper} {held : List Nat} {a : Act} {w : World} (h : Q .normal a w) : wpTree P l.toArray Q S held .done a w := h
end
end Go.Proofs.YtfngaoicoecncaaGreatDoor
