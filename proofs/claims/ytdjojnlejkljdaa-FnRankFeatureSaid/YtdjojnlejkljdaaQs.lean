/-
  Queries as values: what the method Source of each gives; lists of them.
-/
import Derived.Test.YtdjojnlejkljdaaGv
namespace Go.Proofs.Ytdjojnlejkljdaa
open Go.RowKit Go.Maps

section
variable {ops : Array Oper} {rest : List Oper} {o : Oper} {a : Act} {Q : Exit → Act → World → Prop}
/-- An entry of a map as it is written down, in a walk. -/
theorem wp_ins (w : World) (hg : o.guard = none) (m x v : Operand) (t : TypeId) (hop : o.op = Op.insert t m x v) (e : TypeId) (ht : Try.prog.underlying t = some (.map 9 e)) (b : Nat) (ps : List (ByteArray × Value)) (hm : a.eval m = .map (some b)) (hM : MapAt w b ps) (hn : ps.length < maxLen)
    (key : ByteArray) (hx : a.eval x = .string key) (hk : key.size ≤ maxLen) (val : Value) (hv : a.eval v = val)
    (hK : ∀ w', MapAt w' b (ps ++ [(key, val)]) → w.grownBy w' (some b) → wpList Try.prog ops Q rest (a.put o.dst undef) w') : wpList Try.prog ops Q (o :: rest) a w := by
  refine wpList_plain hg fun K' hK' => ?_
  obtain ⟨w', hrun, r1, r2⟩ := hM.update ht hn hk val
  unfold Oper.wp
  simp [execOp, hop, hm, hx, hv, hrun, Result.andThen]
  exact hK' _ _ (hK w' r1 r2)
theorem op_ins {K : Act → World → Prop} (w : World) (m x v : Operand) (t : TypeId) (hop : o.op = Op.insert t m x v) (e : TypeId) (ht : Try.prog.underlying t = some (.map 9 e)) (b : Nat) (ps : List (ByteArray × Value)) (hm : a.eval m = .map (some b)) (hM : MapAt w b ps) (hn : ps.length < maxLen)
    (key : ByteArray) (hx : a.eval x = .string key) (hk : key.size ≤ maxLen) (val : Value) (hv : a.eval v = val)
    (hK : ∀ w', MapAt w' b (ps ++ [(key, val)]) → w.grownBy w' (some b) → K (a.put o.dst undef) w') : o.wp Try.prog a w K Q := by
  obtain ⟨w', hrun, r1, r2⟩ := hM.update ht hn hk val
  unfold Oper.wp
  simp [execOp, hop, hm, hx, hv, hrun, Result.andThen]
  exact hK w' r1 r2
end
/-- A value whose method Source gives j, as long as the blocks of S stay. -/
def Gives (S : Nat → Prop) (w : World) (q : Value) (j : J) : Prop := ∃ ty x f, q = .iface ty x ∧ (∀ fuel w', (method (fuel + 1) ty x "Source").run Try.prog w' = .ok (f, x) w') ∧ (∀ w', (callFunc f #[x]).run Try.prog w' = .ok (.enter f #[x]) w') ∧
  ∀ w', Keeps S w w' → w.heap.size ≤ w'.heap.size → Calls Try.prog f #[x] w' fun r w'' => ∃ ty' x', r = .returned (.tuple #[.iface ty' x', .nilIface]) ∧ JAt (fun b => w'.heap.size ≤ b) w'' (.iface ty' x') j ∧ Ext w' w''
theorem Gives.keep {S S' : Nat → Prop} {w w' : World} {q : Value} {j : J} (h : Gives S w q j) (hS : ∀ b, S b → b < w.heap.size → S' b) (k : Keeps S w w') (hsz : w.heap.size ≤ w'.heap.size) : Gives S' w' q j := by
  obtain ⟨ty, x, f, rfl, hm, hm2, hc⟩ := h
  refine ⟨ty, x, f, rfl, hm, hm2, fun w2 k2 h2 => hc w2 (fun b hb hl => ?_) (by omega)⟩
  rw [k2 b (hS b hb hl) (by omega)]
  exact k b hb hl
theorem Gives.ext {S : Nat → Prop} {w w' : World} {q : Value} {j : J} (h : Gives S w q j) (x : Ext w w') : Gives S w' q j := h.keep (fun _ h _ => h) (x.keeps S) x.sz
theorem Gives.to {S S' : Nat → Prop} {w : World} {q : Value} {j : J} (h : Gives S w q j) (hS : ∀ b, S b → b < w.heap.size → S' b) : Gives S' w q j := h.keep hS (fun _ _ _ => rfl) (Nat.le_refl _)
theorem Gives.one {S : Nat → Prop} {w : World} {q : Value} {j : J} (h : Gives S w q j) : q.oneCell' = true := by
  obtain ⟨ty, x, f, rfl, -⟩ := h
  rfl
/-- Values and what each gives. -/
def GivesL (S : Nat → Prop) (w : World) (vs : List Value) (js : List J) : Prop := vs.length = js.length ∧ ∀ (i : Nat) (q : Value) (j : J), vs[i]? = some q → js[i]? = some j → Gives S w q j
theorem GivesL.nil (S : Nat → Prop) (w : World) : GivesL S w [] [] := ⟨rfl, fun _ _ _ h => by simp at h⟩
theorem GivesL.keep {S S' : Nat → Prop} {w w' : World} {vs : List Value} {js : List J} (h : GivesL S w vs js) (hS : ∀ b, S b → b < w.heap.size → S' b) (k : Keeps S w w') (hsz : w.heap.size ≤ w'.heap.size) : GivesL S' w' vs js :=
  ⟨h.1, fun i q j hq hj => (h.2 i q j hq hj).keep hS k hsz⟩
theorem GivesL.append {S : Nat → Prop} {w : World} {vs us : List Value} {js ks : List J} (h : GivesL S w vs js) (k : GivesL S w us ks) : GivesL S w (vs ++ us) (js ++ ks) := by
  refine ⟨by simp [h.1, k.1], fun i u q hu hq => ?_⟩
  by_cases hi : i < vs.length
  · rw [List.getElem?_append_left hi] at hu
    rw [List.getElem?_append_left (by rw [← h.1]; exact hi)] at hq
    exact h.2 i u q hu hq
  · rw [List.getElem?_append_right (by omega)] at hu
    rw [List.getElem?_append_right (by rw [← h.1]; omega), ← h.1] at hq
    exact k.2 _ u q hu hq
theorem GivesL.one {S : Nat → Prop} {w : World} {q : Value} {j : J} (h : Gives S w q j) : GivesL S w [q] [j] := ⟨rfl, fun i u p hu hp => by
  cases i with
  | zero => simp at hu hp; subst hu hp; exact h
  | succ i => simp at hu⟩
theorem GivesL.cells {S : Nat → Prop} {w : World} {vs : List Value} {js : List J} (h : GivesL S w vs js) : ∀ u ∈ vs, u.oneCell' = true := fun u hu => by
  obtain ⟨i, hi⟩ := List.getElem?_of_mem hu
  obtain ⟨q, hq⟩ := some_of_lt (l := js) rfl (show i < js.length by rw [← h.1]; exact (List.getElem?_eq_some_iff.1 hi).1)
  exact (h.2 i u q hi hq).one
/-- A list of queries in memory. -/
def QsAt (S : Nat → Prop) (w : World) (a : Option Addr) (n c : Nat) (js : List J) : Prop :=
  ∃ vs, vs.length = n ∧ n ≤ c ∧ c ≤ maxLen ∧ (∀ i u, vs[i]? = some u → ∃ b off, a = some ⟨b, off, none⟩ ∧ S b ∧ w.cell? ⟨b, off + i, none⟩ = some u) ∧ GivesL S w vs js
theorem QsAt.keep {S S' : Nat → Prop} {w w' : World} {a : Option Addr} {n c : Nat} {js : List J} (h : QsAt S w a n c js) (hS : ∀ b, S b → b < w.heap.size → S' b) (k : Keeps S w w') (hsz : w.heap.size ≤ w'.heap.size) : QsAt S' w' a n c js := by
  obtain ⟨vs, h1, h2, h3, h4, h5⟩ := h
  refine ⟨vs, h1, h2, h3, fun i u hu => ?_, h5.keep hS k hsz⟩
  obtain ⟨b, off, e, hb, hc⟩ := h4 i u hu
  exact ⟨b, off, e, hS b hb (lt_of_cell hc), k.cell hb hc⟩
theorem QsAt.ext {S : Nat → Prop} {w w' : World} {a : Option Addr} {n c : Nat} {js : List J} (h : QsAt S w a n c js) (x : Ext w w') : QsAt S w' a n c js := h.keep (fun _ h _ => h) (x.keeps S) x.sz
theorem QsAt.to {S S' : Nat → Prop} {w : World} {a : Option Addr} {n c : Nat} {js : List J} (h : QsAt S w a n c js) (hS : ∀ b, S b → b < w.heap.size → S' b) : QsAt S' w a n c js := h.keep hS (fun _ _ _ => rfl) (Nat.le_refl _)
theorem QsAt.len {S : Nat → Prop} {w : World} {a : Option Addr} {n c : Nat} {js : List J} (h : QsAt S w a n c js) : js.length = n := by
  obtain ⟨vs, h1, -, -, -, h5⟩ := h
  rw [← h5.1, h1]
/-- Values of interfaces that the call itself has appended. -/
def OwnV (t : TypeId) (w : World) (base : Nat) (v : Value) (vs : List Value) : Prop := w.ownsRow base t 1 v vs.length vs
theorem OwnV.ext {t : TypeId} {w w' : World} {base : Nat} {v : Value} {vs : List Value} (h : OwnV t w base v vs) (x : Ext w w') : OwnV t w' base v vs := World.ownsRow.kept h (grown_of_ext x none) (by cases v.ownBlock <;> simp)
theorem OwnV.grown {t : TypeId} {w w' : World} {base : Nat} {v : Value} {vs : List Value} (h : OwnV t w base v vs) {r : Option Nat} (g : w.grownBy w' r) (hne : v.ownBlock = none ∨ v.ownBlock ≠ r) : OwnV t w' base v vs := World.ownsRow.kept h g hne
theorem OwnV.cells {t : TypeId} {S : Nat → Prop} {w : World} {base : Nat} {v : Value} {vs : List Value} (h : OwnV t w base v vs) (hS : ∀ b, v.ownBlock = some b → S b) : ∃ a c, v = .slice a vs.length c ∧ vs.length ≤ c ∧ c ≤ maxLen ∧ ∀ i u, vs[i]? = some u → ∃ b off, a = some ⟨b, off, none⟩ ∧ S b ∧ w.cell? ⟨b, off + i, none⟩ = some u := by
  obtain ⟨h1, h2⟩ := id h
  rcases h2 with ⟨rfl, h0⟩ | ⟨g, cap, cur, rfl, hg, hh, h3, h4, h5, h6⟩
  · refine ⟨none, 0, by rw [h0], by omega, by simp [maxLen], fun i s hi => ?_⟩
    rw [List.length_eq_zero_iff.1 h0] at hi
    cases hi
  · refine ⟨_, _, rfl, h3, h4, fun i s hi => ⟨g, 0, rfl, hS g rfl, ?_⟩⟩
    have := World.ownsRow.cells h (g := g) rfl i s (by simp [hi])
    simpa [Addr.add_lit] using this
theorem OwnV.qs {t : TypeId} {S : Nat → Prop} {w : World} {base : Nat} {v : Value} {vs : List Value} {js : List J} (h : OwnV t w base v vs) (hS : ∀ b, v.ownBlock = some b → S b) (hg : GivesL S w vs js) : ∃ a c, v = .slice a vs.length c ∧ QsAt S w a vs.length c js := by
  obtain ⟨a, c, e, h1, h2, h3⟩ := h.cells hS
  exact ⟨a, c, e, vs, rfl, h1, h2, h3, hg⟩
theorem OwnV.block {t : TypeId} {w : World} {base : Nat} {v : Value} {vs : List Value} (h : OwnV t w base v vs) {g : Nat} (hg : v.ownBlock = some g) : base ≤ g ∧ g < w.heap.size := World.ownsRow.lt h g hg

theorem jMap_iface {S : Nat → Prop} {w : World} {v : Value} {l : List (ByteArray × J)} (h : JAt S w v (jMap l)) : ∃ x, v = .iface 149 x := by
  unfold jMap at h
  simp only [JAt] at h
  obtain ⟨b, vs, e, -⟩ := h
  exact ⟨_, e⟩
end Go.Proofs.Ytdjojnlejkljdaa
