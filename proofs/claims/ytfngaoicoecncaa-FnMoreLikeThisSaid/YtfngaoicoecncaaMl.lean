/-
  Lists of what is liked, in memory.
-/
import Derived.Test.YtfngaoicoecncaaMi
import Derived.Test.YtfngaoicoecncaaAny
import Derived.Laws.OwnMore
namespace Go.Proofs.Ytfngaoicoecncaa
open Go.RowKit Go.Maps

/-- Pointers to items, and what these hold. -/
def ItemsL (S : Nat → Prop) (w : World) (vs : List Value) (ds : List Doc) : Prop := vs.length = ds.length ∧ ∀ (i : Nat) (v : Value) (d : Doc), vs[i]? = some v → ds[i]? = some d → ∃ p, v = .pointer (some ⟨p, 0, none⟩) ∧ S p ∧ Box w p (docV d) 114
theorem ItemsL.nil (S : Nat → Prop) (w : World) : ItemsL S w [] [] := ⟨rfl, fun _ _ _ h => by simp at h⟩
theorem ItemsL.keep {S S' : Nat → Prop} {w w' : World} {vs : List Value} {ds : List Doc} (h : ItemsL S w vs ds) (hS : ∀ b, S b → b < w.heap.size → S' b) (k : Keeps S w w') : ItemsL S' w' vs ds :=
  ⟨h.1, fun i v d hv hd => by
    obtain ⟨p, e, hp, hb⟩ := h.2 i v d hv hd
    exact ⟨p, e, hS p hp hb.lt, (k p hp hb.lt).trans hb⟩⟩
theorem ItemsL.ext {S : Nat → Prop} {w w' : World} {vs : List Value} {ds : List Doc} (h : ItemsL S w vs ds) (x : Ext w w') : ItemsL S w' vs ds := h.keep (fun _ h _ => h) (x.keeps S)
theorem ItemsL.to {S S' : Nat → Prop} {w : World} {vs : List Value} {ds : List Doc} (h : ItemsL S w vs ds) (hS : ∀ b, S b → b < w.heap.size → S' b) : ItemsL S' w vs ds := h.keep hS (fun _ _ _ => rfl)
theorem ItemsL.append {S : Nat → Prop} {w : World} {vs us : List Value} {ds es : List Doc} (h : ItemsL S w vs ds) (k : ItemsL S w us es) : ItemsL S w (vs ++ us) (ds ++ es) := by
  refine ⟨by simp [h.1, k.1], fun i u q hu hq => ?_⟩
  by_cases hi : i < vs.length
  · rw [List.getElem?_append_left hi] at hu
    rw [List.getElem?_append_left (by rw [← h.1]; exact hi)] at hq
    exact h.2 i u q hu hq
  · rw [List.getElem?_append_right (by omega)] at hu
    rw [List.getElem?_append_right (by rw [← h.1]; omega), ← h.1] at hq
    exact k.2 _ u q hu hq
theorem ItemsL.one {S : Nat → Prop} {w : World} {p : Nat} {d : Doc} (hS : S p) (hb : Box w p (docV d) 114) : ItemsL S w [.pointer (some ⟨p, 0, none⟩)] [d] := ⟨rfl, fun i u q hu hq => by
  cases i with
  | zero => simp at hu hq; subst hu hq; exact ⟨p, rfl, hS, hb⟩
  | succ i => simp at hu⟩
/-- A list of items in memory. -/
def ItemsAt (S : Nat → Prop) (w : World) (a : Option Addr) (n c : Nat) (ds : List Doc) : Prop :=
  ∃ vs, vs.length = n ∧ n ≤ c ∧ c ≤ maxLen ∧ (∀ i u, vs[i]? = some u → ∃ b off, a = some ⟨b, off, none⟩ ∧ S b ∧ w.cell? ⟨b, off + i, none⟩ = some u) ∧ ItemsL S w vs ds
theorem ItemsAt.keep {S S' : Nat → Prop} {w w' : World} {a : Option Addr} {n c : Nat} {ds : List Doc} (h : ItemsAt S w a n c ds) (hS : ∀ b, S b → b < w.heap.size → S' b) (k : Keeps S w w') (_ : w.heap.size ≤ w'.heap.size) : ItemsAt S' w' a n c ds := by
  obtain ⟨vs, h1, h2, h3, h4, h5⟩ := h
  refine ⟨vs, h1, h2, h3, fun i u hu => ?_, h5.keep hS k⟩
  obtain ⟨b, off, e, hb, hc⟩ := h4 i u hu
  exact ⟨b, off, e, hS b hb (lt_of_cell hc), k.cell hb hc⟩
theorem ItemsAt.ext {S : Nat → Prop} {w w' : World} {a : Option Addr} {n c : Nat} {ds : List Doc} (h : ItemsAt S w a n c ds) (x : Ext w w') : ItemsAt S w' a n c ds := h.keep (fun _ h _ => h) (x.keeps S) x.sz
theorem ItemsAt.to {S S' : Nat → Prop} {w : World} {a : Option Addr} {n c : Nat} {ds : List Doc} (h : ItemsAt S w a n c ds) (hS : ∀ b, S b → b < w.heap.size → S' b) : ItemsAt S' w a n c ds := h.keep hS (fun _ _ _ => rfl) (Nat.le_refl _)
theorem ItemsAt.len {S : Nat → Prop} {w : World} {a : Option Addr} {n c : Nat} {ds : List Doc} (h : ItemsAt S w a n c ds) : ds.length = n := by
  obtain ⟨vs, h1, -, -, -, h5⟩ := h
  rw [← h5.1, h1]
/-- A list of texts: nothing is said of an empty one. -/
def TextsO (S : Nat → Prop) (w : World) (a : Option Addr) (n c : Nat) (l : List ByteArray) : Prop := l.length = n ∧ (0 < n → StrsAt S w a n c l)
theorem TextsO.keep {S S' : Nat → Prop} {w w' : World} {a : Option Addr} {n c : Nat} {l : List ByteArray} (h : TextsO S w a n c l) (hS : ∀ b, S b → b < w.heap.size → S' b) (k : Keeps S w w') (_ : w.heap.size ≤ w'.heap.size) : TextsO S' w' a n c l := ⟨h.1, fun hn => (h.2 hn).keep hS k⟩
theorem TextsO.ext {S : Nat → Prop} {w w' : World} {a : Option Addr} {n c : Nat} {l : List ByteArray} (h : TextsO S w a n c l) (x : Ext w w') : TextsO S w' a n c l := h.keep (fun _ h _ => h) (x.keeps S) x.sz
theorem TextsO.to {S S' : Nat → Prop} {w : World} {a : Option Addr} {n c : Nat} {l : List ByteArray} (h : TextsO S w a n c l) (hS : ∀ b, S b → b < w.heap.size → S' b) : TextsO S' w a n c l := h.keep hS (fun _ _ _ => rfl) (Nat.le_refl _)
theorem TextsO.texts {S : Nat → Prop} {w : World} {a : Option Addr} {n c : Nat} {l : List ByteArray} (h : TextsO S w a n c l) (hn : 0 < n) (hb : n ≤ 4294967296) : JAt S w (.iface 27 (.slice a n c)) (.texts l) := by
  simp only [JAt]
  exact ⟨_, _, _, rfl, by rw [h.1]; exact hb, h.2 hn⟩
/-- Texts under a name, if there are any. -/
def jTs (k : ByteArray) (l : List ByteArray) : List (ByteArray × J) := if l.isEmpty then [] else [(k, .texts l)]
def jLs (k : ByteArray) (l : List J) : List (ByteArray × J) := if l.isEmpty then [] else [(k, .list l)]
theorem jTs_none {k : ByteArray} {l : List ByteArray} {n : Nat} (h : l.length = n) (hn : ¬ 0 < n) : jTs k l = [] := by
  have h2 : l = [] := List.length_eq_zero_iff.1 (by omega)
  subst h2
  rfl
theorem jTs_some {k : ByteArray} {l : List ByteArray} {n : Nat} (h : l.length = n) (hn : 0 < n) : jTs k l = [(k, .texts l)] := by
  cases l with
  | nil => simp at h; omega
  | cons _ _ => rfl
theorem jLs_none {k : ByteArray} {l : List Doc} {n : Nat} (h : l.length = n) (hn : ¬ 0 < n) : jLs k (l.map jItem) = [] := by
  have h2 : l = [] := List.length_eq_zero_iff.1 (by omega)
  subst h2
  rfl
theorem jLs_some {k : ByteArray} {l : List Doc} {n : Nat} (h : l.length = n) (hn : 0 < n) : jLs k (l.map jItem) = [(k, .list (l.map jItem))] := by
  cases l with
  | nil => simp at h; omega
  | cons _ _ => rfl
/-- Values of one cell each that the call itself has appended. -/
def OwnP (t : TypeId) (w : World) (base : Nat) (v : Value) (vs : List Value) : Prop := w.ownsRow base t 1 v vs.length vs
theorem OwnP.ext {t : TypeId} {w w' : World} {base : Nat} {v : Value} {vs : List Value} (h : OwnP t w base v vs) (x : Ext w w') : OwnP t w' base v vs := World.ownsRow.kept h (grown_of_ext x none) (by cases v.ownBlock <;> simp)
theorem OwnP.grown {t : TypeId} {w w' : World} {base : Nat} {v : Value} {vs : List Value} (h : OwnP t w base v vs) {r : Option Nat} (g : w.grownBy w' r) (hne : v.ownBlock = none ∨ v.ownBlock ≠ r) : OwnP t w' base v vs := World.ownsRow.kept h g hne
theorem OwnP.cells {t : TypeId} {S : Nat → Prop} {w : World} {base : Nat} {v : Value} {vs : List Value} (h : OwnP t w base v vs) (hS : ∀ b, v.ownBlock = some b → S b) : ∃ a c, v = .slice a vs.length c ∧ vs.length ≤ c ∧ c ≤ maxLen ∧ ∀ i u, vs[i]? = some u → ∃ b off, a = some ⟨b, off, none⟩ ∧ S b ∧ w.cell? ⟨b, off + i, none⟩ = some u := by
  obtain ⟨h1, h2⟩ := id h
  rcases h2 with ⟨rfl, h0⟩ | ⟨g, cap, cur, rfl, hg, hh, h3, h4, h5, h6⟩
  · refine ⟨none, 0, by rw [h0], by omega, by simp [maxLen], fun i s hi => ?_⟩
    rw [List.length_eq_zero_iff.1 h0] at hi
    cases hi
  · refine ⟨_, _, rfl, h3, h4, fun i s hi => ⟨g, 0, rfl, hS g rfl, ?_⟩⟩
    have := World.ownsRow.cells h (g := g) rfl i s (by simp [hi])
    simpa [Addr.add_lit] using this
theorem OwnP.block {t : TypeId} {w : World} {base : Nat} {v : Value} {vs : List Value} (h : OwnP t w base v vs) {g : Nat} (hg : v.ownBlock = some g) : base ≤ g ∧ g < w.heap.size := World.ownsRow.lt h g hg

theorem info_item : (Try.prog.info? 82).map (fun i => (i.zero, i.size, i.bytes)) = some (some (.pointer none), 1, 8) := by kernel_rfl
section
variable {ops : Array Oper} {o : Oper} {rest : List Oper} {a : Act} {Q : Exit → Act → World → Prop}
theorem list_append_item (w : World) (hgd : o.guard = none) (s x : Operand) (ho : o.op = .call { callee := .builtin .append, args := #[s, x], argTypes := #[107, 107] })
    (base : Nat) (v : Value) (ss : List Value) (hs : a.eval s = v) (hown : OwnP 82 w base v ss) (b off n cap : Nat) (fs : List Value) (hf : 0 < fs.length) (hn : fs.length = n) (hone : ∀ u ∈ fs, u.oneCell' = true) (hx : a.eval x = .slice (some ⟨b, off, none⟩) n cap)
    (hc : ∀ i f, fs[i]? = some f → w.cell? ⟨b, off + i, none⟩ = some f) (hb : (ss.length + fs.length) * 8 ≤ 140737488355328) (hbase : base ≤ w.heap.size)
    (h : ∀ g cap w', OwnP 82 w' base (.slice (some ⟨g, 0, none⟩) (ss.length + fs.length) cap) (ss ++ fs) → w.grownBy w' v.ownBlock → Lies w v g → g < w'.heap.size → wpList Try.prog ops Q rest (a.put o.dst (.slice (some ⟨g, 0, none⟩) (ss.length + fs.length) cap)) w') : wpList Try.prog ops Q (o :: rest) a w := by
  subst hn
  refine wpList_plain hgd fun K hK => ?_
  obtain ⟨i, hi, hz, hsz, hby⟩ := info_parts info_item
  refine wp_append_lies w s x 107 ho base 82 i _ 1 8 Try.underlying107 hi hz hsz hby rfl (by omega) v ss.length ss hs hown ⟨b, off, none⟩ fs.length cap fs hx (by simp) ?_ hone hf (by unfold maxLen; omega) hb hbase _ rfl ?_
  · intro j u hu
    rw [Addr.add_lit]
    exact hc j u hu
  · intro g cap w' hown' hg hl hlt
    exact hK _ _ (h g cap w' (by simpa [OwnP] using hown') hg hl hlt)
end
/-- What is appended is nothing: what is there stays as it is. -/
theorem list_append_nothing {ops : Array Oper} {rest : List Oper} {o : Oper} {a : Act} {Q : Exit → Act → World → Prop} (w : World) (hgd : o.guard = none) (s x : Operand) (t : TypeId)
    (ho : o.op = .call { callee := .builtin .append, args := #[s, x], argTypes := #[t, t] })
    (base : Nat) (e : TypeId) (i : TypeInfo) (size : Nat) (ht : Try.prog.underlying t = some (.slice e)) (hi : Try.prog.info? e = some i)
    (v : Value) (n : Nat) (xs : List Value) (hs : a.eval s = v) (hown : w.ownsRow base e size v n xs) (ad : Option Addr) (c : Nat) (hx : a.eval x = .slice ad 0 c)
    (h : wpList Try.prog ops Q rest (a.put o.dst v) w) : wpList Try.prog ops Q (o :: rest) a w := by
  refine wpList_plain hgd fun K hK => ?_
  have hrun : (Builtin.append_ #[t, t] o.type #[v, .slice ad 0 c]).run Try.prog w = .ok v w := by
    cases ad with
    | none =>
      rcases hown.2 with ⟨rfl, rfl⟩ | ⟨g, cap, cur, rfl, _, _, hnc, _⟩
      · simp [Builtin.append_, run_underlying ht, sizeOf, typeInfo, hi, Builtin.lenOf, Builtin.firstCells]
      · simp [Builtin.append_, run_underlying ht, sizeOf, typeInfo, hi, Builtin.lenOf, Builtin.firstCells, hnc, storeCells]
    | some ad =>
      rcases hown.2 with ⟨rfl, rfl⟩ | ⟨g, cap, cur, rfl, _, _, hnc, _⟩
      · simp [Builtin.append_, run_underlying ht, sizeOf, typeInfo, hi, Builtin.lenOf, Builtin.firstCells, loadCells, loadCellsFrom]
      · simp [Builtin.append_, run_underlying ht, sizeOf, typeInfo, hi, Builtin.lenOf, Builtin.firstCells, hnc, storeCells, loadCells, loadCellsFrom]
  unfold Oper.wp
  simp [execOp, ho, resolve, invoke, builtin, hs, hx, hrun, Result.andThen]
  exact hK _ _ h
end Go.Proofs.Ytfngaoicoecncaa
