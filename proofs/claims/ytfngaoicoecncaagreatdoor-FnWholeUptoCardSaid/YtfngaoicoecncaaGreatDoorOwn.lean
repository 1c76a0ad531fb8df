/-
  Local variables in memory and lists that a call makes by append.
-/
import Derived.Test.YtfngaoicoecncaaGreatDoorPure
import Derived.Lib.Hide
namespace Go.Proofs.YtfngaoicoecncaaGreatDoor
open Go.RowKit

/-- A block of cells that nobody has frozen. -/
def Box (w : World) (b : Nat) (cs : Array Value) (e : TypeId) : Prop := w.heap[b]? = some (.cells cs e (0, 0))
theorem Box.lt {w : World} {b : Nat} {cs : Array Value} {e : TypeId} (h : Box w b cs e) : b < w.heap.size := (Array.getElem?_eq_some_iff.1 h).1
theorem Box.cell {w : World} {b : Nat} {cs : Array Value} {e : TypeId} (h : Box w b cs e) (i : Nat) (v : Value) (hv : cs[i]? = some v) : w.cell? ⟨b, i, none⟩ = some v := by
  unfold Box at h
  simp [World.cell?, h, hv]
theorem Box.free {w : World} {b : Nat} {cs : Array Value} {e : TypeId} (h : Box w b cs e) (i : Nat) : w.frozen? ⟨b, i, none⟩ = false := by
  unfold Box at h
  simp [World.frozen?, h]
theorem Box.ext {w w' : World} {b : Nat} {cs : Array Value} {e : TypeId} (h : Box w b cs e) (x : Ext w w') : Box w' b cs e := x.blk h
theorem Box.grown {w w' : World} {b : Nat} {cs : Array Value} {e : TypeId} {r : Option Nat} (h : Box w b cs e) (g : w.grownBy w' r) (hne : some b ≠ r) : Box w' b cs e := (g.block b h.lt hne).trans h
theorem Box.set {w : World} {b : Nat} {cs : Array Value} {e : TypeId} (h : Box w b cs e) (i : Nat) (v : Value) : Box (w.setCell ⟨b, i, none⟩ v) b (cs.setIfInBounds i v) e := by
  unfold Box at h ⊢
  simp [World.setCell, Array.getElem?_modify, h]
theorem Box.other {w : World} {b : Nat} {cs : Array Value} {e : TypeId} (h : Box w b cs e) {p : Addr} (hne : b ≠ p.block) (v : Value) : Box (w.setCell p v) b cs e := (Below.heap_setCell _ _ _ _ hne).trans h
theorem Box.alloc {w : World} {b : Nat} {cs : Array Value} {e : TypeId} (h : Box w b cs e) (o : Obj) : Box (w.alloc o) b cs e := (Below.heap_alloc _ _ _ h.lt).trans h
theorem Box.new (w : World) (cs : Array Value) (e : TypeId) : Box (w.alloc (.cells cs e)) w.heap.size cs e := heap_alloc_new w _
theorem Box.at {w : World} {b : Nat} (hb : w.heap.size = b) (cs : Array Value) (e : TypeId) : Box (w.alloc (.cells cs e)) b cs e := hb ▸ heap_alloc_new w _
theorem Box.drew {w : World} {b : Nat} {cs : Array Value} {e : TypeId} (h : Box w b cs e) : Box w.drew b cs e := h

/-- The six cells of a local tree. -/
theorem Box.six {w : World} {b : Nat} {v0 v1 v2 v3 v4 v5 : Value} {t : TypeId} (h : Box w b #[v0, v1, v2, v3, v4, v5] t) :
    w.cell? ⟨b, 0, none⟩ = some v0 ∧ w.cell? ⟨b, 1, none⟩ = some v1 ∧ w.cell? ⟨b, 2, none⟩ = some v2 ∧ w.cell? ⟨b, 3, none⟩ = some v3 ∧ w.cell? ⟨b, 4, none⟩ = some v4 ∧ w.cell? ⟨b, 5, none⟩ = some v5 :=
  ⟨h.cell 0 _ rfl, h.cell 1 _ rfl, h.cell 2 _ rfl, h.cell 3 _ rfl, h.cell 4 _ rfl, h.cell 5 _ rfl⟩

/-- Strings that the call itself has appended. -/
def OwnStrs (w : World) (base : Nat) (v : Value) (ss : List ByteArray) : Prop := w.ownsRow base 9 1 v ss.length (ss.map Value.string)
/-- Trees that the call itself has appended. -/
def OwnEls (w : World) (base : Nat) (v : Value) (es : List El) : Prop := w.ownsRow base 26 6 v es.length (es.flatMap El.cells)

theorem grown_of_ext {w w' : World} (h : Ext w w') (r : Option Nat) : w.grownBy w' r := ⟨h.os, h.tape, h.output, h.size, fun k hk _ => h.block k hk⟩
theorem ext_grown {w0 w w' : World} (h : Ext w0 w) {r : Option Nat} (g : w.grownBy w' r) (hr : ∀ k, r = some k → w0.heap.size ≤ k) : Ext w0 w' := Below.grown h g h.size hr
theorem keeps_grown {S : Nat → Prop} {w w' : World} {r : Option Nat} (g : w.grownBy w' r) (h : ∀ b, S b → some b ≠ r) : Keeps S w w' := fun b hs hb => g.block b hb (h b hs)

theorem OwnStrs.ext {w w' : World} {base : Nat} {v : Value} {ss : List ByteArray} (h : OwnStrs w base v ss) (x : Ext w w') : OwnStrs w' base v ss := World.ownsRow.kept h (grown_of_ext x none) (by cases v.ownBlock <;> simp)
theorem OwnEls.ext {w w' : World} {base : Nat} {v : Value} {es : List El} (h : OwnEls w base v es) (x : Ext w w') : OwnEls w' base v es := World.ownsRow.kept h (grown_of_ext x none) (by cases v.ownBlock <;> simp)
theorem OwnStrs.grown {w w' : World} {base : Nat} {v : Value} {ss : List ByteArray} (h : OwnStrs w base v ss) {r : Option Nat} (g : w.grownBy w' r) (hne : v.ownBlock = none ∨ v.ownBlock ≠ r) : OwnStrs w' base v ss := World.ownsRow.kept h g hne
theorem OwnEls.grown {w w' : World} {base : Nat} {v : Value} {es : List El} (h : OwnEls w base v es) {r : Option Nat} (g : w.grownBy w' r) (hne : v.ownBlock = none ∨ v.ownBlock ≠ r) : OwnEls w' base v es := World.ownsRow.kept h g hne
theorem grown_set (w : World) (p : Addr) (v : Value) : w.grownBy (w.setCell p v) (some p.block) := ⟨rfl, rfl, rfl, by simp [World.setCell], fun k _ hk => Below.heap_setCell _ _ _ _ (fun e => hk (by rw [e]))⟩

theorem OwnStrs.strs {S : Nat → Prop} {w : World} {base : Nat} {v : Value} {ss : List ByteArray} (h : OwnStrs w base v ss) (hS : ∀ b, v.ownBlock = some b → S b) : ∃ a c, v = .slice a ss.length c ∧ StrsAt S w a ss.length c ss := by
  obtain ⟨h1, h2⟩ := id h
  rcases h2 with ⟨rfl, h0⟩ | ⟨g, cap, cur, rfl, hg, hh, h3, h4, h5, h6⟩
  · refine ⟨none, 0, by rw [h0], rfl, by omega, by simp [maxLen], fun i s hi => ?_⟩
    rw [List.length_eq_zero_iff.1 h0] at hi
    cases hi
  · refine ⟨_, _, rfl, rfl, h3, h4, fun i s hi => ⟨g, 0, rfl, hS g rfl, ?_⟩⟩
    have := World.ownsRow.cells h (g := g) rfl i (.string s) (by simp [hi])
    simpa [Addr.add_lit] using this

theorem flat_get : ∀ (es : List El) (i : Nat) (e : El), es[i]? = some e → ∀ j v, e.cells[j]? = some v → (es.flatMap El.cells)[i * 6 + j]? = some v
  | [], _, _, h, _, _, _ => by cases h
  | e' :: r, 0, e, h, j, v, hv => by
    simp only [List.getElem?_cons_zero, Option.some.injEq] at h
    subst h
    simp only [List.flatMap_cons, Nat.zero_mul, Nat.zero_add]
    rw [List.getElem?_append_left (List.getElem?_eq_some_iff.1 hv).1]
    exact hv
  | e' :: r, i + 1, e, h, j, v, hv => by
    have hl : e'.cells.length = 6 := rfl
    simp only [List.flatMap_cons]
    rw [List.getElem?_append_right (by omega), hl, show (i + 1) * 6 + j - 6 = i * 6 + j by omega]
    exact flat_get r i e (by simpa using h) j v hv

theorem OwnEls.kids {S : Nat → Prop} {w : World} {base : Nat} {v : Value} {es : List El} {ts : List T} (h : OwnEls w base v es) (hl : ts.length = es.length) (hS : ∀ b, v.ownBlock = some b → S b)
    (ht : ∀ (i : Nat) (e : El) (t : T), es[i]? = some e → ts[i]? = some t → TreeAt S w e t) : ∃ a c, v = .slice a ts.length c ∧ KidsAt S w a ts.length c ts := by
  obtain ⟨h1, h2⟩ := id h
  rcases h2 with ⟨rfl, h0⟩ | ⟨g, cap, cur, rfl, hg, hh, h3, h4, h5, h6⟩
  · refine ⟨none, 0, by rw [hl, h0], KidsAt.of rfl (by omega) (by simp [maxLen]) fun i s hi => ?_⟩
    rw [List.length_eq_zero_iff.1 (hl.trans h0)] at hi
    cases hi
  · refine ⟨_, _, by rw [hl], KidsAt.of rfl (by omega) h4 fun i t hi => ?_⟩
    obtain ⟨e, he⟩ := some_of_lt (l := es) rfl (show i < es.length by have := (List.getElem?_eq_some_iff.1 hi).1; omega)
    refine ⟨g, 0, e, rfl, hS g rfl, ?_, ht i e t he hi⟩
    have hc : ∀ j v, e.cells[j]? = some v → w.cell? ⟨g, 0 + i * 6 + j, none⟩ = some v := fun j v hv => by
      have := World.ownsRow.cells h (g := g) rfl (i * 6 + j) v (flat_get es i e he j v hv)
      rw [Addr.add_lit] at this
      rw [show 0 + i * 6 + j = 0 + (i * 6 + j) by omega]
      exact this
    exact ⟨hc 0 _ rfl, hc 1 _ rfl, hc 2 _ rfl, hc 3 _ rfl, hc 4 _ rfl, hc 5 _ rfl⟩

theorem info_string : (Tryz.prog.info? 9).map (fun i => (i.zero, i.size, i.bytes)) = some (some (.string ⟨#[]⟩), 1, 16) := by kernel_rfl
theorem info_tree : (Tryz.prog.info? 26).map (fun i => (i.zero, i.size, i.bytes)) = some (some (.agg #[.int .i64 0, .string ⟨#[]⟩, .float .f64 0, .bool false, .slice none 0 0, .slice none 0 0]), 6, 88) := by kernel_rfl

/-- Where the slice lies behind an append. -/
def Lies (w : World) (v : Value) (g : Nat) : Prop := v.ownBlock = some g ∨ g = w.heap.size

section
variable {ops : Array Oper} {o : Oper} {rest : List Oper} {a : Act} {Q : Exit → Act → World → Prop}
theorem wp_append_str (w : World) {K : Act → World → Prop} (s x : Operand) (ho : o.op = .call { callee := .builtin .append, args := #[s, x], argTypes := #[23, 23] })
    (base : Nat) (v : Value) (ss : List ByteArray) (hs : a.eval s = v) (hown : OwnStrs w base v ss) (b : Nat) (y : ByteArray) (hx : a.eval x = .slice (some ⟨b, 0, none⟩) 1 1) (hc : w.cell? ⟨b, 0, none⟩ = some (.string y))
    (hb : (ss.length + 1) * 16 ≤ 140737488355328) (hbase : base ≤ w.heap.size)
    (h : ∀ g cap w', OwnStrs w' base (.slice (some ⟨g, 0, none⟩) (ss.length + 1) cap) (ss ++ [y]) → w.grownBy w' v.ownBlock → Lies w v g → g < w'.heap.size → K (a.put o.dst (.slice (some ⟨g, 0, none⟩) (ss.length + 1) cap)) w') : o.wp Tryz.prog a w K Q := by
  obtain ⟨i, hi, hz, hsz, hby⟩ := info_parts info_string
  refine wp_append_lies w s x 23 ho base 9 i _ 1 16 Tryz.underlying23 hi hz hsz hby rfl (by omega) v ss.length (ss.map Value.string) hs hown ⟨b, 0, none⟩ 1 1 [.string y] hx rfl ?_ (by simp [Value.oneCell']) (by omega) (by unfold maxLen; omega) hb hbase _ rfl ?_
  · intro j u hu
    cases j with
    | zero => simp at hu; subst hu; simpa [Addr.add] using hc
    | succ j => simp at hu
  · intro g cap w' hown' hg hl hlt
    exact h g cap w' (by simpa [OwnStrs] using hown') hg hl hlt
theorem wp_append_tree (w : World) {K : Act → World → Prop} (s x : Operand) (ho : o.op = .call { callee := .builtin .append, args := #[s, x], argTypes := #[24, 24] })
    (base : Nat) (v : Value) (es : List El) (hs : a.eval s = v) (hown : OwnEls w base v es) (b : Nat) (e : El) (hx : a.eval x = .slice (some ⟨b, 0, none⟩) 1 1) (hc : CellsAt w b 0 e)
    (hb : (es.length + 1) * 88 ≤ 140737488355328) (hbase : base ≤ w.heap.size)
    (h : ∀ g cap w', OwnEls w' base (.slice (some ⟨g, 0, none⟩) (es.length + 1) cap) (es ++ [e]) → w.grownBy w' v.ownBlock → Lies w v g → g < w'.heap.size → K (a.put o.dst (.slice (some ⟨g, 0, none⟩) (es.length + 1) cap)) w') : o.wp Tryz.prog a w K Q := by
  obtain ⟨i, hi, hz, hsz, hby⟩ := info_parts info_tree
  refine wp_append_lies w s x 24 ho base 26 i _ 6 88 Tryz.underlying24 hi hz hsz hby rfl (by omega) v es.length (es.flatMap El.cells) hs hown ⟨b, 0, none⟩ 1 1 e.cells hx rfl ?_ (by simp [El.cells, Value.oneCell']) (by omega) (by unfold maxLen; omega) hb hbase _ rfl ?_
  · intro j u hu
    rw [Addr.add_lit]
    obtain ⟨c0, c1, c2, c3, c4, c5⟩ := hc
    match j, hu with
    | 0, hu => simp [El.cells] at hu; subst hu; simpa using c0
    | 1, hu => simp [El.cells] at hu; subst hu; simpa using c1
    | 2, hu => simp [El.cells] at hu; subst hu; simpa using c2
    | 3, hu => simp [El.cells] at hu; subst hu; simpa using c3
    | 4, hu => simp [El.cells] at hu; subst hu; simpa using c4
    | 5, hu => simp [El.cells] at hu; subst hu; simpa using c5
    | j + 6, hu => simp [El.cells] at hu
  · intro g cap w' hown' hg hl hlt
    exact h g cap w' (by simpa [OwnEls] using hown') hg hl hlt
theorem list_append_str (w : World) (hg : o.guard = none) (s x : Operand) (ho : o.op = .call { callee := .builtin .append, args := #[s, x], argTypes := #[23, 23] })
    (base : Nat) (v : Value) (ss : List ByteArray) (hs : a.eval s = v) (hown : OwnStrs w base v ss) (b : Nat) (y : ByteArray) (hx : a.eval x = .slice (some ⟨b, 0, none⟩) 1 1) (hc : w.cell? ⟨b, 0, none⟩ = some (.string y))
    (hb : (ss.length + 1) * 16 ≤ 140737488355328) (hbase : base ≤ w.heap.size)
    (h : ∀ g cap w', OwnStrs w' base (.slice (some ⟨g, 0, none⟩) (ss.length + 1) cap) (ss ++ [y]) → w.grownBy w' v.ownBlock → Lies w v g → g < w'.heap.size → wpList Tryz.prog ops Q rest (a.put o.dst (.slice (some ⟨g, 0, none⟩) (ss.length + 1) cap)) w') : wpList Tryz.prog ops Q (o :: rest) a w :=
  wpList_plain hg fun _ hK => wp_append_str w s x ho base v ss hs hown b y hx hc hb hbase fun g cap w' h1 h2 h3 h4 => hK _ _ (h g cap w' h1 h2 h3 h4)
theorem list_append_tree (w : World) (hg : o.guard = none) (s x : Operand) (ho : o.op = .call { callee := .builtin .append, args := #[s, x], argTypes := #[24, 24] })
    (base : Nat) (v : Value) (es : List El) (hs : a.eval s = v) (hown : OwnEls w base v es) (b : Nat) (e : El) (hx : a.eval x = .slice (some ⟨b, 0, none⟩) 1 1) (hc : CellsAt w b 0 e)
    (hb : (es.length + 1) * 88 ≤ 140737488355328) (hbase : base ≤ w.heap.size)
    (h : ∀ g cap w', OwnEls w' base (.slice (some ⟨g, 0, none⟩) (es.length + 1) cap) (es ++ [e]) → w.grownBy w' v.ownBlock → Lies w v g → g < w'.heap.size → wpList Tryz.prog ops Q rest (a.put o.dst (.slice (some ⟨g, 0, none⟩) (es.length + 1) cap)) w') : wpList Tryz.prog ops Q (o :: rest) a w :=
  wpList_plain hg fun _ hK => wp_append_tree w s x ho base v es hs hown b e hx hc hb hbase fun g cap w' h1 h2 h3 h4 => hK _ _ (h g cap w' h1 h2 h3 h4)
theorem step_of_wp {w : World} {K : Act → World → Prop} {E : Prop} (hg : o.guard = none) (h : o.wp Tryz.prog a w K Q) : if Region.wanted o (yielded ops a.tmps) = true then Oper.wp Tryz.prog o a w K Q else E := by
  rw [if_pos (by simp [Region.wanted, hg])]
  exact h
end

/-- Six stores into a local tree. -/
def sto6 (w : World) (b : Nat) (v0 v1 v2 v3 v4 v5 : Value) : World := (((((w.setCell ⟨b, 0, none⟩ v0).setCell ⟨b, 1, none⟩ v1).setCell ⟨b, 2, none⟩ v2).setCell ⟨b, 3, none⟩ v3).setCell ⟨b, 4, none⟩ v4).setCell ⟨b, 5, none⟩ v5
theorem Box.sto6 {w : World} {b : Nat} {u0 u1 u2 u3 u4 u5 : Value} {t : TypeId} (h : Box w b #[u0, u1, u2, u3, u4, u5] t) (v0 v1 v2 v3 v4 v5 : Value) : Box (sto6 w b v0 v1 v2 v3 v4 v5) b #[v0, v1, v2, v3, v4, v5] t := by
  have := (((((h.set 0 v0).set 1 v1).set 2 v2).set 3 v3).set 4 v4).set 5 v5
  simpa [Go.Proofs.YtfngaoicoecncaaGreatDoor.sto6] using this
theorem ext_sto6 {w0 w : World} (h : Ext w0 w) {b : Nat} (hb : w0.heap.size ≤ b) (v0 v1 v2 v3 v4 v5 : Value) : Ext w0 (sto6 w b v0 v1 v2 v3 v4 v5) := by
  unfold sto6
  exact ext_set (ext_set (ext_set (ext_set (ext_set (ext_set h hb v0) hb v1) hb v2) hb v3) hb v4) hb v5
theorem grown_sto6 (w : World) (b : Nat) (v0 v1 v2 v3 v4 v5 : Value) : w.grownBy (sto6 w b v0 v1 v2 v3 v4 v5) (some b) := by
  unfold sto6
  have step : ∀ (w1 : World) (i : Nat) (v : Value), w.grownBy w1 (some b) → w.grownBy (w1.setCell ⟨b, i, none⟩ v) (some b) := fun w1 i v h =>
    ⟨h.os, h.tape, h.output, by simpa [World.setCell] using h.size, fun k hk hne => (Below.heap_setCell _ _ _ _ (fun e => hne (by rw [e]))).trans (h.block k hk hne)⟩
  have g0 : w.grownBy w (some b) := ⟨rfl, rfl, rfl, Nat.le_refl _, fun _ _ _ => rfl⟩
  have g1 := step _ 0 v0 g0
  have g2 := step _ 1 v1 g1
  have g3 := step _ 2 v2 g2
  have g4 := step _ 3 v3 g3
  have g5 := step _ 4 v4 g4
  exact step _ 5 v5 g5
theorem Box.sto6' {w : World} {b b' : Nat} {cs : Array Value} {t : TypeId} (h : Box w b cs t) (hne : b ≠ b') (v0 v1 v2 v3 v4 v5 : Value) : Box (Go.Proofs.YtfngaoicoecncaaGreatDoor.sto6 w b' v0 v1 v2 v3 v4 v5) b cs t := h.grown (grown_sto6 _ _ _ _ _ _ _ _) (fun e => hne (by injection e))

theorem run_load_tree {w : World} {b : Nat} {v0 v1 v2 v3 v4 v5 : Value} {t : TypeId} (h : Box w b #[v0, v1, v2, v3, v4, v5] t) : (loadVar 26 ⟨b, 0, none⟩).run Tryz.prog w = .ok (.agg #[v0, v1, v2, v3, v4, v5]) w := by
  obtain ⟨h0, h1, h2, h3, h4, h5⟩ := h.six
  simp [go_sem, h0, h1, h2, h3, h4, h5]
/-- A result that is a tree. -/
theorem post_tree {fn : Func} {R : Ending → World → Prop} {a : Act} {w : World} {p : Tmp} {b : Nat} {v0 v1 v2 v3 v4 v5 : Value} {t : TypeId} (hr : fn.results = #[.cell p 26]) (hp : a.tmps.getD p undef = .pointer (some ⟨b, 0, none⟩)) (hb : Box w b #[v0, v1, v2, v3, v4, v5] t) (hd : a.defers = [])
    (hR : R (.returned (.agg #[v0, v1, v2, v3, v4, v5])) w) : bodyPost Tryz.prog fn R .ret a w := by
  refine bodyPost_ret (v := .agg #[v0, v1, v2, v3, v4, v5]) ?_ hd hR
  simp at hp
  simp [results, hr, hp, asAddr, run_load_tree hb]
/-- A result that is a tree with something beside it. -/
theorem post_tree2 {fn : Func} {R : Ending → World → Prop} {a : Act} {w : World} {p u : Tmp} {b : Nat} {v0 v1 v2 v3 v4 v5 : Value} {t : TypeId} (hr : fn.results = #[.cell p 26, .tmp u]) (hp : a.tmps.getD p undef = .pointer (some ⟨b, 0, none⟩)) (hb : Box w b #[v0, v1, v2, v3, v4, v5] t) (hd : a.defers = [])
    (hR : R (.returned (.tuple #[.agg #[v0, v1, v2, v3, v4, v5], a.tmps.getD u undef])) w) : bodyPost Tryz.prog fn R .ret a w := by
  refine bodyPost_ret (v := .tuple #[.agg #[v0, v1, v2, v3, v4, v5], a.tmps.getD u undef]) ?_ hd hR
  simp at hp
  simp [results, hr, hp, asAddr, run_load_tree hb]

/-- A local tree: its block. -/
abbrev El.arr (e : El) : Array Value := #[.int .i64 e.k, .string e.x, .float .f64 e.d, .bool e.y, .slice e.ka e.n e.kc, .slice e.ca e.m e.cc]
theorem Box.Six {w : World} {b : Nat} {e : El} {t : TypeId} (h : Box w b e.arr t) : Six w b e := h.six
abbrev sto (w : World) (b : Nat) (e : El) : World := sto6 w b (.int .i64 e.k) (.string e.x) (.float .f64 e.d) (.bool e.y) (.slice e.ka e.n e.kc) (.slice e.ca e.m e.cc)
theorem Box.sto {w : World} {b : Nat} {e : El} {t : TypeId} (h : Box w b e.arr t) (f : El) : Box (sto w b f) b f.arr t := h.sto6 _ _ _ _ _ _
theorem keeps_sto {S : Nat → Prop} (w : World) {b : Nat} (h : ¬ S b) (e : El) : Keeps S w (sto w b e) := keeps_grown (grown_sto6 _ _ _ _ _ _ _ _) (fun q hq e => by injection e with e; subst e; exact h hq)

/-- A tree that the call is making in block bo: its keys and its kids are lists of the call's own, from block base on. -/
structure Making (w : World) (base bo : Nat) (kind : Int) (ss : List ByteArray) (es : List El) (ka : Option Addr) (kn kc : Nat) (ca : Option Addr) (cn cc : Nat) : Prop where
  box : Box w bo #[.int .i64 kind, .string ⟨#[]⟩, .float .f64 0, .bool false, .slice ka kn kc, .slice ca cn cc] 26
  keys : OwnStrs w base (.slice ka kn kc) ss
  kids : OwnEls w base (.slice ca cn cc) es
  low : bo < base
  sep : ∀ g, (Value.slice ka kn kc).ownBlock = some g → (Value.slice ca cn cc).ownBlock ≠ some g

theorem OwnStrs.block {w : World} {base : Nat} {v : Value} {ss : List ByteArray} (h : OwnStrs w base v ss) {g : Nat} (hg : v.ownBlock = some g) : base ≤ g ∧ g < w.heap.size := World.ownsRow.lt h g hg
theorem OwnEls.block {w : World} {base : Nat} {v : Value} {es : List El} (h : OwnEls w base v es) {g : Nat} (hg : v.ownBlock = some g) : base ≤ g ∧ g < w.heap.size := World.ownsRow.lt h g hg

section
variable {w w' w1 w0 : World} {base bo : Nat} {kind : Int} {ss : List ByteArray} {es : List El} {ka : Option Addr} {kn kc : Nat} {ca : Option Addr} {cn cc : Nat}
theorem Making.set (h : Making w base bo kind ss es ka kn kc ca cn cc) {p : Addr} (hp : p.block < base) (hne : p.block ≠ bo) (v : Value) : Making (w.setCell p v) base bo kind ss es ka kn kc ca cn cc :=
  ⟨h.box.other (Ne.symm hne) v, h.keys.grown (grown_set _ _ _) (by
    cases hc : (Value.slice ka kn kc).ownBlock with
    | none => exact .inl rfl
    | some q => exact .inr fun e => by have := (h.keys.block hc).1; simp at e; omega), h.kids.grown (grown_set _ _ _) (by
    cases hc : (Value.slice ca cn cc).ownBlock with
    | none => exact .inl rfl
    | some q => exact .inr fun e => by have := (h.kids.block hc).1; simp at e; omega), h.low, h.sep⟩
theorem Making.sto6 (h : Making w base bo kind ss es ka kn kc ca cn cc) {b : Nat} (hp : b < base) (hne : b ≠ bo) (v0 v1 v2 v3 v4 v5 : Value) : Making (Go.Proofs.YtfngaoicoecncaaGreatDoor.sto6 w b v0 v1 v2 v3 v4 v5) base bo kind ss es ka kn kc ca cn cc :=
  ⟨h.box.sto6' (Ne.symm hne) _ _ _ _ _ _, h.keys.grown (grown_sto6 _ _ _ _ _ _ _ _) (by
    cases hc : (Value.slice ka kn kc).ownBlock with
    | none => exact .inl rfl
    | some q => exact .inr fun e => by have := (h.keys.block hc).1; simp at e; omega), h.kids.grown (grown_sto6 _ _ _ _ _ _ _ _) (by
    cases hc : (Value.slice ca cn cc).ownBlock with
    | none => exact .inl rfl
    | some q => exact .inr fun e => by have := (h.kids.block hc).1; simp at e; omega), h.low, h.sep⟩
/-- What has been made, as a tree. -/
theorem Making.tree {S : Nat → Prop} (h : Making w base bo kind ss es ka kn kc ca cn cc) {ts : List T} (hl : ts.length = es.length) (hk : ∀ b, (Value.slice ka kn kc).ownBlock = some b → S b) (hx : ∀ b, (Value.slice ca cn cc).ownBlock = some b → S b)
    (ht : ∀ (i : Nat) (e : El) (t : T), es[i]? = some e → ts[i]? = some t → TreeAt S w e t) : TreeAt S w ⟨kind, ⟨#[]⟩, 0, false, ka, kn, kc, ca, cn, cc⟩ (.mk kind ⟨#[]⟩ 0 false ss ts) := by
  obtain ⟨a, c, e1, h1⟩ := h.keys.strs hk
  obtain ⟨a', c', e2, h2⟩ := h.kids.kids hl hx ht
  simp only [Value.slice.injEq] at e1 e2
  obtain ⟨rfl, rfl, rfl⟩ := e1
  obtain ⟨rfl, rfl, rfl⟩ := e2
  exact TreeAt.of rfl rfl rfl rfl h1 h2
theorem Making.ext (h : Making w base bo kind ss es ka kn kc ca cn cc) (x : Ext w w') : Making w' base bo kind ss es ka kn kc ca cn cc := ⟨h.box.ext x, h.keys.ext x, h.kids.ext x, h.low, h.sep⟩

/-- Nothing below 'base' but block bo has turned, in an append of a key and its store. -/
theorem Making.key (h : Making w base bo kind ss es ka kn kc ca cn cc) {g cap : Nat} {y : ByteArray} (ho : OwnStrs w1 base (.slice (some ⟨g, 0, none⟩) (ss.length + 1) cap) (ss ++ [y])) (hg : w.grownBy w1 (Value.slice ka kn kc).ownBlock) (hl : Lies w (.slice ka kn kc) g) :
    Making (w1.setCell ⟨bo, 4, none⟩ (.slice (some ⟨g, 0, none⟩) (ss.length + 1) cap)) base bo kind (ss ++ [y]) es (some ⟨g, 0, none⟩) (ss.length + 1) cap ca cn cc := by
  have hlow := h.low
  have hbx : Box w1 bo _ _ := h.box.grown hg (fun e => by have := (h.keys.block e.symm).1; omega)
  refine ⟨hbx.set 4 _, ho.grown (grown_set _ _ _) (.inr ?_), (h.kids.grown hg ?_).grown (grown_set _ _ _) ?_, hlow, ?_⟩
  · intro e
    have := (ho.block e).1
    simp at this
    omega
  · cases hc : (Value.slice ca cn cc).ownBlock with
    | none => exact .inl rfl
    | some q => exact .inr fun e => h.sep q e.symm hc
  · cases hc : (Value.slice ca cn cc).ownBlock with
    | none => exact .inl rfl
    | some q =>
      refine .inr fun e => ?_
      have := (h.kids.block hc).1
      simp at e
      omega
  · intro q hq hc
    simp only [Value.ownBlock, Option.some.injEq] at hq
    subst hq
    rcases hl with hl | hl
    · exact h.sep g hl hc
    · have := (h.kids.block hc).2
      omega

theorem Making.kid (h : Making w base bo kind ss es ka kn kc ca cn cc) {g cap : Nat} {y : El} (ho : OwnEls w1 base (.slice (some ⟨g, 0, none⟩) (es.length + 1) cap) (es ++ [y])) (hg : w.grownBy w1 (Value.slice ca cn cc).ownBlock) (hl : Lies w (.slice ca cn cc) g) :
    Making (w1.setCell ⟨bo, 5, none⟩ (.slice (some ⟨g, 0, none⟩) (es.length + 1) cap)) base bo kind ss (es ++ [y]) ka kn kc (some ⟨g, 0, none⟩) (es.length + 1) cap := by
  have hlow := h.low
  have hbx : Box w1 bo _ _ := h.box.grown hg (fun e => by have := (h.kids.block e.symm).1; omega)
  refine ⟨hbx.set 5 _, (h.keys.grown hg ?_).grown (grown_set _ _ _) ?_, ho.grown (grown_set _ _ _) (.inr ?_), hlow, ?_⟩
  · cases hc : (Value.slice ka kn kc).ownBlock with
    | none => exact .inl rfl
    | some q => exact .inr fun e => h.sep q hc e.symm
  · cases hc : (Value.slice ka kn kc).ownBlock with
    | none => exact .inl rfl
    | some q =>
      refine .inr fun e => ?_
      have := (h.keys.block hc).1
      simp at e
      omega
  · intro e
    have := (ho.block e).1
    simp at this
    omega
  · intro q hq hc
    simp only [Value.ownBlock, Option.some.injEq] at hc
    subst hc
    rcases hl with hl | hl
    · exact h.sep _ hq hl
    · have := (h.keys.block hq).2
      omega

theorem Making.boxMid (h : Making w base bo kind ss es ka kn kc ca cn cc) (hg : w.grownBy w1 (Value.slice ka kn kc).ownBlock) : Box w1 bo #[.int .i64 kind, .string ⟨#[]⟩, .float .f64 0, .bool false, .slice ka kn kc, .slice ca cn cc] 26 := h.box.grown hg (fun e => by have := (h.keys.block e.symm).1; have := h.low; omega)
theorem Making.boxMid' (h : Making w base bo kind ss es ka kn kc ca cn cc) (hg : w.grownBy w1 (Value.slice ca cn cc).ownBlock) : Box w1 bo #[.int .i64 kind, .string ⟨#[]⟩, .float .f64 0, .bool false, .slice ka kn kc, .slice ca cn cc] 26 := h.box.grown hg (fun e => by have := (h.kids.block e.symm).1; have := h.low; omega)
/-- A cell below 'base' that is not of block bo, in an append. -/
theorem Making.cellKey (h : Making w base bo kind ss es ka kn kc ca cn cc) (hg : w.grownBy w1 (Value.slice ka kn kc).ownBlock) {p : Addr} {v : Value} (hc : w.cell? p = some v) (hlt : p.block < base) : w1.cell? p = some v :=
  hg.cell hc (fun e => by have := (h.keys.block e.symm).1; omega)
theorem Making.cellKid (h : Making w base bo kind ss es ka kn kc ca cn cc) (hg : w.grownBy w1 (Value.slice ca cn cc).ownBlock) {p : Addr} {v : Value} (hc : w.cell? p = some v) (hlt : p.block < base) : w1.cell? p = some v :=
  hg.cell hc (fun e => by have := (h.kids.block e.symm).1; omega)
/-- What lies below 'base' and is not bo is as it was, behind an append and its store. -/
theorem Making.extKey (h : Making w base bo kind ss es ka kn kc ca cn cc) (x : Ext w0 w) (hbo : w0.heap.size ≤ bo) (hg : w.grownBy w1 (Value.slice ka kn kc).ownBlock) (i : Nat) (u : Value) : Ext w0 (w1.setCell ⟨bo, i, none⟩ u) :=
  ext_set (ext_grown x hg (fun k hk => by have := (h.keys.block hk).1; have := h.low; omega)) hbo u
theorem Making.extKid (h : Making w base bo kind ss es ka kn kc ca cn cc) (x : Ext w0 w) (hbo : w0.heap.size ≤ bo) (hg : w.grownBy w1 (Value.slice ca cn cc).ownBlock) (i : Nat) (u : Value) : Ext w0 (w1.setCell ⟨bo, i, none⟩ u) :=
  ext_set (ext_grown x hg (fun k hk => by have := (h.kids.block hk).1; have := h.low; omega)) hbo u
/-- Another local variable, in an append and its store. -/
theorem Making.boxKey (h : Making w base bo kind ss es ka kn kc ca cn cc) {b : Nat} {cs : Array Value} {e : TypeId} (hb : Box w b cs e) (hlt : b < base) (hne : b ≠ bo) (hg : w.grownBy w1 (Value.slice ka kn kc).ownBlock) (i : Nat) (u : Value) : Box (w1.setCell ⟨bo, i, none⟩ u) b cs e :=
  (hb.grown hg (fun e => by have := (h.keys.block e.symm).1; omega)).other hne u
theorem Making.boxKid (h : Making w base bo kind ss es ka kn kc ca cn cc) {b : Nat} {cs : Array Value} {e : TypeId} (hb : Box w b cs e) (hlt : b < base) (hne : b ≠ bo) (hg : w.grownBy w1 (Value.slice ca cn cc).ownBlock) (i : Nat) (u : Value) : Box (w1.setCell ⟨bo, i, none⟩ u) b cs e :=
  (hb.grown hg (fun e => by have := (h.kids.block e.symm).1; omega)).other hne u
/-- Any block but bo and the rows, in an append and its store. -/
theorem Making.keepKey (_ : Making w base bo kind ss es ka kn kc ca cn cc) {S : Nat → Prop} (hbo : ∀ b, S b → b ≠ bo) (hS : ∀ b, S b → (Value.slice ka kn kc).ownBlock ≠ some b) (hg : w.grownBy w1 (Value.slice ka kn kc).ownBlock) (i : Nat) (u : Value) : Keeps S w (w1.setCell ⟨bo, i, none⟩ u) :=
  fun b hs hb => (Below.heap_setCell _ _ _ _ (hbo b hs)).trans (hg.block b hb (fun e => hS b hs e.symm))
theorem Making.keepKid (_ : Making w base bo kind ss es ka kn kc ca cn cc) {S : Nat → Prop} (hbo : ∀ b, S b → b ≠ bo) (hS : ∀ b, S b → (Value.slice ca cn cc).ownBlock ≠ some b) (hg : w.grownBy w1 (Value.slice ca cn cc).ownBlock) (i : Nat) (u : Value) : Keeps S w (w1.setCell ⟨bo, i, none⟩ u) :=
  fun b hs hb => (Below.heap_setCell _ _ _ _ (hbo b hs)).trans (hg.block b hb (fun e => hS b hs e.symm))
end
end Go.Proofs.YtfngaoicoecncaaGreatDoor
