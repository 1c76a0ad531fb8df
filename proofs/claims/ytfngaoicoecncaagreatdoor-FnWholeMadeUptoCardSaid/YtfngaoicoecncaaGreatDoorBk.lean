/-
  Settings from the last one to the first one; whether no two have the same name.
-/
import Derived.Test.YtfngaoicoecncaaGreatDoorLx
import Derived.Test.YtfngaoicoecncaaGreatDoorZz
namespace Go.Proofs.YtfngaoicoecncaaGreatDoor
open Go.RowKit

def OwnSets (w : World) (base : Nat) (v : Value) (es : List (ByteArray × El)) : Prop := w.ownsRow base 57 7 v es.length (es.flatMap cells7)
theorem OwnSets.ext {w w' : World} {base : Nat} {v : Value} {es : List (ByteArray × El)} (h : OwnSets w base v es) (x : Ext w w') : OwnSets w' base v es := World.ownsRow.kept h (grown_of_ext x none) (by cases v.ownBlock <;> simp)
theorem OwnSets.grown {w w' : World} {base : Nat} {v : Value} {es : List (ByteArray × El)} (h : OwnSets w base v es) {r : Option Nat} (g : w.grownBy w' r) (hne : v.ownBlock = none ∨ v.ownBlock ≠ r) : OwnSets w' base v es := World.ownsRow.kept h g hne
theorem OwnSets.block {w : World} {base : Nat} {v : Value} {es : List (ByteArray × El)} (h : OwnSets w base v es) {g : Nat} (hg : v.ownBlock = some g) : base ≤ g ∧ g < w.heap.size := World.ownsRow.lt h g hg
theorem OwnSets.sets {S : Nat → Prop} {w : World} {base : Nat} {v : Value} {es : List (ByteArray × El)} {ps : List (ByteArray × T)} (h : OwnSets w base v es) (hl : ps.length = es.length) (hS : ∀ b, v.ownBlock = some b → S b)
    (ht : ∀ (i : Nat) (e : ByteArray × El) (p : ByteArray × T), es[i]? = some e → ps[i]? = some p → e.1 = p.1 ∧ TreeAt S w e.2 p.2) : ∃ a c, v = .slice a ps.length c ∧ PairsAt S w a ps.length c ps := by
  obtain ⟨h1, h2⟩ := id h
  rcases h2 with ⟨rfl, h0⟩ | ⟨g, cap, cur, rfl, hg, hh, h3, h4, h5, h6⟩
  · refine ⟨none, 0, by rw [hl, h0], rfl, by omega, by simp [maxLen], fun i s hi => ?_⟩
    rw [List.length_eq_zero_iff.1 (hl.trans h0)] at hi
    cases hi
  · refine ⟨_, _, by rw [hl], rfl, by omega, h4, fun i p hi => ?_⟩
    obtain ⟨e, he⟩ := some_of_lt (l := es) rfl (show i < es.length by have := (List.getElem?_eq_some_iff.1 hi).1; omega)
    obtain ⟨e1, e2⟩ := ht i e p he hi
    have hc : ∀ j v, (cells7 e)[j]? = some v → w.cell? ⟨g, 0 + i * 7 + j, none⟩ = some v := fun j v hv => by
      have := World.ownsRow.cells h (g := g) rfl (i * 7 + j) v (flat7_get es i e he j v hv)
      rw [Addr.add_lit] at this
      rw [show 0 + i * 7 + j = 0 + (i * 7 + j) by omega]
      exact this
    exact ⟨g, 0, e.2, rfl, hS g rfl, ⟨by rw [← e1]; exact hc 0 _ rfl, hc 1 _ rfl, hc 2 _ rfl, hc 3 _ rfl, hc 4 _ rfl, hc 5 _ rfl, hc 6 _ rfl⟩, e2⟩
theorem info_set : (Tryz.prog.info? 57).map (fun i => (i.zero, i.size, i.bytes)) = some (some (.agg #[.string ⟨#[]⟩, .int .i64 0, .string ⟨#[]⟩, .float .f64 0, .bool false, .slice none 0 0, .slice none 0 0]), 7, 104) := by kernel_rfl

/-- Names with trees that lie one behind the other. -/
theorem wp_append_sets {o : Oper} {a : Act} {Q : Exit → Act → World → Prop} (w : World) {K : Act → World → Prop} (s x : Operand) (ho : o.op = .call { callee := .builtin .append, args := #[s, x], argTypes := #[27, 27] })
    (base : Nat) (v : Value) (es : List (ByteArray × El)) (hs : a.eval s = v) (hown : OwnSets w base v es) (b off cap : Nat) (fs : List (ByteArray × El)) (hf : 0 < fs.length) (hx : a.eval x = .slice (some ⟨b, off, none⟩) fs.length cap)
    (hc : ∀ i f, fs[i]? = some f → Cells7 w b (off + i * 7) f.1 f.2)
    (hb : (es.length + fs.length) * 104 ≤ 140737488355328) (hbase : base ≤ w.heap.size)
    (h : ∀ g cap w', OwnSets w' base (.slice (some ⟨g, 0, none⟩) (es.length + fs.length) cap) (es ++ fs) → w.grownBy w' v.ownBlock → Lies w v g → g < w'.heap.size → K (a.put o.dst (.slice (some ⟨g, 0, none⟩) (es.length + fs.length) cap)) w') : o.wp Tryz.prog a w K Q := by
  obtain ⟨i, hi, hz, hsz, hby⟩ := info_parts info_set
  have hlen : ∀ l : List (ByteArray × El), (l.flatMap cells7).length = l.length * 7 := fun l => by
    induction l with
    | nil => rfl
    | cons e r ih => rw [List.flatMap_cons, List.length_append, ih]; simp [cells7, El.cells]; omega
  refine wp_append_lies w s x 27 ho base 57 i _ 7 104 Tryz.underlying27 hi hz hsz hby rfl (by omega) v es.length _ hs hown ⟨b, off, none⟩ fs.length cap (fs.flatMap cells7) hx (hlen fs) ?_ ?_ hf (by unfold maxLen; omega) hb hbase _ rfl ?_
  · intro j u hu
    rw [Addr.add_lit]
    have hj := (List.getElem?_eq_some_iff.1 hu).1
    rw [hlen] at hj
    obtain ⟨f, hf'⟩ := some_of_lt (l := fs) rfl (show j / 7 < fs.length by omega)
    obtain ⟨c0, c1, c2, c3, c4, c5, c6⟩ := hc (j / 7) f hf'
    have hjm : j % 7 < 7 := Nat.mod_lt _ (by omega)
    have he : j = j / 7 * 7 + j % 7 := by omega
    have key : ∀ r u, (cells7 f)[r]? = some u → w.cell? ⟨b, off + (j / 7 * 7 + r), none⟩ = some u := fun r u hr => by
      have hr7 : off + (j / 7 * 7 + r) = off + j / 7 * 7 + r := by omega
      rw [hr7]
      match r, hr with
      | 0, hr => simp [cells7, El.cells] at hr; subst hr; simpa using c0
      | 1, hr => simp [cells7, El.cells] at hr; subst hr; simpa using c1
      | 2, hr => simp [cells7, El.cells] at hr; subst hr; simpa using c2
      | 3, hr => simp [cells7, El.cells] at hr; subst hr; simpa using c3
      | 4, hr => simp [cells7, El.cells] at hr; subst hr; simpa using c4
      | 5, hr => simp [cells7, El.cells] at hr; subst hr; simpa using c5
      | 6, hr => simp [cells7, El.cells] at hr; subst hr; simpa using c6
      | r + 7, hr => simp [cells7, El.cells] at hr
    obtain ⟨u', hu'⟩ := some_of_lt (l := cells7 f) (n := 7) rfl hjm
    have := flat7_get fs (j / 7) f hf' (j % 7) u' hu'
    rw [← he, hu] at this
    cases this
    rw [he]
    have h2 := key (j % 7) u hu'
    have h3 : (j / 7 * 7 + j % 7) / 7 = j / 7 := by omega
    exact h2
  · intro u hu
    obtain ⟨f, _, hf2⟩ := List.mem_flatMap.1 hu
    simp [cells7, El.cells] at hf2
    rcases hf2 with rfl | rfl | rfl | rfl | rfl | rfl | rfl <;> rfl
  · intro g cap w' hown' hg hl hlt
    refine h g cap w' ?_ hg hl hlt
    unfold OwnSets
    rw [List.length_append, List.flatMap_append]
    exact hown'
theorem list_append_sets {ops : Array Oper} {rest : List Oper} {o : Oper} {a : Act} {Q : Exit → Act → World → Prop} (w : World) (hgd : o.guard = none) (s x : Operand) (ho : o.op = .call { callee := .builtin .append, args := #[s, x], argTypes := #[27, 27] })
    (base : Nat) (v : Value) (es : List (ByteArray × El)) (hs : a.eval s = v) (hown : OwnSets w base v es) (b : Nat) (f : ByteArray × El) (hx : a.eval x = .slice (some ⟨b, 0, none⟩) 1 1) (hc : Cells7 w b 0 f.1 f.2)
    (hb : (es.length + 1) * 104 ≤ 140737488355328) (hbase : base ≤ w.heap.size)
    (h : ∀ g cap w', OwnSets w' base (.slice (some ⟨g, 0, none⟩) (es.length + 1) cap) (es ++ [f]) → w.grownBy w' v.ownBlock → Lies w v g → g < w'.heap.size → wpList Tryz.prog ops Q rest (a.put o.dst (.slice (some ⟨g, 0, none⟩) (es.length + 1) cap)) w') : wpList Tryz.prog ops Q (o :: rest) a w :=
  wpList_plain hgd fun _ hK => wp_append_sets w s x ho base v es hs hown b 0 1 [f] (by simp) hx (fun i f' hf => by
    cases i with
    | zero => simp at hf; subst hf; simpa using hc
    | succ i => simp at hf) hb hbase fun g cap w' h1 h2 h3 h4 => hK _ _ (h g cap w' h1 h2 h3 h4)

end Go.Proofs.YtfngaoicoecncaaGreatDoor
