/-
  Lists of texts that are appended at once.
-/
import Derived.Test.YtfngaoicoecncaaGreatDoorTx
import Derived.Test.YtfngaoicoecncaaGreatDoorLx
namespace Go.Proofs.YtfngaoicoecncaaGreatDoor
open Go.RowKit

@[go_sem] theorem mk0s (w : World) : (Instr.makeSlice 23 (.int .i64 0) (.int .i64 0)).run Tryz.prog w = .ok (.slice (some ⟨w.heap.size, 0, none⟩) 0 0) (w.alloc (.cells #[] 9)) := by kernel_rfl
@[go_sem] theorem mk0a (w : World) : (Instr.makeSlice 107 (.int .i64 0) (.int .i64 0)).run Tryz.prog w = .ok (.slice (some ⟨w.heap.size, 0, none⟩) 0 0) (w.alloc (.cells #[] 20)) := by kernel_rfl
section
variable {ops : Array Oper} {o : Oper} {rest : List Oper} {a : Act} {Q : Exit → Act → World → Prop}
theorem wp_append_strs (w : World) {K : Act → World → Prop} (s x : Operand) (ho : o.op = .call { callee := .builtin .append, args := #[s, x], argTypes := #[23, 23] })
    (base : Nat) (v : Value) (ss : List ByteArray) (hs : a.eval s = v) (hown : OwnStrs w base v ss) (b off cap : Nat) (fs : List ByteArray) (hf : 0 < fs.length) (hx : a.eval x = .slice (some ⟨b, off, none⟩) fs.length cap)
    (hc : ∀ i f, fs[i]? = some f → w.cell? ⟨b, off + i, none⟩ = some (.string f)) (hb : (ss.length + fs.length) * 16 ≤ 140737488355328) (hbase : base ≤ w.heap.size)
    (h : ∀ g cap w', OwnStrs w' base (.slice (some ⟨g, 0, none⟩) (ss.length + fs.length) cap) (ss ++ fs) → w.grownBy w' v.ownBlock → Lies w v g → g < w'.heap.size → K (a.put o.dst (.slice (some ⟨g, 0, none⟩) (ss.length + fs.length) cap)) w') : o.wp Tryz.prog a w K Q := by
  obtain ⟨i, hi, hz, hsz, hby⟩ := info_parts info_string
  refine wp_append_lies w s x 23 ho base 9 i _ 1 16 Tryz.underlying23 hi hz hsz hby rfl (by omega) v ss.length (ss.map Value.string) hs hown ⟨b, off, none⟩ fs.length cap (fs.map Value.string) hx (by simp) ?_ ?_ hf (by unfold maxLen; omega) hb hbase _ rfl ?_
  · intro j u hu
    rw [List.getElem?_map, Option.map_eq_some_iff] at hu
    obtain ⟨f, hf', rfl⟩ := hu
    rw [Addr.add_lit]
    exact hc j f hf'
  · intro u hu
    obtain ⟨f, -, rfl⟩ := List.mem_map.1 hu
    rfl
  · intro g cap w' hown' hg hl hlt
    exact h g cap w' (by simpa [OwnStrs] using hown') hg hl hlt
theorem list_append_strs (w : World) (hg : o.guard = none) (s x : Operand) (ho : o.op = .call { callee := .builtin .append, args := #[s, x], argTypes := #[23, 23] })
    (base : Nat) (v : Value) (ss : List ByteArray) (hs : a.eval s = v) (hown : OwnStrs w base v ss) (b off cap : Nat) (fs : List ByteArray) (hf : 0 < fs.length) (hx : a.eval x = .slice (some ⟨b, off, none⟩) fs.length cap)
    (hc : ∀ i f, fs[i]? = some f → w.cell? ⟨b, off + i, none⟩ = some (.string f)) (hb : (ss.length + fs.length) * 16 ≤ 140737488355328) (hbase : base ≤ w.heap.size)
    (h : ∀ g cap w', OwnStrs w' base (.slice (some ⟨g, 0, none⟩) (ss.length + fs.length) cap) (ss ++ fs) → w.grownBy w' v.ownBlock → Lies w v g → g < w'.heap.size → wpList Tryz.prog ops Q rest (a.put o.dst (.slice (some ⟨g, 0, none⟩) (ss.length + fs.length) cap)) w') : wpList Tryz.prog ops Q (o :: rest) a w :=
  wpList_plain hg fun _ hK => wp_append_strs w s x ho base v ss hs hown b off cap fs hf hx hc hb hbase fun g cap w' h1 h2 h3 h4 => hK _ _ (h g cap w' h1 h2 h3 h4)
end
theorem StrsAt.addr {S : Nat → Prop} {w : World} {a : Option Addr} {n c : Nat} {ss : List ByteArray} (h : StrsAt S w a n c ss) (hn : 0 < n) : ∃ b off, a = some ⟨b, off, none⟩ ∧ S b ∧ ∀ i f, ss[i]? = some f → w.cell? ⟨b, off + i, none⟩ = some (.string f) := by
  obtain ⟨h1, h2, h3, h4⟩ := h
  obtain ⟨s, hs⟩ := some_of_lt h1 hn
  obtain ⟨b, off, rfl, hS, -⟩ := h4 0 s hs
  refine ⟨b, off, rfl, hS, fun i f hi => ?_⟩
  obtain ⟨b', off', e, -, hc⟩ := h4 i f hi
  cases e
  exact hc
end Go.Proofs.YtfngaoicoecncaaGreatDoor
