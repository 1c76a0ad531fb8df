/-
  Where what came in is bounded, so are the texts of its settings.
-/
import Derived.Test.YtpkkdmopcfcnkaaOpen
import Derived.Lib.Strings
import Derived.Test.YtpkkdmopcfcnkaaRows
namespace Go.Proofs.Ytpkkdmopcfcnkaa
open Go.ChangeShapes Go.WideShapes Go.ChangeAt Go.RowKit

theorem bulk_part {H : Type} {d : DataW H} {l : List (DataW H)} (h : d ∈ l) : Rows.uptoBulk d ≤ Rows.uptoBulkAll l := by
  induction l with
  | nil => cases h
  | cons x r ih =>
    simp only [Rows.uptoBulkAll]
    cases List.mem_cons.1 h with
    | inl e => subst e; omega
    | inr e => have := ih e; omega
section
variable {H : Type} {enc : TypeId × Value → H} {w : World} {base : Nat} {spare : Nat → Bool} {held : Bool}
set_option maxRecDepth 20000 in
theorem text_bulk {fuel : Nat} {e : El} {x : DataW H × List MemPlace} (h : DataW.trod enc Try.prog w base spare held fuel 26 e.cells = some x) : e.x.size ≤ Rows.uptoBulk x.1 := by
  obtain ⟨xs, n, rfl, rfl, hcl, hxl, hf⟩ := DataW.trod_struct Try.underlying26 h
  match xs, hxl with
  | [x0, x1, x2, x3, x4, x5], _ =>
    have f1 : DataW.trod enc Try.prog w base spare held n 9 (List.take (Try.prog.cellsOf 9) (List.drop 1 e.cells)) = some x1 := hf 1 _ rfl
    rw [cells_string] at f1
    have f1 : DataW.trod enc Try.prog w base spare held n 9 [.string e.x] = some x1 := f1
    obtain ⟨s, e1, e2, -⟩ := DataW.trod_string Try.underlying9 f1
    simp only [List.cons.injEq, Value.string.injEq, and_true] at e1
    subst e1
    subst e2
    have h1 : Rows.uptoBulk (DataW.lit (H := H) (.string e.x.data.toList)) = e.x.data.toList.length + 1 := by simp [Rows.uptoBulk]
    have h2 := Lib.size_eq e.x
    simp only [Rows.uptoBulk, List.map_cons, List.map_nil, Rows.uptoBulkAll] at h1 ⊢
    omega
set_option maxRecDepth 20000 in
theorem set_bulk {fuel : Nat} {s : ByteArray} {e : El} {x : DataW H × List MemPlace} (h : DataW.trod enc Try.prog w base spare held fuel 69 (.string s :: e.cells) = some x) : e.x.size ≤ Rows.uptoBulk x.1 := by
  obtain ⟨xs, n, rfl, rfl, hcl, hxl, hf⟩ := DataW.trod_struct Try.underlying69 h
  match xs, hxl with
  | [x0, x1], _ =>
    have f1 : DataW.trod enc Try.prog w base spare held n 26 (List.take (Try.prog.cellsOf 26) (List.drop 1 (.string s :: e.cells))) = some x1 := hf 1 _ rfl
    rw [cells_tree, List.drop_succ_cons, List.drop_zero, List.take_of_length_le (by simp [El.cells])] at f1
    have := text_bulk f1
    simp only [Rows.uptoBulk, List.map_cons, List.map_nil, Rows.uptoBulkAll]
    omega
theorem sets_bulk {S : Nat → Prop} {fuel : Nat} {a : Option Addr} {n c : Nat} {ps : List (ByteArray × T)} {x : DataW H × List MemPlace} (h : DataW.trod enc Try.prog w base spare held fuel 27 [.slice a n c] = some x) (hP : PairsAt S w a n c ps) : ∀ p ∈ ps, p.2.text.size ≤ Rows.uptoBulk x.1 := by
  intro p hp
  obtain ⟨i, hi⟩ := List.getElem?_of_mem hp
  have hlt : i < n := by rw [← hP.1]; exact (List.getElem?_eq_some_iff.1 hi).1
  obtain ⟨b, off, e, rfl, -, hc, hT⟩ := hP.2.2.2 i p hi
  rcases DataW.trod_slice Try.underlying27 h with ⟨h0, -⟩ | ⟨a, len, cap, elems, rest, n', -, h0, rfl, -, hl, hm, hlen, hel, -, -⟩
  · simp at h0
  · simp only [List.cons.injEq, Value.slice.injEq, Option.some.injEq, and_true] at h0
    obtain ⟨rfl, rfl, rfl⟩ := h0
    rw [cells_set] at hel
    have h1 := hel i hlt
    obtain ⟨q, hq⟩ := some_of_lt hlen hlt
    rw [hq, Option.bind_eq_some_iff] at h1
    obtain ⟨cs', hc', ht⟩ := h1
    obtain ⟨-, hl7, hat⟩ := World.cells?_some hc'
    obtain ⟨s', e', t', rfl, -⟩ := set_of ht
    have hx : e'.x = e.x := by
      have h2 := hat 2 (by omega)
      rw [Addr.add_add, Addr.add_lit, show off + (i * 7 + 2) = off + i * 7 + 1 + 1 by omega, hc.2.2.1] at h2
      simp [El.cells] at h2
      exact h2.symm
    have h3 := set_bulk ht
    have h4 : p.2.text = e.x := hT.parts.2.1.symm
    rw [h4, ← hx]
    refine Nat.le_trans h3 ?_
    have h5 : q.1 ∈ List.map (fun x => x.fst) elems := List.mem_map.2 ⟨q, List.mem_of_getElem? hq, rfl⟩
    have h6 := bulk_part h5
    simp only [Rows.uptoBulk]
    omega
end
end Go.Proofs.Ytpkkdmopcfcnkaa
