/-
  With: a map with a tree for a key.
-/
import Derived.Test.YtfngaoicoecncaaDoorOwn
import Derived.Test.YtfngaoicoecncaaDoorDraw
import Derived.Test.YtfngaoicoecncaaDoorW2
namespace Go.Proofs.YtfngaoicoecncaaDoor
open Go.RowKit

theorem foldl_snoc {α β : Type} (f : β → α → β) (b : β) {l : List α} {k : Nat} {x : α} (h : l[k]? = some x) : (l.take (k + 1)).foldl f b = f ((l.take k).foldl f b) x := by
  rw [List.take_add_one, h]
  simp

theorem zip_get {α β : Type} {l : List α} {m : List β} {i : Nat} {x : α} {y : β} (h1 : l[i]? = some x) (h2 : m[i]? = some y) : (l.zip m)[i]? = some (x, y) := by
  rw [List.getElem?_zip_eq_some]
  exact ⟨h1, h2⟩

/-- The state of With: what is made so far. -/
def WSt (S : Nat → Prop) (w wr : World) (acc : List ByteArray × List (El × T) × Bool) (e f : El) : Prop :=
  Ext w wr ∧
  Box wr w.heap.size #[.int .i64 e.k, .string e.x, .float .f64 e.d, .bool e.y, .slice e.ka e.n e.kc, .slice e.ca e.m e.cc] 29 ∧
  Box wr (w.heap.size + 1) #[.int .i64 f.k, .string f.x, .float .f64 f.d, .bool f.y, .slice f.ka f.n f.kc, .slice f.ca f.m f.cc] 29 ∧
  Box wr (w.heap.size + 1 + 1) #[.int .i64 0, .string ⟨#[]⟩, .float .f64 0, .bool false, .slice none 0 0, .slice none 0 0] 29 ∧
  (∃ ka kn kc ca cn cc, Making wr (w.heap.size + 4) (w.heap.size + 1 + 1 + 1) 5 acc.1 (acc.2.1.map Prod.fst) ka kn kc ca cn cc) ∧
  (∀ y ∈ acc.2.1, TreeAt S w y.1 y.2)

theorem WSt.key {S : Nat → Prop} {w wr w' w1 : World} {acc : List ByteArray × List (El × T) × Bool} {e f : El} {ka : Option Addr} {kn kc : Nat} {ca : Option Addr} {cn cc : Nat} {g cap : Nat} {y : ByteArray}
    (h : WSt S w wr acc e f) (M : Making wr (w.heap.size + 4) (w.heap.size + 1 + 1 + 1) 5 acc.1 (acc.2.1.map Prod.fst) ka kn kc ca cn cc) (x : Ext wr w')
    (ho : OwnStrs w1 (w.heap.size + 4) (.slice (some ⟨g, 0, none⟩) (acc.1.length + 1) cap) (acc.1 ++ [y])) (hg : w'.grownBy w1 (Value.slice ka kn kc).ownBlock) (hl : Lies w' (.slice ka kn kc) g) (dn : Bool) :
    WSt S w (w1.setCell ⟨w.heap.size + 1 + 1 + 1, 4, none⟩ (.slice (some ⟨g, 0, none⟩) (acc.1.length + 1) cap)) (acc.1 ++ [y], acc.2.1, dn) e f := by
  obtain ⟨h1, h2, h3, h4, -, h6⟩ := h
  have M' := M.ext x
  exact ⟨M'.extKey (ext_trans h1 x) (by omega) hg _ _, M'.boxKey (h2.ext x) (by omega) (by omega) hg _ _, M'.boxKey (h3.ext x) (by omega) (by omega) hg _ _, M'.boxKey (h4.ext x) (by omega) (by omega) hg _ _,
    ⟨_, _, _, _, _, _, M'.key ho hg hl⟩, h6⟩
theorem WSt.kid {S : Nat → Prop} {w wr w' w1 : World} {acc : List ByteArray × List (El × T) × Bool} {e f : El} {ka : Option Addr} {kn kc : Nat} {ca : Option Addr} {cn cc : Nat} {g cap : Nat} {y : El × T}
    (h : WSt S w wr acc e f) (M : Making wr (w.heap.size + 4) (w.heap.size + 1 + 1 + 1) 5 acc.1 (acc.2.1.map Prod.fst) ka kn kc ca cn cc) (x : Ext wr w')
    (ho : OwnEls w1 (w.heap.size + 4) (.slice (some ⟨g, 0, none⟩) (acc.2.1.length + 1) cap) (acc.2.1.map Prod.fst ++ [y.1])) (hg : w'.grownBy w1 (Value.slice ca cn cc).ownBlock) (hl : Lies w' (.slice ca cn cc) g) (hy : TreeAt S w y.1 y.2) (dn : Bool) :
    WSt S w (w1.setCell ⟨w.heap.size + 1 + 1 + 1, 5, none⟩ (.slice (some ⟨g, 0, none⟩) (acc.2.1.length + 1) cap)) (acc.1, acc.2.1 ++ [y], dn) e f := by
  have eL : acc.2.1.length = (acc.2.1.map Prod.fst).length := by simp
  rw [eL] at ho ⊢
  obtain ⟨h1, h2, h3, h4, -, h6⟩ := h
  have M' := M.ext x
  refine ⟨M'.extKid (ext_trans h1 x) (by omega) hg _ _, M'.boxKid (h2.ext x) (by omega) (by omega) hg _ _, M'.boxKid (h3.ext x) (by omega) (by omega) hg _ _, M'.boxKid (h4.ext x) (by omega) (by omega) hg _ _,
    ⟨_, _, _, _, _, _, by simpa using M'.kid ho hg hl⟩, fun z hz => ?_⟩
  rcases List.mem_append.1 hz with hz | hz
  · exact h6 z hz
  · rw [List.mem_singleton.1 hz]; exact hy

theorem boxCells {w : World} {b : Nat} {e : El} {t : TypeId} (h : Box w b #[.int .i64 e.k, .string e.x, .float .f64 e.d, .bool e.y, .slice e.ka e.n e.kc, .slice e.ca e.m e.cc] t) : CellsAt w b 0 e :=
  ⟨h.cell 0 _ rfl, h.cell 1 _ rfl, h.cell 2 _ rfl, h.cell 3 _ rfl, h.cell 4 _ rfl, h.cell 5 _ rfl⟩

end Go.Proofs.YtfngaoicoecncaaDoor
