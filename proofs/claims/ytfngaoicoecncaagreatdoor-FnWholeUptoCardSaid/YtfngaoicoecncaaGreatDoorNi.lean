/-
  What the thin package gives of a node.
-/
import Derived.Test.YtfngaoicoecncaaGreatDoorW5
import Derived.Test.YtfngaoicoecncaaGreatDoorBool
import Derived.Test.YtfngaoicoecncaaGreatDoorLx
import Derived.Test.YtfngaoicoecncaaGreatDoorF3
import Derived.Test.YtfngaoicoecncaaGreatDoorPf
import Derived.Test.YtfngaoicoecncaaGreatDoorRefl
import Derived.Test.YtfngaoicoecncaaGreatDoorNm2
import Derived.Test.YtfngaoicoecncaaGreatDoorGv
import Derived.Test.YtfngaoicoecncaaGreatDoorQs
import Derived.Test.YtfngaoicoecncaaGreatDoorTell
namespace Go.Proofs.YtfngaoicoecncaaGreatDoor
open Go.RowKit

/-- A node: its kind, its text, the places of its kids, its kids. -/
inductive Nd where
  | mk (k : Int) (x : ByteArray) (ps : List Int) (ks : List Nd)
def Nd.k : Nd → Int | .mk k _ _ _ => k
def Nd.x : Nd → ByteArray | .mk _ x _ _ => x
def Nd.ps : Nd → List Int | .mk _ _ ps _ => ps
def Nd.ks : Nd → List Nd | .mk _ _ _ ks => ks
structure Nv where
  k : Int
  x : ByteArray
  pa : Option Addr
  pn : Nat
  pc : Nat
  ka : Option Addr
  kn : Nat
  kc : Nat
abbrev Nv.arr (e : Nv) : Array Value := #[.int .i64 e.k, .string e.x, .slice e.pa e.pn e.pc, .slice e.ka e.kn e.kc]
def Nv.val (e : Nv) : Value := .agg #[.int .i64 e.k, .string e.x, .slice e.pa e.pn e.pc, .slice e.ka e.kn e.kc]
def Nv.cells (e : Nv) : List Value := [.int .i64 e.k, .string e.x, .slice e.pa e.pn e.pc, .slice e.ka e.kn e.kc]
abbrev NCells (w : World) (b o : Nat) (e : Nv) : Prop := w.cell? ⟨b, o, none⟩ = some (.int .i64 e.k) ∧ w.cell? ⟨b, o + 1, none⟩ = some (.string e.x) ∧ w.cell? ⟨b, o + 2, none⟩ = some (.slice e.pa e.pn e.pc) ∧ w.cell? ⟨b, o + 3, none⟩ = some (.slice e.ka e.kn e.kc)
/-- Whole numbers that lie one behind the other. -/
def IntsAt (S : Nat → Prop) (w : World) (a : Option Addr) (n c : Nat) (l : List Int) : Prop :=
  l.length = n ∧ n ≤ c ∧ c ≤ maxLen ∧ ∀ i z, l[i]? = some z → ∃ b off, a = some ⟨b, off, none⟩ ∧ S b ∧ w.cell? ⟨b, off + i, none⟩ = some (.int .i64 z)
theorem IntsAt.keep {S S' : Nat → Prop} {w w' : World} {a : Option Addr} {n c : Nat} {l : List Int} (hS : ∀ b, S b → b < w.heap.size → S' b) (k : Keeps S w w') (h : IntsAt S w a n c l) : IntsAt S' w' a n c l := by
  obtain ⟨h1, h2, h3, h4⟩ := h
  refine ⟨h1, h2, h3, fun i x hi => ?_⟩
  obtain ⟨b, off, e, hb, hc⟩ := h4 i x hi
  exact ⟨b, off, e, hS b hb (lt_of_cell hc), k.cell hb hc⟩
theorem IntsAt.ext {S : Nat → Prop} {w w' : World} {a : Option Addr} {n c : Nat} {l : List Int} (x : Ext w w') (h : IntsAt S w a n c l) : IntsAt S w' a n c l := h.keep (fun _ h _ => h) (x.keeps S)
mutual
def NodeAt (S : Nat → Prop) (w : World) (e : Nv) : Nd → Prop
  | .mk k x ps ks => e.k = k ∧ e.x = x ∧ IntsAt S w e.pa e.pn e.pc ps ∧ (ks.length = e.kn ∧ e.kn ≤ e.kc ∧ e.kc ≤ maxLen) ∧ RowN S w e.ka 0 ks
def RowN (S : Nat → Prop) (w : World) (a : Option Addr) (i : Nat) : List Nd → Prop
  | [] => True
  | r :: rest => (∃ b off e, a = some ⟨b, off, none⟩ ∧ S b ∧ NCells w b (off + i * 4) e ∧ NodeAt S w e r) ∧ RowN S w a (i + 1) rest
end
theorem NCells.keep {S : Nat → Prop} {w w' : World} {b o : Nat} {e : Nv} (k : Keeps S w w') (hs : S b) (h : NCells w b o e) : NCells w' b o e :=
  ⟨k.cell hs h.1, k.cell hs h.2.1, k.cell hs h.2.2.1, k.cell hs h.2.2.2⟩
theorem NCells.ext {w w' : World} {b o : Nat} {e : Nv} (x : Ext w w') (h : NCells w b o e) : NCells w' b o e := NCells.keep (x.keeps fun _ => True) trivial h
mutual
theorem NodeAt.keep {S S' : Nat → Prop} {w w' : World} (hS : ∀ b, S b → b < w.heap.size → S' b) (k : Keeps S w w') : ∀ (r : Nd) {e : Nv}, NodeAt S w e r → NodeAt S' w' e r
  | .mk kd x ps ks, e, h => by
    simp only [NodeAt] at h ⊢
    exact ⟨h.1, h.2.1, h.2.2.1.keep hS k, h.2.2.2.1, RowN.keep hS k ks h.2.2.2.2⟩
theorem RowN.keep {S S' : Nat → Prop} {w w' : World} (hS : ∀ b, S b → b < w.heap.size → S' b) (k : Keeps S w w') : ∀ (l : List Nd) {a : Option Addr} {i : Nat}, RowN S w a i l → RowN S' w' a i l
  | [], _, _, _ => by simp [RowN]
  | r :: rest, a, i, h => by
    simp only [RowN] at h ⊢
    obtain ⟨⟨b, off, e, ha, hb, hc, hr⟩, h2⟩ := h
    exact ⟨⟨b, off, e, ha, hS b hb (lt_of_cell hc.1), NCells.keep k hb hc, NodeAt.keep hS k r hr⟩, RowN.keep hS k rest h2⟩
end
theorem RowN.get {S : Nat → Prop} {w : World} {a : Option Addr} : ∀ {l : List Nd} {i : Nat} (_ : RowN S w a i l) {j : Nat} {r : Nd}, l[j]? = some r → ∃ b off e, a = some ⟨b, off, none⟩ ∧ S b ∧ NCells w b (off + (i + j) * 4) e ∧ NodeAt S w e r
  | [], _, _, _, _, hj => by cases hj
  | r :: rest, i, h, 0, q, hj => by
    simp only [List.getElem?_cons_zero, Option.some.injEq] at hj
    subst hj
    simp only [RowN] at h
    exact h.1
  | r :: rest, i, h, j + 1, q, hj => by
    simp only [RowN] at h
    obtain ⟨b, off, e, h1, h2, h3, h4⟩ := RowN.get h.2 (by simpa using hj)
    exact ⟨b, off, e, h1, h2, by rw [show i + (j + 1) = i + 1 + j by omega]; exact h3, h4⟩
theorem RowN.of {S : Nat → Prop} {w : World} {a : Option Addr} : ∀ {l : List Nd} {i : Nat}, (∀ j r, l[j]? = some r → ∃ b off e, a = some ⟨b, off, none⟩ ∧ S b ∧ NCells w b (off + (i + j) * 4) e ∧ NodeAt S w e r) → RowN S w a i l
  | [], _, _ => by simp [RowN]
  | r :: rest, i, h => by
    simp only [RowN]
    refine ⟨h 0 r rfl, RowN.of fun j q hj => ?_⟩
    obtain ⟨b, off, e, h1, h2, h3, h4⟩ := h (j + 1) q (by simpa using hj)
    exact ⟨b, off, e, h1, h2, by rw [show i + 1 + j = i + (j + 1) by omega]; exact h3, h4⟩
/-- A list of nodes. -/
def NodesAt (S : Nat → Prop) (w : World) (a : Option Addr) (n c : Nat) (ks : List Nd) : Prop := ks.length = n ∧ n ≤ c ∧ c ≤ maxLen ∧ RowN S w a 0 ks
theorem NodesAt.keep {S S' : Nat → Prop} {w w' : World} {a : Option Addr} {n c : Nat} {ks : List Nd} (hS : ∀ b, S b → b < w.heap.size → S' b) (k : Keeps S w w') (h : NodesAt S w a n c ks) : NodesAt S' w' a n c ks := ⟨h.1, h.2.1, h.2.2.1, h.2.2.2.keep hS k ks⟩
theorem NodesAt.ext {S : Nat → Prop} {w w' : World} {a : Option Addr} {n c : Nat} {ks : List Nd} (x : Ext w w') (h : NodesAt S w a n c ks) : NodesAt S w' a n c ks := h.keep (fun _ h _ => h) (x.keeps S)
theorem NodesAt.get {S : Nat → Prop} {w : World} {a : Option Addr} {n c : Nat} {ks : List Nd} (h : NodesAt S w a n c ks) {j : Nat} {r : Nd} (hj : ks[j]? = some r) : ∃ b off e, a = some ⟨b, off, none⟩ ∧ S b ∧ NCells w b (off + j * 4) e ∧ NodeAt S w e r := by
  obtain ⟨b, off, e, h1, h2, h3, h4⟩ := h.2.2.2.get hj
  exact ⟨b, off, e, h1, h2, by rw [Nat.zero_add] at h3; exact h3, h4⟩
theorem NodeAt.ext {S : Nat → Prop} {w w' : World} (x : Ext w w') {r : Nd} {e : Nv} (h : NodeAt S w e r) : NodeAt S w' e r := NodeAt.keep (fun _ h _ => h) (x.keeps S) r h
theorem NodeAt.to {S S' : Nat → Prop} {w : World} {r : Nd} {e : Nv} (h : NodeAt S w e r) (hS : ∀ b, S b → b < w.heap.size → S' b) : NodeAt S' w e r := NodeAt.keep hS (fun _ _ _ => rfl) r h
theorem NodeAt.parts {S : Nat → Prop} {w : World} {e : Nv} {k : Int} {x : ByteArray} {ps : List Int} {ks : List Nd} (h : NodeAt S w e (.mk k x ps ks)) :
    e.k = k ∧ e.x = x ∧ IntsAt S w e.pa e.pn e.pc ps ∧ NodesAt S w e.ka e.kn e.kc ks := by
  simp only [NodeAt] at h
  obtain ⟨h1, h2, h3, ⟨h4, h5, h6⟩, h7⟩ := h
  exact ⟨h1, h2, h3, ⟨h4, h5, h6, h7⟩⟩
theorem NodeAt.of {S : Nat → Prop} {w : World} {e : Nv} {k : Int} {x : ByteArray} {ps : List Int} {ks : List Nd} (h1 : e.k = k) (h2 : e.x = x) (h3 : IntsAt S w e.pa e.pn e.pc ps) (h4 : NodesAt S w e.ka e.kn e.kc ks) : NodeAt S w e (.mk k x ps ks) := by
  simp only [NodeAt]
  exact ⟨h1, h2, h3, ⟨h4.1, h4.2.1, h4.2.2.1⟩, h4.2.2.2⟩
mutual
/-- Nodes that are not too wide, with texts that are not too long. -/
def SmallN (N : Nat) : Nd → Prop
  | .mk _ x ps ks => x.size ≤ N ∧ ps.length ≤ N ∧ ks.length ≤ N ∧ SmallNs N ks
def SmallNs (N : Nat) : List Nd → Prop
  | [] => True
  | r :: l => SmallN N r ∧ SmallNs N l
end
theorem smallNs_iff (N : Nat) : ∀ l : List Nd, SmallNs N l ↔ ∀ r ∈ l, SmallN N r
  | [] => by simp [SmallNs]
  | r :: l => by simp [SmallNs, smallNs_iff N l]
mutual
theorem SmallN.mono {N M : Nat} (hNM : N ≤ M) : ∀ {r : Nd}, SmallN N r → SmallN M r
  | .mk _ x ps ks, h => by
    simp only [SmallN] at h ⊢
    exact ⟨by omega, by omega, by omega, SmallNs.mono hNM h.2.2.2⟩
theorem SmallNs.mono {N M : Nat} (hNM : N ≤ M) : ∀ {l : List Nd}, SmallNs N l → SmallNs M l
  | [], _ => by simp [SmallNs]
  | r :: l, h => by
    simp only [SmallNs] at h ⊢
    exact ⟨SmallN.mono hNM h.1, SmallNs.mono hNM h.2⟩
end
end Go.Proofs.YtfngaoicoecncaaGreatDoor

namespace Go.Proofs.YtfngaoicoecncaaGreatDoor
open Go.RowKit

abbrev halfB : Nat := 4602678819172646912
/-- The place that is told for a kid, the first one if none is told. -/
def placeAt (ps : List Int) (i : Nat) : Int := (ps[i]?).getD 0
/-- What stands in a place. -/
def inPlace {α : Type} (ps : List Int) (p : Int) : Nat → List α → List α
  | _, [] => []
  | i, x :: l => (if placeAt ps i = p then [x] else []) ++ inPlace ps p (i + 1) l
theorem inPlace_append {α : Type} (ps : List Int) (p : Int) : ∀ (l m : List α) (i : Nat), inPlace ps p i (l ++ m) = inPlace ps p i l ++ inPlace ps p (i + l.length) m
  | [], m, i => by simp [inPlace]
  | x :: l, m, i => by
    simp only [List.cons_append, inPlace, inPlace_append ps p l m (i + 1), List.append_assoc, List.length_cons]
    rw [show i + 1 + l.length = i + (l.length + 1) by omega]
theorem inPlace_take {α : Type} (ps : List Int) (p : Int) {l : List α} {j : Nat} {x : α} (h : l[j]? = some x) : inPlace ps p 0 (l.take (j + 1)) = inPlace ps p 0 (l.take j) ++ (if placeAt ps j = p then [x] else []) := by
  have hj : j < l.length := (List.getElem?_eq_some_iff.1 h).1
  rw [take_snoc h, inPlace_append, List.length_take, Nat.min_eq_left (Nat.le_of_lt hj), Nat.zero_add]
  simp [inPlace]
theorem inPlace_map {α β : Type} (f : α → β) (ps : List Int) (p : Int) : ∀ (l : List α) (i : Nat), inPlace ps p i (l.map f) = (inPlace ps p i l).map f
  | [], _ => rfl
  | x :: l, i => by
    simp only [List.map_cons, inPlace, inPlace_map f ps p l (i + 1), List.map_append]
    split <;> rfl
theorem inPlace_len {α : Type} (ps : List Int) (p : Int) : ∀ (l : List α) (i : Nat), (inPlace ps p i l).length ≤ l.length
  | [], _ => Nat.le_refl _
  | x :: l, i => by
    have h := inPlace_len ps p l (i + 1)
    simp only [inPlace, List.length_append, List.length_cons]
    split <;> simp <;> omega
theorem inPlace_mem {α : Type} {ps : List Int} {p : Int} {x : α} : ∀ {l : List α} {i : Nat}, x ∈ inPlace ps p i l → x ∈ l
  | [], _, h => by simp [inPlace] at h
  | y :: l, i, h => by
    simp only [inPlace] at h
    rcases List.mem_append.1 h with h | h
    · split at h
      · simp at h; subst h; simp
      · simp at h
    · exact List.mem_cons_of_mem _ (inPlace_mem h)
abbrev jAll : J := jMap [(s_match_all, jMap [])]
abbrev allT : T := mapT [(s_match_all, mapT [])]
/-- A kid, match_all if there is none. -/
def kidJ (l : List J) (i : Nat) : J := (l[i]?).getD jAll
def kidT (l : List T) (i : Nat) : T := (l[i]?).getD allT
/-- What stands in a place, as a list. -/
def tQ (k : ByteArray) (l : List T) : List (ByteArray × T) := if l.isEmpty then [] else [(k, listT l)]
mutual
/-- A node as it is handed over. -/
def jNode : Nd → J
  | .mk k x ps ks =>
    if k = 1 then jMap [(s_term, jMap [(x, .str x)])]
    else if k = 2 then jMap [(s_exists, jMap [(s_field, .str x)])]
    else if k = 3 then jMap [(s_bool, jMap (jQ s_must (inPlace ps 0 0 (jNodes ks)) ++ jQ s_must_not (inPlace ps 1 0 (jNodes ks)) ++ jQ s_filter (inPlace ps 3 0 (jNodes ks)) ++ jQ s_should (inPlace ps 2 0 (jNodes ks))))]
    else if k = 4 then jMap [(s_constant_score, jMap [(s_filter, kidJ (jNodes ks) 0)])]
    else if k = 5 then jMap [(s_dis_max, jMap [(s_queries, .list (jNodes ks))])]
    else if k = 6 then jMap [(s_boosting, jMap [(s_positive, kidJ (jNodes ks) 0), (s_negative, kidJ (jNodes ks) 1), (s_negative_boost, .num halfB)])]
    else if k = 7 then jMap [(s_nested, jMap [(s_query, kidJ (jNodes ks) 0), (s_path, .str x)])]
    else jAll
def jNodes : List Nd → List J
  | [] => []
  | r :: l => jNode r :: jNodes l
end
theorem jNodes_eq : ∀ l : List Nd, jNodes l = l.map jNode
  | [] => rfl
  | r :: l => by rw [jNodes, jNodes_eq l]; rfl
mutual
/-- A node as it is told. -/
def nodeT : Nd → T
  | .mk k x ps ks =>
    if k = 1 then mapT [(s_term, mapT [(x, mapT [(s_value, textT x)])])]
    else if k = 2 then mapT [(s_exists, mapT [(s_field, textT x)])]
    else if k = 3 then mapT [(s_bool, mapT (tQ s_must (inPlace ps 0 0 (nodesT ks)) ++ tQ s_must_not (inPlace ps 1 0 (nodesT ks)) ++ tQ s_should (inPlace ps 2 0 (nodesT ks)) ++ tQ s_filter (inPlace ps 3 0 (nodesT ks))))]
    else if k = 4 then mapT [(s_constant_score, mapT [(s_filter, kidT (nodesT ks) 0)])]
    else if k = 5 then mapT [(s_dis_max, mapT [(s_queries, listT (nodesT ks))])]
    else if k = 6 then mapT [(s_boosting, mapT [(s_positive, kidT (nodesT ks) 0), (s_negative, kidT (nodesT ks) 1), (s_negative_boost, numT halfB)])]
    else if k = 7 then mapT [(s_nested, mapT [(s_path, textT x), (s_query, kidT (nodesT ks) 0)])]
    else allT
def nodesT : List Nd → List T
  | [] => []
  | r :: l => nodeT r :: nodesT l
end
theorem nodesT_eq : ∀ l : List Nd, nodesT l = l.map nodeT
  | [] => rfl
  | r :: l => by rw [nodesT, nodesT_eq l]; rfl
mutual
/-- A node that is as told. -/
def FitN : Nd → Prop
  | .mk k x ps ks => (k = 1 ∨ k = 2 ∨ k = 7 → FieldP x ∧ 0 < x.size) ∧ (k = 5 → 0 < ks.length) ∧ (∀ p ∈ ps, 0 ≤ p ∧ p ≤ 3) ∧ FitNs ks
def FitNs : List Nd → Prop
  | [] => True
  | r :: l => FitN r ∧ FitNs l
end
theorem fitNs_iff : ∀ l : List Nd, FitNs l ↔ ∀ r ∈ l, FitN r
  | [] => by simp [FitNs]
  | r :: l => by simp [FitNs, fitNs_iff l]
theorem placeAt_fit {ps : List Int} (h : ∀ p ∈ ps, 0 ≤ p ∧ p ≤ 3) (i : Nat) : placeAt ps i = 0 ∨ placeAt ps i = 1 ∨ placeAt ps i = 2 ∨ placeAt ps i = 3 := by
  unfold placeAt
  cases hi : ps[i]? with
  | none => simp
  | some z =>
    have := h z (List.mem_of_getElem? hi)
    simp only [Option.getD_some]
    omega
end Go.Proofs.YtfngaoicoecncaaGreatDoor

namespace Go.Proofs.YtfngaoicoecncaaGreatDoor
open Go.RowKit

mutual
/-- A tree that says nothing beside what its kind tells. -/
def CanT : T → Prop
  | .mk k x d y keys kids => (keys = [] ∧ kids = [] ∧ ((k = 1 ∧ d = 0 ∧ y = false) ∨ (k = 2 ∧ x = emptyS ∧ y = false) ∨ (k = 3 ∧ x = emptyS ∧ d = 0))) ∨ (x = emptyS ∧ d = 0 ∧ y = false ∧ ((k = 4 ∧ keys = []) ∨ (k = 5 ∧ keys.length = kids.length ∧ keys.Pairwise lt)) ∧ CanTs kids)
def CanTs : List T → Prop
  | [] => True
  | t :: r => CanT t ∧ CanTs r
end
theorem canTs_iff : ∀ l : List T, CanTs l ↔ ∀ t ∈ l, CanT t
  | [] => by simp [CanTs]
  | t :: r => by simp [CanTs, canTs_iff r]
mutual
theorem jFull_can : ∀ t : T, CanT t → treeJ (jFull t) = t
  | .mk k x d y keys kids, h => by
    rw [CanT] at h
    rcases h with ⟨rfl, rfl, ⟨rfl, rfl, rfl⟩ | ⟨rfl, rfl, rfl⟩ | ⟨rfl, rfl, rfl⟩⟩ | ⟨rfl, rfl, rfl, ⟨rfl, rfl⟩ | ⟨rfl, hl, hr⟩, hk⟩
    · simp [jFull, treeJ, textT]
    · simp [jFull, treeJ, numT]
    · simp [jFull, treeJ, yesT]
    · simp [jFull, treeJ, listT, jFulls_can kids hk]
    · have hj : jFull (.mk 5 emptyS 0 false keys kids) = .map keys (jFulls kids) := by simp [jFull]
      rw [hj, treeJ, jFulls_can kids hk, mapT_zip hl hr]
theorem jFulls_can : ∀ l : List T, CanTs l → treesJ (jFulls l) = l
  | [], _ => by simp [jFulls, treesJ]
  | t :: r, h => by
    rw [CanTs] at h
    rw [jFulls, treesJ, jFull_can t h.1, jFulls_can r h.2]
end
theorem fullTs_all : ∀ {l : List T}, (∀ t ∈ l, FullT t) → FullTs l
  | [], _ => by rw [FullTs]; trivial
  | t :: r, h => by
    rw [FullTs]
    exact ⟨h t (by simp), fullTs_all fun q hq => h q (by simp [hq])⟩
def GoodT (t : T) : Prop := CanT t ∧ okT t = true ∧ FullT t
theorem good_text {x : ByteArray} (h : 0 < x.size) : GoodT (textT x) := by
  refine ⟨by simp [textT, CanT], okT_text x, ?_⟩
  rw [textT, FullT]
  refine .inl ?_
  have h2 : x.toList ≠ [] := fun e => by
    rw [Lib.toList_data] at e
    have := size_len x
    rw [e] at this
    simp at this
    omega
  simp [scalarT, scalarF, T.kind, T.text, T.keys, T.kids, h2]
theorem good_half : GoodT (numT halfB) := by
  have hf : finiteB halfB = true := by decide
  refine ⟨by simp [numT, CanT], okT_num hf, ?_⟩
  rw [numT, FullT]
  exact .inl (by simp [scalarT, scalarF, T.kind, T.num, T.keys, T.kids, hf])
theorem good_map {ps : List (ByteArray × T)} (h : ∀ p ∈ ps, GoodT p.2 ∧ p.1.size ≤ maxLen) (hl : ps.length ≤ 65536) : GoodT (mapT ps) := by
  refine ⟨?_, okT_map fun p hp => (h p hp).1.2.1, ?_⟩
  · obtain ⟨l, hm, hR, hlo⟩ := mapT_told ps
    have hmem : ∀ p ∈ l, p ∈ ps := fun p hp => mem_toldN hR hlo hp
    rw [hm]
    unfold mapOf
    rw [CanT]
    exact .inr ⟨rfl, rfl, rfl, .inr ⟨rfl, by simp, List.pairwise_map.2 hR⟩, (canTs_iff _).2 fun t ht => by
      obtain ⟨p, hp, rfl⟩ := List.mem_map.1 ht
      exact (h p (hmem p hp)).1.1⟩
  · obtain ⟨l, hm, hR, hlo⟩ := mapT_told ps
    have hmem : ∀ p ∈ l, p ∈ ps := fun p hp => mem_toldN hR hlo hp
    have hll : l.length ≤ 65536 := by have := (mapT_len ps).1; rw [hm] at this; unfold mapOf at this; simp [T.keys] at this; omega
    rw [hm]
    unfold mapOf
    rw [FullT]
    refine .inr ⟨.inr ⟨rfl, by simp, List.pairwise_map.2 hR⟩, by simp; omega, fun s hs => ?_, fullTs_all fun t ht => ?_⟩
    · obtain ⟨p, hp, rfl⟩ := List.mem_map.1 hs
      exact (h p (hmem p hp)).2
    · obtain ⟨p, hp, rfl⟩ := List.mem_map.1 ht
      exact (h p (hmem p hp)).1.2.2
where
  mem_toldN {ps l : List (ByteArray × T)} (h2 : Rising l) (h3 : ∀ k, lastOf l k = lastOf ps k) {p : ByteArray × T} (hp : p ∈ l) : p ∈ ps := by
    obtain ⟨k, v⟩ := p
    have h := (rising_mem h2).1 hp
    rw [h3] at h
    exact lastOf_mem h
theorem good_list {l : List T} (h : ∀ t ∈ l, GoodT t) (hl : l.length ≤ 2147483647) : GoodT (listT l) := by
  refine ⟨?_, okT_list fun t ht => (h t ht).2.1, ?_⟩
  · rw [listT, CanT]
    exact .inr ⟨rfl, rfl, rfl, .inl ⟨rfl, rfl⟩, (canTs_iff _).2 fun t ht => (h t ht).1⟩
  · rw [listT, FullT]
    exact .inr ⟨.inl ⟨rfl, rfl⟩, hl, by simp, fullTs_all fun t ht => (h t ht).2.2⟩
/-- Clauses under a name, as trees. -/
def tq (k : ByteArray) : List T → List (ByteArray × T)
  | [] => []
  | [t] => [(k, t)]
  | l => [(k, listT l)]
theorem treesJ_map : ∀ l : List J, treesJ l = l.map treeJ
  | [] => rfl
  | j :: r => by rw [treesJ, treesJ_map r]; rfl
theorem jTree_jQ (k : ByteArray) (l : List J) : jTree (jQ k l) = tq k (l.map treeJ) := by
  match l with
  | [] => rfl
  | [j] => rfl
  | a :: b :: r =>
    simp only [jQ, tq, List.map_cons, jTree, List.map_nil, treeJ, treesJ_map]
theorem jTree_append (a b : List (ByteArray × J)) : jTree (a ++ b) = jTree a ++ jTree b := by
  unfold jTree
  exact List.map_append
theorem good_tq {k : ByteArray} (hk : k.size ≤ maxLen) {l : List T} (h : ∀ t ∈ l, GoodT t) (hl : l.length ≤ 2147483647) : ∀ p ∈ tq k l, GoodT p.2 ∧ p.1.size ≤ maxLen := fun p hp => by
  match l, h, hl, hp with
  | [], _, _, hp => simp [tq] at hp
  | [t], h, _, hp =>
    simp [tq] at hp
    subst hp
    exact ⟨h t (by simp), hk⟩
  | a :: b :: r, h, hl, hp =>
    simp [tq] at hp
    subst hp
    exact ⟨good_list h hl, hk⟩
theorem tq_len (k : ByteArray) (l : List T) : (tq k l).length ≤ 1 := by
  match l with
  | [] => simp [tq]
  | [_] => simp [tq]
  | _ :: _ :: _ => simp [tq]
theorem good_all : GoodT (treeJ jAll) := by
  rw [jMap_tree]
  refine good_map (fun p hp => ?_) (by simp)
  simp only [List.mem_singleton] at hp
  subst hp
  exact ⟨good_map (fun p hp => by simp [jTree] at hp) (by simp [jTree]), by decide⟩
theorem good_kid {l : List J} (h : ∀ j ∈ l, GoodT (treeJ j)) (i : Nat) : GoodT (treeJ (kidJ l i)) := by
  unfold kidJ
  cases hi : l[i]? with
  | none => exact good_all
  | some j => exact h j (List.mem_of_getElem? hi)
theorem mem_place {ps : List Int} {p : Int} {l : List J} (h : ∀ j ∈ l, GoodT (treeJ j)) : ∀ t ∈ (inPlace ps p 0 l).map treeJ, GoodT t := fun t ht => by
  obtain ⟨j, hj, rfl⟩ := List.mem_map.1 ht
  exact h j (inPlace_mem hj)
theorem good_kind {k : ByteArray} (hk : k.size ≤ maxLen) {l : List (ByteArray × J)} (h : ∀ p ∈ jTree l, GoodT p.2 ∧ p.1.size ≤ maxLen) (hl : l.length ≤ 65536) : GoodT (treeJ (jMap [(k, jMap l)])) := by
  rw [jMap_tree]
  refine good_map (fun p hp => ?_) (by simp)
  simp only [List.mem_singleton] at hp
  subst hp
  exact ⟨good_map h (by simpa [jTree] using hl), hk⟩
theorem mem_tree {l : List (ByteArray × J)} {Q : ByteArray × T → Prop} (h : ∀ p ∈ l, Q (p.1, treeJ p.2)) : ∀ p ∈ jTree l, Q p := fun p hp => by
  unfold jTree at hp
  obtain ⟨q, hq, rfl⟩ := List.mem_map.1 hp
  exact h q hq
mutual
theorem good_node : ∀ r : Nd, FitN r → SmallN 1048576 r → GoodT (treeJ (jNode r))
  | .mk k x ps ks, hF, hS => by
    simp only [FitN] at hF
    simp only [SmallN] at hS
    have hk := good_nodes ks hF.2.2.2 hS.2.2.2
    have hxs : x.size ≤ maxLen := by unfold maxLen; omega
    have hnl : (jNodes ks).length ≤ 1048576 := by rw [jNodes_eq, List.length_map]; omega
    rw [jNode]
    split
    · have hx := (hF.1 (by omega)).2
      refine good_kind (by decide) (mem_tree fun p hp => ?_) (by simp)
      simp only [List.mem_singleton] at hp
      subst hp
      exact ⟨good_text hx, hxs⟩
    split
    · have hx := (hF.1 (by omega)).2
      refine good_kind (by decide) (mem_tree fun p hp => ?_) (by simp)
      simp only [List.mem_singleton] at hp
      subst hp
      exact ⟨good_text hx, by dsimp only; decide⟩
    split
    · refine good_kind (by decide) (fun p hp => ?_) ?_
      · simp only [jTree_append, jTree_jQ, List.mem_append] at hp
        have hb : ∀ q : Int, ((inPlace ps q 0 (jNodes ks)).map treeJ).length ≤ 2147483647 := fun q => by
          have := inPlace_len ps q (jNodes ks) 0
          rw [List.length_map]
          omega
        rcases hp with ((hp | hp) | hp) | hp
        · exact good_tq (by decide) (mem_place hk) (hb _) p hp
        · exact good_tq (by decide) (mem_place hk) (hb _) p hp
        · exact good_tq (by decide) (mem_place hk) (hb _) p hp
        · exact good_tq (by decide) (mem_place hk) (hb _) p hp
      · simp only [List.length_append]
        have h1 := jQ_len s_must (inPlace ps 0 0 (jNodes ks))
        have h2 := jQ_len s_must_not (inPlace ps 1 0 (jNodes ks))
        have h3 := jQ_len s_filter (inPlace ps 3 0 (jNodes ks))
        have h4 := jQ_len s_should (inPlace ps 2 0 (jNodes ks))
        omega
    split
    · refine good_kind (by decide) (mem_tree fun p hp => ?_) (by simp)
      simp only [List.mem_singleton] at hp
      subst hp
      exact ⟨good_kid hk 0, by dsimp only; decide⟩
    split
    · refine good_kind (by decide) (mem_tree fun p hp => ?_) (by simp)
      simp only [List.mem_singleton] at hp
      subst hp
      refine ⟨?_, by dsimp only; decide⟩
      show GoodT (treeJ (.list (jNodes ks)))
      rw [treeJ, treesJ_map]
      exact good_list (fun t ht => by obtain ⟨j, hj, rfl⟩ := List.mem_map.1 ht; exact hk j hj) (by rw [List.length_map]; omega)
    split
    · refine good_kind (by decide) (mem_tree fun p hp => ?_) (by simp)
      simp only [List.mem_cons, List.not_mem_nil, or_false] at hp
      rcases hp with rfl | rfl | rfl
      · exact ⟨good_kid hk 0, by dsimp only; decide⟩
      · exact ⟨good_kid hk 1, by dsimp only; decide⟩
      · exact ⟨good_half, by dsimp only; decide⟩
    split
    · have hx := (hF.1 (by omega)).2
      refine good_kind (by decide) (mem_tree fun p hp => ?_) (by simp)
      simp only [List.mem_cons, List.not_mem_nil, or_false] at hp
      rcases hp with rfl | rfl
      · exact ⟨good_kid hk 0, by dsimp only; decide⟩
      · exact ⟨good_text hx, by dsimp only; decide⟩
    · exact good_all
theorem good_nodes : ∀ l : List Nd, FitNs l → SmallNs 1048576 l → ∀ j ∈ jNodes l, GoodT (treeJ j)
  | [], _, _, j, h => by simp [jNodes] at h
  | r :: l, hF, hS, j, h => by
    simp only [FitNs] at hF
    simp only [SmallNs] at hS
    rw [jNodes] at h
    rcases List.mem_cons.1 h with e | h
    · rw [e]; exact good_node r hF.1 hS.1
    · exact good_nodes l hF.2 hS.2 j h
end
theorem node_kind (r : Nd) : (treeJ (jNode r)).kind = 5 := by
  obtain ⟨k, x, ps, ks⟩ := r
  rw [jNode]
  repeat' split
  all_goals (rw [treeJ_jMap]; exact mapT_kind _)
def placeName (z : Int) : ByteArray := if z = 1 then s_must_not else if z = 2 then s_should else if z = 3 then s_filter else s_must
/-- Settings with the trees of nodes. -/
def setsN (ps : List Int) : Nat → List Nd → List (ByteArray × T)
  | _, [] => []
  | i, r :: l => (placeName (placeAt ps i), treeJ (jNode r)) :: setsN ps (i + 1) l
theorem setsN_len (ps : List Int) : ∀ (l : List Nd) (i : Nat), (setsN ps i l).length = l.length
  | [], _ => rfl
  | r :: l, i => by simp [setsN, setsN_len ps l (i + 1)]
theorem setsN_get (ps : List Int) : ∀ (l : List Nd) (i j : Nat) (r : Nd), l[j]? = some r → (setsN ps i l)[j]? = some (placeName (placeAt ps (i + j)), treeJ (jNode r))
  | [], _, _, _, h => by simp at h
  | q :: l, i, 0, r, h => by simp at h; subst h; simp [setsN]
  | q :: l, i, j + 1, r, h => by
    simp only [List.getElem?_cons_succ] at h
    simp only [setsN, List.getElem?_cons_succ]
    rw [setsN_get ps l (i + 1) j r h]
    rw [show i + 1 + j = i + (j + 1) by omega]
theorem setsN_mem {ps : List Int} {p : ByteArray × T} : ∀ {l : List Nd} {i : Nat}, p ∈ setsN ps i l → ∃ r ∈ l, p.2 = treeJ (jNode r) ∧ ∃ z, p.1 = placeName z
  | [], _, h => by simp [setsN] at h
  | r :: l, i, h => by
    simp only [setsN, List.mem_cons] at h
    rcases h with rfl | h
    · exact ⟨r, by simp, rfl, _, rfl⟩
    · obtain ⟨q, hq, h1, h2⟩ := setsN_mem h
      exact ⟨q, by simp [hq], h1, h2⟩
theorem cl_node (r : Nd) : clT (treeJ (jNode r)) = [treeJ (jNode r)] := if_neg (by rw [node_kind]; decide)
theorem cls_place {ps : List Int} (h : ∀ p ∈ ps, 0 ≤ p ∧ p ≤ 3) {k : ByteArray} {z : Int} (hk : ∀ y : Int, y = 0 ∨ y = 1 ∨ y = 2 ∨ y = 3 → (seq (placeName y) k = true ↔ y = z)) : ∀ (l : List Nd) (i : Nat), clsOf (setsN ps i l) k = inPlace ps z i (l.map fun r => treeJ (jNode r))
  | [], _ => rfl
  | r :: l, i => by
    have ih := cls_place h hk l (i + 1)
    have e : clsOf (setsN ps i (r :: l)) k = (if seq (placeName (placeAt ps i)) k = true then clT (treeJ (jNode r)) else []) ++ clsOf (setsN ps (i + 1) l) k := rfl
    rw [e, ih, List.map_cons, inPlace, cl_node]
    congr 1
    have h2 := hk _ (placeAt_fit h i)
    by_cases hz : placeAt ps i = z
    · rw [if_pos (h2.2 hz), if_pos hz]
    · rw [if_neg (fun e => hz (h2.1 e)), if_neg hz]
theorem sets_last {ps : List Int} {l : List Nd} {i : Nat} {k : ByteArray} (hk : ∀ z, placeName z ≠ k) : lastOf (setsN ps i l) k = none := lastOf_none fun _ p hp e => by
  obtain ⟨_, -, -, z, hz⟩ := setsN_mem (List.mem_of_getElem? hp)
  exact hk z (hz ▸ e)
theorem place_ne {k : ByteArray} (h : k ≠ s_must ∧ k ≠ s_must_not ∧ k ≠ s_should ∧ k ≠ s_filter) (z : Int) : placeName z ≠ k := by
  unfold placeName
  split
  · exact fun e => h.2.1 e.symm
  split
  · exact fun e => h.2.2.1 e.symm
  split
  · exact fun e => h.2.2.2 e.symm
  · exact fun e => h.1 e.symm
theorem least_none {ps : List Int} : ∀ (l : List Nd) (i : Nat) (o : Option T), (setsN ps i l).foldl leastStep o = o
  | [], _, _ => rfl
  | r :: l, i, o => by
    have e : leastStep o (placeName (placeAt ps i), treeJ (jNode r)) = o := by
      unfold leastStep
      rw [seq_false.2 (place_ne (by decide) _), seq_false.2 (place_ne (by decide) _)]
      rfl
    simp only [setsN, List.foldl_cons]
    rw [e]
    exact least_none l (i + 1) o
theorem place_iff : ∀ y : Int, y = 0 ∨ y = 1 ∨ y = 2 ∨ y = 3 → (seq (placeName y) s_must = true ↔ y = 0) ∧ (seq (placeName y) s_must_not = true ↔ y = 1) ∧ (seq (placeName y) s_should = true ↔ y = 2) ∧ (seq (placeName y) s_filter = true ↔ y = 3) := fun y h => by
  rcases h with rfl | rfl | rfl | rfl <;> simp only [seq_iff] <;> decide
/-- A bool query whose clauses are the trees of kids hands over what the bool query of the kids does. -/
theorem made_same {x : ByteArray} {ps : List Int} {ks : List Nd} (hF : FitN (.mk 3 x ps ks)) (hS : SmallN 1048576 (.mk 3 x ps ks)) : treeJ (jMap [(s_bool, jMap (boolJ (setsN ps 0 ks)))]) = treeJ (jNode (.mk 3 x ps ks)) := by
  simp only [FitN] at hF
  simp only [SmallN] at hS
  have hk := good_nodes ks hF.2.2.2 hS.2.2.2
  have hc : ∀ p : Int, (inPlace ps p 0 (ks.map fun r => treeJ (jNode r))).map (fun t => treeJ (jFull t)) = (inPlace ps p 0 (jNodes ks)).map treeJ := fun p => by
    rw [jNodes_eq, inPlace_map (fun r => treeJ (jNode r)), inPlace_map jNode, List.map_map, List.map_map]
    refine List.map_congr_left fun r hr => ?_
    have h1 := hk (jNode r) (by rw [jNodes_eq]; exact List.mem_map_of_mem (inPlace_mem hr))
    exact jFull_can _ h1.1
  have hl : leastOf (setsN ps 0 ks) = none := least_none ks 0 none
  have hB : boolJ (setsN ps 0 ks) = jQ s_must ((inPlace ps 0 0 (ks.map fun r => treeJ (jNode r))).map jFull) ++ jQ s_must_not ((inPlace ps 1 0 (ks.map fun r => treeJ (jNode r))).map jFull) ++ jQ s_filter ((inPlace ps 3 0 (ks.map fun r => treeJ (jNode r))).map jFull) ++ jQ s_should ((inPlace ps 2 0 (ks.map fun r => treeJ (jNode r))).map jFull) := by
    unfold boolJ
    rw [hl, sets_last (k := s_boost) (place_ne (by decide)), sets_last (k := s_adjust_pure_negative) (place_ne (by decide)), sets_last (k := s_name) (place_ne (by decide)),
      cls_place hF.2.2.1 (fun y hy => (place_iff y hy).1), cls_place hF.2.2.1 (fun y hy => (place_iff y hy).2.1), cls_place hF.2.2.1 (fun y hy => (place_iff y hy).2.2.2), cls_place hF.2.2.1 (fun y hy => (place_iff y hy).2.2.1)]
    simp [jN, jT, jY, fT]
  rw [jNode, if_neg (by decide), if_neg (by decide), if_pos rfl, jMap_tree, jMap_tree, hB]
  simp only [jTree_append, jTree_jQ, List.map_map, Function.comp_def, hc]
end Go.Proofs.YtfngaoicoecncaaGreatDoor

namespace Go.Proofs.YtfngaoicoecncaaGreatDoor
open Go.RowKit

set_option maxHeartbeats 1000000 in
theorem fieldN_any (s : ByteArray) (hs : s.size ≤ 2147483647) (w : World) : Calls Tryz.prog 8 #[.string s] w (Yes (FieldP s ∧ 0 < s.size) w) := by
  have hPl := Lib.hid fun w => place_any s 94 (by decide) w (by omega)
  have hH := Lib.hid fun w2 v hb => hasF s w2 v hb
  go_enter Tryz.func8, Tryz.ntmps8
  by_cases h0 : 0 < s.size
  · have he : s.toList.isEmpty = false := by
      rw [Lib.toList_data]
      cases h : s.data.toList with
      | nil => have := size_len s; rw [h] at this; simp at this; omega
      | cons => rfl
    cases h95 : ((s[0]'h0).toNat : Int) == 95
    · have hg0 : s.data.toList[0]? = some s[0] := by
        rw [Array.getElem?_toList]
        exact Array.getElem?_eq_getElem h0
      have HG := Lib.hid hg0
      clear hg0
      by_cases hp : placeL 94 s.data.toList < s.size
      · go_wp2_with (go_at_call 24; refine (hPl.out _).mono ?_; rintro r w' ⟨rfl, rfl⟩)
        go_ret
        exact ⟨false, rfl, by simp, ext_refl _⟩
      · go_wp2_with (first
          | (go_at_call 24; refine (hPl.out _).mono ?_; rintro r w' ⟨rfl, rfl⟩)
          | (go_at_call 25; refine (hH.out _ _ (Box.at rfl _ _)).mono ?_; rintro r w' ⟨rfl, rfl⟩))
        go_ret
        refine ⟨_, rfl, fun hb => ⟨⟨fun x hx => ?_, by simpa using hb⟩, h0⟩, ext_alloc (ext_refl _) _⟩
        rw [HG.out] at hx
        cases hx
        intro e
        rw [e] at h95
        exact absurd h95 (by decide)
    · go_wp2_with fail
      go_ret
      exact ⟨false, rfl, by simp, ext_refl _⟩
  · have he : s.toList.isEmpty = true := by
      rw [Lib.toList_data, List.isEmpty_iff]
      exact List.length_eq_zero_iff.1 (by rw [size_len]; omega)
    go_wp2_with fail
    go_ret
    exact ⟨false, rfl, by simp, ext_refl _⟩
def FitC (r : Nd) (d : Int) : Prop := ∀ (S : Nat → Prop) (e : Nv) (w : World), NodeAt S w e r → Calls Tryz.prog 14 #[e.val, .int .i64 d] w (Yes (FitN r) w)
set_option maxRecDepth 20000 in
set_option maxHeartbeats 8000000 in
theorem nfit_zero (k : Int) (x : ByteArray) (ps : List Int) (ks : List Nd) (hSm : SmallN 1048576 (.mk k x ps ks)) : FitC (.mk k x ps ks) 0 := by
  rintro S ⟨ek, ex, epa, epn, epc, eka, ekn, ekc⟩ w h
  obtain ⟨h1, h2, hP, hK⟩ := h.parts
  simp only at h1 h2 hP hK
  subst h1 h2
  simp only [SmallN] at hSm
  have hkn : ekn ≤ 1048576 := by have := hK.1; omega
  have hpn : epn ≤ 1048576 := by have := hP.1; omega
  have hxn : ex.size ≤ 1048576 := by omega
  have HPS := Lib.hid hP
  have HKS := Lib.hid hK
  have HSM := Lib.hid ((smallNs_iff _ _).1 hSm.2.2.2)
  have hFd := Lib.hid fun w' => fieldN_any ex (by omega) w'
  clear h hP hK hSm
  simp only [Nv.val]
  have hx0 : Ext w (w.alloc (.cells #[.int .i64 ek, .string ex, .slice epa epn epc, .slice eka ekn ekc] 41)) := ext_alloc (ext_refl _) _
  have hbR : Box (w.alloc (.cells #[.int .i64 ek, .string ex, .slice epa epn epc, .slice eka ekn ekc] 41)) w.heap.size #[.int .i64 ek, .string ex, .slice epa epn epc, .slice eka ekn ekc] 41 := Box.at rfl _ _
  go_enter Tryz.func14, Tryz.ntmps14
  go_wp2_with fail
  go_ret
  exact ⟨false, rfl, (by intro h; cases h), hx0⟩
set_option maxRecDepth 20000 in
set_option maxHeartbeats 8000000 in
theorem nfit_low (n : Int) (hn1 : 1 ≤ n) (hn2 : n ≤ 1000) (k : Int) (hk : k < 0) (x : ByteArray) (ps : List Int) (ks : List Nd) (hSm : SmallN 1048576 (.mk k x ps ks)) : FitC (.mk k x ps ks) n := by
  rintro S ⟨ek, ex, epa, epn, epc, eka, ekn, ekc⟩ w h
  obtain ⟨h1, h2, hP, hK⟩ := h.parts
  simp only at h1 h2 hP hK
  subst h1 h2
  simp only [SmallN] at hSm
  have hkn : ekn ≤ 1048576 := by have := hK.1; omega
  have hpn : epn ≤ 1048576 := by have := hP.1; omega
  have hxn : ex.size ≤ 1048576 := by omega
  have HPS := Lib.hid hP
  have HKS := Lib.hid hK
  have HSM := Lib.hid ((smallNs_iff _ _).1 hSm.2.2.2)
  have hFd := Lib.hid fun w' => fieldN_any ex (by omega) w'
  clear h hP hK hSm
  simp only [Nv.val]
  have hx0 : Ext w (w.alloc (.cells #[.int .i64 ek, .string ex, .slice epa epn epc, .slice eka ekn ekc] 41)) := ext_alloc (ext_refl _) _
  have hbR : Box (w.alloc (.cells #[.int .i64 ek, .string ex, .slice epa epn epc, .slice eka ekn ekc] 41)) w.heap.size #[.int .i64 ek, .string ex, .slice epa epn epc, .slice eka ekn ekc] 41 := Box.at rfl _ _
  have hd0 : (n == 0) = false := by simp; omega
  go_enter Tryz.func14, Tryz.ntmps14
  go_wp2_with fail
  go_ret
  exact ⟨false, rfl, (by intro h; cases h), hx0⟩
set_option maxRecDepth 20000 in
set_option maxHeartbeats 8000000 in
theorem nfit_high (n : Int) (hn1 : 1 ≤ n) (hn2 : n ≤ 1000) (k : Int) (hk : 7 < k) (x : ByteArray) (ps : List Int) (ks : List Nd) (hSm : SmallN 1048576 (.mk k x ps ks)) : FitC (.mk k x ps ks) n := by
  rintro S ⟨ek, ex, epa, epn, epc, eka, ekn, ekc⟩ w h
  obtain ⟨h1, h2, hP, hK⟩ := h.parts
  simp only at h1 h2 hP hK
  subst h1 h2
  simp only [SmallN] at hSm
  have hkn : ekn ≤ 1048576 := by have := hK.1; omega
  have hpn : epn ≤ 1048576 := by have := hP.1; omega
  have hxn : ex.size ≤ 1048576 := by omega
  have HPS := Lib.hid hP
  have HKS := Lib.hid hK
  have HSM := Lib.hid ((smallNs_iff _ _).1 hSm.2.2.2)
  have hFd := Lib.hid fun w' => fieldN_any ex (by omega) w'
  clear h hP hK hSm
  simp only [Nv.val]
  have hx0 : Ext w (w.alloc (.cells #[.int .i64 ek, .string ex, .slice epa epn epc, .slice eka ekn ekc] 41)) := ext_alloc (ext_refl _) _
  have hbR : Box (w.alloc (.cells #[.int .i64 ek, .string ex, .slice epa epn epc, .slice eka ekn ekc] 41)) w.heap.size #[.int .i64 ek, .string ex, .slice epa epn epc, .slice eka ekn ekc] 41 := Box.at rfl _ _
  have hd0 : (n == 0) = false := by simp; omega
  have hdl : ¬ (ek < 0) := by omega
  go_enter Tryz.func14, Tryz.ntmps14
  go_wp2_with fail
  go_ret
  exact ⟨false, rfl, (by intro h; cases h), hx0⟩
set_option maxRecDepth 20000 in
set_option maxHeartbeats 8000000 in
theorem nfit_0 (n : Int) (hn1 : 1 ≤ n) (hn2 : n ≤ 1000) (ih : ∀ r, SmallN 1048576 r → FitC r (n - 1)) (x : ByteArray) (ps : List Int) (ks : List Nd) (hSm : SmallN 1048576 (.mk 0 x ps ks)) : FitC (.mk 0 x ps ks) n := by
  rintro S ⟨ek, ex, epa, epn, epc, eka, ekn, ekc⟩ w h
  obtain ⟨h1, h2, hP, hK⟩ := h.parts
  simp only at h1 h2 hP hK
  subst h1 h2
  simp only [SmallN] at hSm
  have hkn : ekn ≤ 1048576 := by have := hK.1; omega
  have hpn : epn ≤ 1048576 := by have := hP.1; omega
  have hxn : ex.size ≤ 1048576 := by omega
  have HPS := Lib.hid hP
  have HKS := Lib.hid hK
  have HSM := Lib.hid ((smallNs_iff _ _).1 hSm.2.2.2)
  have hFd := Lib.hid fun w' => fieldN_any ex (by omega) w'
  clear h hP hK hSm
  simp only [Nv.val]
  have hx0 : Ext w (w.alloc (.cells #[.int .i64 0, .string ex, .slice epa epn epc, .slice eka ekn ekc] 41)) := ext_alloc (ext_refl _) _
  have hbR : Box (w.alloc (.cells #[.int .i64 0, .string ex, .slice epa epn epc, .slice eka ekn ekc] 41)) w.heap.size #[.int .i64 0, .string ex, .slice epa epn epc, .slice eka ekn ekc] 41 := Box.at rfl _ _
  have HI := Lib.hid ih
  clear ih
  have hwr : IntKind.i64.wrap (n - 1) = n - 1 := IntWalk.i64_in _ (by omega)
  have hd0 : (n == 0) = false := by simp; omega
  go_enter Tryz.func14, Tryz.ntmps14
  go_wp2_with fail
  have hxw := hx0
  have hbw := hbR
  go_loopw [5] (fun i wr => Ext w wr ∧ Box wr w.heap.size #[.int .i64 0, .string ex, .slice epa epn epc, .slice eka ekn ekc] 41 ∧ ∃ j : Nat, j ≤ epn ∧ i = .int .i64 j ∧ ∀ m z, m < j → ps[m]? = some z → 0 ≤ z ∧ z ≤ 3) (fun i _ => epn - (intOf i).toNat)
  case atStart => exact ⟨hxw, hbw, 0, Nat.zero_le _, rfl, fun m z hm => by omega⟩
  case round =>
    obtain ⟨hx, hb, j, hj, rfl, hall⟩ := hrel
    have HALL := Lib.hid hall
    clear hall
    have c2 := hb.cell 2 _ rfl
    by_cases hlt : j < epn
    case pos =>
      obtain ⟨z, hz⟩ := some_of_lt HPS.out.1 hlt
      obtain ⟨zb, zo, rfl, -, hcz⟩ := HPS.out.2.2.2 j z hz
      have hcz := hx.cell hcz
      have HZZ := Lib.hid hz
      clear hz
      by_cases h0 : z < 0
      case pos =>
        go_wp2_with fail
        go_ret
        exact ⟨false, rfl, (by intro h; cases h), hx⟩
      by_cases h3 : 3 < z
      case pos =>
        go_wp2_with fail
        go_ret
        exact ⟨false, rfl, (by intro h; cases h), hx⟩
      go_wp2_with fail
      go_roundw
      case rel =>
        have hfin : ∀ m z, m < j + 1 → ps[m]? = some z → 0 ≤ z ∧ z ≤ 3 := fun m y hm hy => by
          by_cases hmj : m = j
          · subst hmj
            rw [HZZ.out] at hy
            cases hy
            omega
          · exact HALL.out m y (by omega) hy
        first
          | exact ⟨hx, hb, j + 1, by omega, by go_num, hfin⟩
          | (repeat apply Exists.intro
             refine And.intro ?_ rfl
             exact ⟨hx, hb, j + 1, by omega, by go_num, hfin⟩)
      case measure => simp [intOf]; omega
    have HP3 := Lib.hid (show ∀ p ∈ ps, 0 ≤ p ∧ p ≤ 3 from fun p hp => by
      obtain ⟨m, hm⟩ := List.getElem?_of_mem hp
      exact HALL.out m p (by have h1 := (List.getElem?_eq_some_iff.1 hm).1; have h2 := HPS.out.1; omega) hm)
    rename World => wp
    go_wp2_with fail
    have hxp := hx
    have hbp := hb
    clear HALL c2
    go_loopw [6] (fun i wr => Ext w wr ∧ Box wr w.heap.size #[.int .i64 0, .string ex, .slice epa epn epc, .slice eka ekn ekc] 41 ∧ ∃ jj : Nat, jj ≤ ekn ∧ i = .int .i64 jj ∧ ∀ m r, m < jj → ks[m]? = some r → FitN r) (fun i _ => ekn - (intOf i).toNat)
    case atStart => exact ⟨hxp, hbp, 0, Nat.zero_le _, rfl, fun m z hm => by omega⟩
    case round =>
      obtain ⟨hx, hb, jj, hjj, rfl, hall⟩ := hrel
      have HALL := Lib.hid hall
      clear hall
      have c3 := hb.cell 3 _ rfl
      by_cases hlk : jj < ekn
      case pos =>
        obtain ⟨r0, hr0⟩ := some_of_lt HKS.out.1 hlk
        obtain ⟨b, off, ⟨rk, rx, rpa, rpn, rpc, rka, rkn, rkc⟩, rfl, -, hrc, hra⟩ := HKS.out.get hr0
        obtain ⟨q0, q1, q2, q3⟩ := NCells.ext hx hrc
        have hQ := Lib.hid (fun (w1 : World) (x : Ext w w1) => HI.out r0 (HSM.out r0 (List.mem_of_getElem? hr0)) S _ w1 (NodeAt.ext x hra))
        have HR0 := Lib.hid hr0
        clear hrc hra hr0
        simp only [Nv.val] at hQ
        go_wp2_with (first
          | (go_at_call 14; refine (hQ.out _ hx).mono ?_; rintro r w2 ⟨bb, rfl, hbb, hx2⟩
             have HBB := Lib.hid hbb
             clear hbb
             cases bb)
          | fail)
        all_goals (try (go_ret; exact ⟨false, rfl, (by intro h; cases h), ext_trans hx hx2⟩))
        go_roundw
        case rel =>
          have hfin : ∀ m r, m < jj + 1 → ks[m]? = some r → FitN r := fun m y hm hy => by
            by_cases hmj : m = jj
            · subst hmj
              rw [HR0.out] at hy
              cases hy
              exact HBB.out (by trivial)
            · exact HALL.out m y (by omega) hy
          first
            | exact ⟨ext_trans hx hx2, hb.ext hx2, jj + 1, by omega, by go_num, hfin⟩
            | (repeat apply Exists.intro
               refine And.intro ?_ rfl
               exact ⟨ext_trans hx hx2, hb.ext hx2, jj + 1, by omega, by go_num, hfin⟩)
        case measure => simp [intOf]; omega
      go_wp2_with fail
      go_ret
      refine ⟨true, rfl, fun _ => ?_, hx⟩
      simp only [FitN]
      refine ⟨fun h => by omega, fun h => by omega, HP3.out, (fitNs_iff _).2 fun r hr => ?_⟩
      obtain ⟨m, hm⟩ := List.getElem?_of_mem hr
      exact HALL.out m r (by have h1 := (List.getElem?_eq_some_iff.1 hm).1; have h2 := HKS.out.1; omega) hm
set_option maxRecDepth 20000 in
set_option maxHeartbeats 8000000 in
theorem nfit_1 (n : Int) (hn1 : 1 ≤ n) (hn2 : n ≤ 1000) (ih : ∀ r, SmallN 1048576 r → FitC r (n - 1)) (x : ByteArray) (ps : List Int) (ks : List Nd) (hSm : SmallN 1048576 (.mk 1 x ps ks)) : FitC (.mk 1 x ps ks) n := by
  rintro S ⟨ek, ex, epa, epn, epc, eka, ekn, ekc⟩ w h
  obtain ⟨h1, h2, hP, hK⟩ := h.parts
  simp only at h1 h2 hP hK
  subst h1 h2
  simp only [SmallN] at hSm
  have hkn : ekn ≤ 1048576 := by have := hK.1; omega
  have hpn : epn ≤ 1048576 := by have := hP.1; omega
  have hxn : ex.size ≤ 1048576 := by omega
  have HPS := Lib.hid hP
  have HKS := Lib.hid hK
  have HSM := Lib.hid ((smallNs_iff _ _).1 hSm.2.2.2)
  have hFd := Lib.hid fun w' => fieldN_any ex (by omega) w'
  clear h hP hK hSm
  simp only [Nv.val]
  have hx0 : Ext w (w.alloc (.cells #[.int .i64 1, .string ex, .slice epa epn epc, .slice eka ekn ekc] 41)) := ext_alloc (ext_refl _) _
  have hbR : Box (w.alloc (.cells #[.int .i64 1, .string ex, .slice epa epn epc, .slice eka ekn ekc] 41)) w.heap.size #[.int .i64 1, .string ex, .slice epa epn epc, .slice eka ekn ekc] 41 := Box.at rfl _ _
  have HI := Lib.hid ih
  clear ih
  have hwr : IntKind.i64.wrap (n - 1) = n - 1 := IntWalk.i64_in _ (by omega)
  have hd0 : (n == 0) = false := by simp; omega
  go_enter Tryz.func14, Tryz.ntmps14
  go_wp2_with (first
    | (go_at_call 8; refine (hFd.out _).mono ?_; rintro r wf ⟨bf, rfl, hf, hxf⟩
       have HF := Lib.hid hf
       clear hf
       have hbf := hbR.ext hxf
       have c0 := hbf.cell 0 _ rfl
       have c1 := hbf.cell 1 _ rfl
       have c2 := hbf.cell 2 _ rfl
       have c3 := hbf.cell 3 _ rfl
       cases bf)
    | fail)
  all_goals (try (go_ret; exact ⟨false, rfl, (by intro h; cases h), ext_trans hx0 hxf⟩))
  have HFF := Lib.hid (HF.out (by trivial))
  have hxw := ext_trans hx0 hxf
  have hbw := hbf
  clear HF c0 c1 c2 c3
  go_loopw [5] (fun i wr => Ext w wr ∧ Box wr w.heap.size #[.int .i64 1, .string ex, .slice epa epn epc, .slice eka ekn ekc] 41 ∧ ∃ j : Nat, j ≤ epn ∧ i = .int .i64 j ∧ ∀ m z, m < j → ps[m]? = some z → 0 ≤ z ∧ z ≤ 3) (fun i _ => epn - (intOf i).toNat)
  case atStart => exact ⟨hxw, hbw, 0, Nat.zero_le _, rfl, fun m z hm => by omega⟩
  case round =>
    obtain ⟨hx, hb, j, hj, rfl, hall⟩ := hrel
    have HALL := Lib.hid hall
    clear hall
    have c2 := hb.cell 2 _ rfl
    by_cases hlt : j < epn
    case pos =>
      obtain ⟨z, hz⟩ := some_of_lt HPS.out.1 hlt
      obtain ⟨zb, zo, rfl, -, hcz⟩ := HPS.out.2.2.2 j z hz
      have hcz := hx.cell hcz
      have HZZ := Lib.hid hz
      clear hz
      by_cases h0 : z < 0
      case pos =>
        go_wp2_with fail
        go_ret
        exact ⟨false, rfl, (by intro h; cases h), hx⟩
      by_cases h3 : 3 < z
      case pos =>
        go_wp2_with fail
        go_ret
        exact ⟨false, rfl, (by intro h; cases h), hx⟩
      go_wp2_with fail
      go_roundw
      case rel =>
        have hfin : ∀ m z, m < j + 1 → ps[m]? = some z → 0 ≤ z ∧ z ≤ 3 := fun m y hm hy => by
          by_cases hmj : m = j
          · subst hmj
            rw [HZZ.out] at hy
            cases hy
            omega
          · exact HALL.out m y (by omega) hy
        first
          | exact ⟨hx, hb, j + 1, by omega, by go_num, hfin⟩
          | (repeat apply Exists.intro
             refine And.intro ?_ rfl
             exact ⟨hx, hb, j + 1, by omega, by go_num, hfin⟩)
      case measure => simp [intOf]; omega
    have HP3 := Lib.hid (show ∀ p ∈ ps, 0 ≤ p ∧ p ≤ 3 from fun p hp => by
      obtain ⟨m, hm⟩ := List.getElem?_of_mem hp
      exact HALL.out m p (by have h1 := (List.getElem?_eq_some_iff.1 hm).1; have h2 := HPS.out.1; omega) hm)
    rename World => wp
    go_wp2_with fail
    have hxp := hx
    have hbp := hb
    clear HALL c2
    go_loopw [6] (fun i wr => Ext w wr ∧ Box wr w.heap.size #[.int .i64 1, .string ex, .slice epa epn epc, .slice eka ekn ekc] 41 ∧ ∃ jj : Nat, jj ≤ ekn ∧ i = .int .i64 jj ∧ ∀ m r, m < jj → ks[m]? = some r → FitN r) (fun i _ => ekn - (intOf i).toNat)
    case atStart => exact ⟨hxp, hbp, 0, Nat.zero_le _, rfl, fun m z hm => by omega⟩
    case round =>
      obtain ⟨hx, hb, jj, hjj, rfl, hall⟩ := hrel
      have HALL := Lib.hid hall
      clear hall
      have c3 := hb.cell 3 _ rfl
      by_cases hlk : jj < ekn
      case pos =>
        obtain ⟨r0, hr0⟩ := some_of_lt HKS.out.1 hlk
        obtain ⟨b, off, ⟨rk, rx, rpa, rpn, rpc, rka, rkn, rkc⟩, rfl, -, hrc, hra⟩ := HKS.out.get hr0
        obtain ⟨q0, q1, q2, q3⟩ := NCells.ext hx hrc
        have hQ := Lib.hid (fun (w1 : World) (x : Ext w w1) => HI.out r0 (HSM.out r0 (List.mem_of_getElem? hr0)) S _ w1 (NodeAt.ext x hra))
        have HR0 := Lib.hid hr0
        clear hrc hra hr0
        simp only [Nv.val] at hQ
        go_wp2_with (first
          | (go_at_call 14; refine (hQ.out _ hx).mono ?_; rintro r w2 ⟨bb, rfl, hbb, hx2⟩
             have HBB := Lib.hid hbb
             clear hbb
             cases bb)
          | fail)
        all_goals (try (go_ret; exact ⟨false, rfl, (by intro h; cases h), ext_trans hx hx2⟩))
        go_roundw
        case rel =>
          have hfin : ∀ m r, m < jj + 1 → ks[m]? = some r → FitN r := fun m y hm hy => by
            by_cases hmj : m = jj
            · subst hmj
              rw [HR0.out] at hy
              cases hy
              exact HBB.out (by trivial)
            · exact HALL.out m y (by omega) hy
          first
            | exact ⟨ext_trans hx hx2, hb.ext hx2, jj + 1, by omega, by go_num, hfin⟩
            | (repeat apply Exists.intro
               refine And.intro ?_ rfl
               exact ⟨ext_trans hx hx2, hb.ext hx2, jj + 1, by omega, by go_num, hfin⟩)
        case measure => simp [intOf]; omega
      go_wp2_with fail
      go_ret
      refine ⟨true, rfl, fun _ => ?_, hx⟩
      simp only [FitN]
      refine ⟨fun _ => HFF.out, fun h => by omega, HP3.out, (fitNs_iff _).2 fun r hr => ?_⟩
      obtain ⟨m, hm⟩ := List.getElem?_of_mem hr
      exact HALL.out m r (by have h1 := (List.getElem?_eq_some_iff.1 hm).1; have h2 := HKS.out.1; omega) hm
set_option maxRecDepth 20000 in
set_option maxHeartbeats 8000000 in
theorem nfit_2 (n : Int) (hn1 : 1 ≤ n) (hn2 : n ≤ 1000) (ih : ∀ r, SmallN 1048576 r → FitC r (n - 1)) (x : ByteArray) (ps : List Int) (ks : List Nd) (hSm : SmallN 1048576 (.mk 2 x ps ks)) : FitC (.mk 2 x ps ks) n := by
  rintro S ⟨ek, ex, epa, epn, epc, eka, ekn, ekc⟩ w h
  obtain ⟨h1, h2, hP, hK⟩ := h.parts
  simp only at h1 h2 hP hK
  subst h1 h2
  simp only [SmallN] at hSm
  have hkn : ekn ≤ 1048576 := by have := hK.1; omega
  have hpn : epn ≤ 1048576 := by have := hP.1; omega
  have hxn : ex.size ≤ 1048576 := by omega
  have HPS := Lib.hid hP
  have HKS := Lib.hid hK
  have HSM := Lib.hid ((smallNs_iff _ _).1 hSm.2.2.2)
  have hFd := Lib.hid fun w' => fieldN_any ex (by omega) w'
  clear h hP hK hSm
  simp only [Nv.val]
  have hx0 : Ext w (w.alloc (.cells #[.int .i64 2, .string ex, .slice epa epn epc, .slice eka ekn ekc] 41)) := ext_alloc (ext_refl _) _
  have hbR : Box (w.alloc (.cells #[.int .i64 2, .string ex, .slice epa epn epc, .slice eka ekn ekc] 41)) w.heap.size #[.int .i64 2, .string ex, .slice epa epn epc, .slice eka ekn ekc] 41 := Box.at rfl _ _
  have HI := Lib.hid ih
  clear ih
  have hwr : IntKind.i64.wrap (n - 1) = n - 1 := IntWalk.i64_in _ (by omega)
  have hd0 : (n == 0) = false := by simp; omega
  go_enter Tryz.func14, Tryz.ntmps14
  go_wp2_with (first
    | (go_at_call 8; refine (hFd.out _).mono ?_; rintro r wf ⟨bf, rfl, hf, hxf⟩
       have HF := Lib.hid hf
       clear hf
       have hbf := hbR.ext hxf
       have c0 := hbf.cell 0 _ rfl
       have c1 := hbf.cell 1 _ rfl
       have c2 := hbf.cell 2 _ rfl
       have c3 := hbf.cell 3 _ rfl
       cases bf)
    | fail)
  all_goals (try (go_ret; exact ⟨false, rfl, (by intro h; cases h), ext_trans hx0 hxf⟩))
  have HFF := Lib.hid (HF.out (by trivial))
  have hxw := ext_trans hx0 hxf
  have hbw := hbf
  clear HF c0 c1 c2 c3
  go_loopw [5] (fun i wr => Ext w wr ∧ Box wr w.heap.size #[.int .i64 2, .string ex, .slice epa epn epc, .slice eka ekn ekc] 41 ∧ ∃ j : Nat, j ≤ epn ∧ i = .int .i64 j ∧ ∀ m z, m < j → ps[m]? = some z → 0 ≤ z ∧ z ≤ 3) (fun i _ => epn - (intOf i).toNat)
  case atStart => exact ⟨hxw, hbw, 0, Nat.zero_le _, rfl, fun m z hm => by omega⟩
  case round =>
    obtain ⟨hx, hb, j, hj, rfl, hall⟩ := hrel
    have HALL := Lib.hid hall
    clear hall
    have c2 := hb.cell 2 _ rfl
    by_cases hlt : j < epn
    case pos =>
      obtain ⟨z, hz⟩ := some_of_lt HPS.out.1 hlt
      obtain ⟨zb, zo, rfl, -, hcz⟩ := HPS.out.2.2.2 j z hz
      have hcz := hx.cell hcz
      have HZZ := Lib.hid hz
      clear hz
      by_cases h0 : z < 0
      case pos =>
        go_wp2_with fail
        go_ret
        exact ⟨false, rfl, (by intro h; cases h), hx⟩
      by_cases h3 : 3 < z
      case pos =>
        go_wp2_with fail
        go_ret
        exact ⟨false, rfl, (by intro h; cases h), hx⟩
      go_wp2_with fail
      go_roundw
      case rel =>
        have hfin : ∀ m z, m < j + 1 → ps[m]? = some z → 0 ≤ z ∧ z ≤ 3 := fun m y hm hy => by
          by_cases hmj : m = j
          · subst hmj
            rw [HZZ.out] at hy
            cases hy
            omega
          · exact HALL.out m y (by omega) hy
        first
          | exact ⟨hx, hb, j + 1, by omega, by go_num, hfin⟩
          | (repeat apply Exists.intro
             refine And.intro ?_ rfl
             exact ⟨hx, hb, j + 1, by omega, by go_num, hfin⟩)
      case measure => simp [intOf]; omega
    have HP3 := Lib.hid (show ∀ p ∈ ps, 0 ≤ p ∧ p ≤ 3 from fun p hp => by
      obtain ⟨m, hm⟩ := List.getElem?_of_mem hp
      exact HALL.out m p (by have h1 := (List.getElem?_eq_some_iff.1 hm).1; have h2 := HPS.out.1; omega) hm)
    rename World => wp
    go_wp2_with fail
    have hxp := hx
    have hbp := hb
    clear HALL c2
    go_loopw [6] (fun i wr => Ext w wr ∧ Box wr w.heap.size #[.int .i64 2, .string ex, .slice epa epn epc, .slice eka ekn ekc] 41 ∧ ∃ jj : Nat, jj ≤ ekn ∧ i = .int .i64 jj ∧ ∀ m r, m < jj → ks[m]? = some r → FitN r) (fun i _ => ekn - (intOf i).toNat)
    case atStart => exact ⟨hxp, hbp, 0, Nat.zero_le _, rfl, fun m z hm => by omega⟩
    case round =>
      obtain ⟨hx, hb, jj, hjj, rfl, hall⟩ := hrel
      have HALL := Lib.hid hall
      clear hall
      have c3 := hb.cell 3 _ rfl
      by_cases hlk : jj < ekn
      case pos =>
        obtain ⟨r0, hr0⟩ := some_of_lt HKS.out.1 hlk
        obtain ⟨b, off, ⟨rk, rx, rpa, rpn, rpc, rka, rkn, rkc⟩, rfl, -, hrc, hra⟩ := HKS.out.get hr0
        obtain ⟨q0, q1, q2, q3⟩ := NCells.ext hx hrc
        have hQ := Lib.hid (fun (w1 : World) (x : Ext w w1) => HI.out r0 (HSM.out r0 (List.mem_of_getElem? hr0)) S _ w1 (NodeAt.ext x hra))
        have HR0 := Lib.hid hr0
        clear hrc hra hr0
        simp only [Nv.val] at hQ
        go_wp2_with (first
          | (go_at_call 14; refine (hQ.out _ hx).mono ?_; rintro r w2 ⟨bb, rfl, hbb, hx2⟩
             have HBB := Lib.hid hbb
             clear hbb
             cases bb)
          | fail)
        all_goals (try (go_ret; exact ⟨false, rfl, (by intro h; cases h), ext_trans hx hx2⟩))
        go_roundw
        case rel =>
          have hfin : ∀ m r, m < jj + 1 → ks[m]? = some r → FitN r := fun m y hm hy => by
            by_cases hmj : m = jj
            · subst hmj
              rw [HR0.out] at hy
              cases hy
              exact HBB.out (by trivial)
            · exact HALL.out m y (by omega) hy
          first
            | exact ⟨ext_trans hx hx2, hb.ext hx2, jj + 1, by omega, by go_num, hfin⟩
            | (repeat apply Exists.intro
               refine And.intro ?_ rfl
               exact ⟨ext_trans hx hx2, hb.ext hx2, jj + 1, by omega, by go_num, hfin⟩)
        case measure => simp [intOf]; omega
      go_wp2_with fail
      go_ret
      refine ⟨true, rfl, fun _ => ?_, hx⟩
      simp only [FitN]
      refine ⟨fun _ => HFF.out, fun h => by omega, HP3.out, (fitNs_iff _).2 fun r hr => ?_⟩
      obtain ⟨m, hm⟩ := List.getElem?_of_mem hr
      exact HALL.out m r (by have h1 := (List.getElem?_eq_some_iff.1 hm).1; have h2 := HKS.out.1; omega) hm
set_option maxRecDepth 20000 in
set_option maxHeartbeats 8000000 in
theorem nfit_3 (n : Int) (hn1 : 1 ≤ n) (hn2 : n ≤ 1000) (ih : ∀ r, SmallN 1048576 r → FitC r (n - 1)) (x : ByteArray) (ps : List Int) (ks : List Nd) (hSm : SmallN 1048576 (.mk 3 x ps ks)) : FitC (.mk 3 x ps ks) n := by
  rintro S ⟨ek, ex, epa, epn, epc, eka, ekn, ekc⟩ w h
  obtain ⟨h1, h2, hP, hK⟩ := h.parts
  simp only at h1 h2 hP hK
  subst h1 h2
  simp only [SmallN] at hSm
  have hkn : ekn ≤ 1048576 := by have := hK.1; omega
  have hpn : epn ≤ 1048576 := by have := hP.1; omega
  have hxn : ex.size ≤ 1048576 := by omega
  have HPS := Lib.hid hP
  have HKS := Lib.hid hK
  have HSM := Lib.hid ((smallNs_iff _ _).1 hSm.2.2.2)
  have hFd := Lib.hid fun w' => fieldN_any ex (by omega) w'
  clear h hP hK hSm
  simp only [Nv.val]
  have hx0 : Ext w (w.alloc (.cells #[.int .i64 3, .string ex, .slice epa epn epc, .slice eka ekn ekc] 41)) := ext_alloc (ext_refl _) _
  have hbR : Box (w.alloc (.cells #[.int .i64 3, .string ex, .slice epa epn epc, .slice eka ekn ekc] 41)) w.heap.size #[.int .i64 3, .string ex, .slice epa epn epc, .slice eka ekn ekc] 41 := Box.at rfl _ _
  have HI := Lib.hid ih
  clear ih
  have hwr : IntKind.i64.wrap (n - 1) = n - 1 := IntWalk.i64_in _ (by omega)
  have hd0 : (n == 0) = false := by simp; omega
  go_enter Tryz.func14, Tryz.ntmps14
  go_wp2_with fail
  have hxw := hx0
  have hbw := hbR
  go_loopw [5] (fun i wr => Ext w wr ∧ Box wr w.heap.size #[.int .i64 3, .string ex, .slice epa epn epc, .slice eka ekn ekc] 41 ∧ ∃ j : Nat, j ≤ epn ∧ i = .int .i64 j ∧ ∀ m z, m < j → ps[m]? = some z → 0 ≤ z ∧ z ≤ 3) (fun i _ => epn - (intOf i).toNat)
  case atStart => exact ⟨hxw, hbw, 0, Nat.zero_le _, rfl, fun m z hm => by omega⟩
  case round =>
    obtain ⟨hx, hb, j, hj, rfl, hall⟩ := hrel
    have HALL := Lib.hid hall
    clear hall
    have c2 := hb.cell 2 _ rfl
    by_cases hlt : j < epn
    case pos =>
      obtain ⟨z, hz⟩ := some_of_lt HPS.out.1 hlt
      obtain ⟨zb, zo, rfl, -, hcz⟩ := HPS.out.2.2.2 j z hz
      have hcz := hx.cell hcz
      have HZZ := Lib.hid hz
      clear hz
      by_cases h0 : z < 0
      case pos =>
        go_wp2_with fail
        go_ret
        exact ⟨false, rfl, (by intro h; cases h), hx⟩
      by_cases h3 : 3 < z
      case pos =>
        go_wp2_with fail
        go_ret
        exact ⟨false, rfl, (by intro h; cases h), hx⟩
      go_wp2_with fail
      go_roundw
      case rel =>
        have hfin : ∀ m z, m < j + 1 → ps[m]? = some z → 0 ≤ z ∧ z ≤ 3 := fun m y hm hy => by
          by_cases hmj : m = j
          · subst hmj
            rw [HZZ.out] at hy
            cases hy
            omega
          · exact HALL.out m y (by omega) hy
        first
          | exact ⟨hx, hb, j + 1, by omega, by go_num, hfin⟩
          | (repeat apply Exists.intro
             refine And.intro ?_ rfl
             exact ⟨hx, hb, j + 1, by omega, by go_num, hfin⟩)
      case measure => simp [intOf]; omega
    have HP3 := Lib.hid (show ∀ p ∈ ps, 0 ≤ p ∧ p ≤ 3 from fun p hp => by
      obtain ⟨m, hm⟩ := List.getElem?_of_mem hp
      exact HALL.out m p (by have h1 := (List.getElem?_eq_some_iff.1 hm).1; have h2 := HPS.out.1; omega) hm)
    rename World => wp
    go_wp2_with fail
    have hxp := hx
    have hbp := hb
    clear HALL c2
    go_loopw [6] (fun i wr => Ext w wr ∧ Box wr w.heap.size #[.int .i64 3, .string ex, .slice epa epn epc, .slice eka ekn ekc] 41 ∧ ∃ jj : Nat, jj ≤ ekn ∧ i = .int .i64 jj ∧ ∀ m r, m < jj → ks[m]? = some r → FitN r) (fun i _ => ekn - (intOf i).toNat)
    case atStart => exact ⟨hxp, hbp, 0, Nat.zero_le _, rfl, fun m z hm => by omega⟩
    case round =>
      obtain ⟨hx, hb, jj, hjj, rfl, hall⟩ := hrel
      have HALL := Lib.hid hall
      clear hall
      have c3 := hb.cell 3 _ rfl
      by_cases hlk : jj < ekn
      case pos =>
        obtain ⟨r0, hr0⟩ := some_of_lt HKS.out.1 hlk
        obtain ⟨b, off, ⟨rk, rx, rpa, rpn, rpc, rka, rkn, rkc⟩, rfl, -, hrc, hra⟩ := HKS.out.get hr0
        obtain ⟨q0, q1, q2, q3⟩ := NCells.ext hx hrc
        have hQ := Lib.hid (fun (w1 : World) (x : Ext w w1) => HI.out r0 (HSM.out r0 (List.mem_of_getElem? hr0)) S _ w1 (NodeAt.ext x hra))
        have HR0 := Lib.hid hr0
        clear hrc hra hr0
        simp only [Nv.val] at hQ
        go_wp2_with (first
          | (go_at_call 14; refine (hQ.out _ hx).mono ?_; rintro r w2 ⟨bb, rfl, hbb, hx2⟩
             have HBB := Lib.hid hbb
             clear hbb
             cases bb)
          | fail)
        all_goals (try (go_ret; exact ⟨false, rfl, (by intro h; cases h), ext_trans hx hx2⟩))
        go_roundw
        case rel =>
          have hfin : ∀ m r, m < jj + 1 → ks[m]? = some r → FitN r := fun m y hm hy => by
            by_cases hmj : m = jj
            · subst hmj
              rw [HR0.out] at hy
              cases hy
              exact HBB.out (by trivial)
            · exact HALL.out m y (by omega) hy
          first
            | exact ⟨ext_trans hx hx2, hb.ext hx2, jj + 1, by omega, by go_num, hfin⟩
            | (repeat apply Exists.intro
               refine And.intro ?_ rfl
               exact ⟨ext_trans hx hx2, hb.ext hx2, jj + 1, by omega, by go_num, hfin⟩)
        case measure => simp [intOf]; omega
      go_wp2_with fail
      go_ret
      refine ⟨true, rfl, fun _ => ?_, hx⟩
      simp only [FitN]
      refine ⟨fun h => by omega, fun h => by omega, HP3.out, (fitNs_iff _).2 fun r hr => ?_⟩
      obtain ⟨m, hm⟩ := List.getElem?_of_mem hr
      exact HALL.out m r (by have h1 := (List.getElem?_eq_some_iff.1 hm).1; have h2 := HKS.out.1; omega) hm
set_option maxRecDepth 20000 in
set_option maxHeartbeats 8000000 in
theorem nfit_4 (n : Int) (hn1 : 1 ≤ n) (hn2 : n ≤ 1000) (ih : ∀ r, SmallN 1048576 r → FitC r (n - 1)) (x : ByteArray) (ps : List Int) (ks : List Nd) (hSm : SmallN 1048576 (.mk 4 x ps ks)) : FitC (.mk 4 x ps ks) n := by
  rintro S ⟨ek, ex, epa, epn, epc, eka, ekn, ekc⟩ w h
  obtain ⟨h1, h2, hP, hK⟩ := h.parts
  simp only at h1 h2 hP hK
  subst h1 h2
  simp only [SmallN] at hSm
  have hkn : ekn ≤ 1048576 := by have := hK.1; omega
  have hpn : epn ≤ 1048576 := by have := hP.1; omega
  have hxn : ex.size ≤ 1048576 := by omega
  have HPS := Lib.hid hP
  have HKS := Lib.hid hK
  have HSM := Lib.hid ((smallNs_iff _ _).1 hSm.2.2.2)
  have hFd := Lib.hid fun w' => fieldN_any ex (by omega) w'
  clear h hP hK hSm
  simp only [Nv.val]
  have hx0 : Ext w (w.alloc (.cells #[.int .i64 4, .string ex, .slice epa epn epc, .slice eka ekn ekc] 41)) := ext_alloc (ext_refl _) _
  have hbR : Box (w.alloc (.cells #[.int .i64 4, .string ex, .slice epa epn epc, .slice eka ekn ekc] 41)) w.heap.size #[.int .i64 4, .string ex, .slice epa epn epc, .slice eka ekn ekc] 41 := Box.at rfl _ _
  have HI := Lib.hid ih
  clear ih
  have hwr : IntKind.i64.wrap (n - 1) = n - 1 := IntWalk.i64_in _ (by omega)
  have hd0 : (n == 0) = false := by simp; omega
  go_enter Tryz.func14, Tryz.ntmps14
  go_wp2_with fail
  have hxw := hx0
  have hbw := hbR
  go_loopw [5] (fun i wr => Ext w wr ∧ Box wr w.heap.size #[.int .i64 4, .string ex, .slice epa epn epc, .slice eka ekn ekc] 41 ∧ ∃ j : Nat, j ≤ epn ∧ i = .int .i64 j ∧ ∀ m z, m < j → ps[m]? = some z → 0 ≤ z ∧ z ≤ 3) (fun i _ => epn - (intOf i).toNat)
  case atStart => exact ⟨hxw, hbw, 0, Nat.zero_le _, rfl, fun m z hm => by omega⟩
  case round =>
    obtain ⟨hx, hb, j, hj, rfl, hall⟩ := hrel
    have HALL := Lib.hid hall
    clear hall
    have c2 := hb.cell 2 _ rfl
    by_cases hlt : j < epn
    case pos =>
      obtain ⟨z, hz⟩ := some_of_lt HPS.out.1 hlt
      obtain ⟨zb, zo, rfl, -, hcz⟩ := HPS.out.2.2.2 j z hz
      have hcz := hx.cell hcz
      have HZZ := Lib.hid hz
      clear hz
      by_cases h0 : z < 0
      case pos =>
        go_wp2_with fail
        go_ret
        exact ⟨false, rfl, (by intro h; cases h), hx⟩
      by_cases h3 : 3 < z
      case pos =>
        go_wp2_with fail
        go_ret
        exact ⟨false, rfl, (by intro h; cases h), hx⟩
      go_wp2_with fail
      go_roundw
      case rel =>
        have hfin : ∀ m z, m < j + 1 → ps[m]? = some z → 0 ≤ z ∧ z ≤ 3 := fun m y hm hy => by
          by_cases hmj : m = j
          · subst hmj
            rw [HZZ.out] at hy
            cases hy
            omega
          · exact HALL.out m y (by omega) hy
        first
          | exact ⟨hx, hb, j + 1, by omega, by go_num, hfin⟩
          | (repeat apply Exists.intro
             refine And.intro ?_ rfl
             exact ⟨hx, hb, j + 1, by omega, by go_num, hfin⟩)
      case measure => simp [intOf]; omega
    have HP3 := Lib.hid (show ∀ p ∈ ps, 0 ≤ p ∧ p ≤ 3 from fun p hp => by
      obtain ⟨m, hm⟩ := List.getElem?_of_mem hp
      exact HALL.out m p (by have h1 := (List.getElem?_eq_some_iff.1 hm).1; have h2 := HPS.out.1; omega) hm)
    rename World => wp
    go_wp2_with fail
    have hxp := hx
    have hbp := hb
    clear HALL c2
    go_loopw [6] (fun i wr => Ext w wr ∧ Box wr w.heap.size #[.int .i64 4, .string ex, .slice epa epn epc, .slice eka ekn ekc] 41 ∧ ∃ jj : Nat, jj ≤ ekn ∧ i = .int .i64 jj ∧ ∀ m r, m < jj → ks[m]? = some r → FitN r) (fun i _ => ekn - (intOf i).toNat)
    case atStart => exact ⟨hxp, hbp, 0, Nat.zero_le _, rfl, fun m z hm => by omega⟩
    case round =>
      obtain ⟨hx, hb, jj, hjj, rfl, hall⟩ := hrel
      have HALL := Lib.hid hall
      clear hall
      have c3 := hb.cell 3 _ rfl
      by_cases hlk : jj < ekn
      case pos =>
        obtain ⟨r0, hr0⟩ := some_of_lt HKS.out.1 hlk
        obtain ⟨b, off, ⟨rk, rx, rpa, rpn, rpc, rka, rkn, rkc⟩, rfl, -, hrc, hra⟩ := HKS.out.get hr0
        obtain ⟨q0, q1, q2, q3⟩ := NCells.ext hx hrc
        have hQ := Lib.hid (fun (w1 : World) (x : Ext w w1) => HI.out r0 (HSM.out r0 (List.mem_of_getElem? hr0)) S _ w1 (NodeAt.ext x hra))
        have HR0 := Lib.hid hr0
        clear hrc hra hr0
        simp only [Nv.val] at hQ
        go_wp2_with (first
          | (go_at_call 14; refine (hQ.out _ hx).mono ?_; rintro r w2 ⟨bb, rfl, hbb, hx2⟩
             have HBB := Lib.hid hbb
             clear hbb
             cases bb)
          | fail)
        all_goals (try (go_ret; exact ⟨false, rfl, (by intro h; cases h), ext_trans hx hx2⟩))
        go_roundw
        case rel =>
          have hfin : ∀ m r, m < jj + 1 → ks[m]? = some r → FitN r := fun m y hm hy => by
            by_cases hmj : m = jj
            · subst hmj
              rw [HR0.out] at hy
              cases hy
              exact HBB.out (by trivial)
            · exact HALL.out m y (by omega) hy
          first
            | exact ⟨ext_trans hx hx2, hb.ext hx2, jj + 1, by omega, by go_num, hfin⟩
            | (repeat apply Exists.intro
               refine And.intro ?_ rfl
               exact ⟨ext_trans hx hx2, hb.ext hx2, jj + 1, by omega, by go_num, hfin⟩)
        case measure => simp [intOf]; omega
      go_wp2_with fail
      go_ret
      refine ⟨true, rfl, fun _ => ?_, hx⟩
      simp only [FitN]
      refine ⟨fun h => by omega, fun h => by omega, HP3.out, (fitNs_iff _).2 fun r hr => ?_⟩
      obtain ⟨m, hm⟩ := List.getElem?_of_mem hr
      exact HALL.out m r (by have h1 := (List.getElem?_eq_some_iff.1 hm).1; have h2 := HKS.out.1; omega) hm
set_option maxRecDepth 20000 in
set_option maxHeartbeats 8000000 in
theorem nfit_5 (n : Int) (hn1 : 1 ≤ n) (hn2 : n ≤ 1000) (ih : ∀ r, SmallN 1048576 r → FitC r (n - 1)) (x : ByteArray) (ps : List Int) (ks : List Nd) (hSm : SmallN 1048576 (.mk 5 x ps ks)) : FitC (.mk 5 x ps ks) n := by
  rintro S ⟨ek, ex, epa, epn, epc, eka, ekn, ekc⟩ w h
  obtain ⟨h1, h2, hP, hK⟩ := h.parts
  simp only at h1 h2 hP hK
  subst h1 h2
  simp only [SmallN] at hSm
  have hkn : ekn ≤ 1048576 := by have := hK.1; omega
  have hpn : epn ≤ 1048576 := by have := hP.1; omega
  have hxn : ex.size ≤ 1048576 := by omega
  have HPS := Lib.hid hP
  have HKS := Lib.hid hK
  have HSM := Lib.hid ((smallNs_iff _ _).1 hSm.2.2.2)
  have hFd := Lib.hid fun w' => fieldN_any ex (by omega) w'
  clear h hP hK hSm
  simp only [Nv.val]
  have hx0 : Ext w (w.alloc (.cells #[.int .i64 5, .string ex, .slice epa epn epc, .slice eka ekn ekc] 41)) := ext_alloc (ext_refl _) _
  have hbR : Box (w.alloc (.cells #[.int .i64 5, .string ex, .slice epa epn epc, .slice eka ekn ekc] 41)) w.heap.size #[.int .i64 5, .string ex, .slice epa epn epc, .slice eka ekn ekc] 41 := Box.at rfl _ _
  have HI := Lib.hid ih
  clear ih
  have hwr : IntKind.i64.wrap (n - 1) = n - 1 := IntWalk.i64_in _ (by omega)
  have hd0 : (n == 0) = false := by simp; omega
  go_enter Tryz.func14, Tryz.ntmps14
  by_cases hz : 0 < ekn
  case neg =>
    have hz0 : ((ekn : Int) == 0) = true := by simp; omega
    go_wp2_with fail
    go_ret
    exact ⟨false, rfl, (by intro h; cases h), hx0⟩
  have hz0 : ((ekn : Int) == 0) = false := by simp; omega
  have HZ := Lib.hid hz
  clear hz
  go_wp2_with fail
  have hxw := hx0
  have hbw := hbR
  go_loopw [5] (fun i wr => Ext w wr ∧ Box wr w.heap.size #[.int .i64 5, .string ex, .slice epa epn epc, .slice eka ekn ekc] 41 ∧ ∃ j : Nat, j ≤ epn ∧ i = .int .i64 j ∧ ∀ m z, m < j → ps[m]? = some z → 0 ≤ z ∧ z ≤ 3) (fun i _ => epn - (intOf i).toNat)
  case atStart => exact ⟨hxw, hbw, 0, Nat.zero_le _, rfl, fun m z hm => by omega⟩
  case round =>
    obtain ⟨hx, hb, j, hj, rfl, hall⟩ := hrel
    have HALL := Lib.hid hall
    clear hall
    have c2 := hb.cell 2 _ rfl
    by_cases hlt : j < epn
    case pos =>
      obtain ⟨z, hz⟩ := some_of_lt HPS.out.1 hlt
      obtain ⟨zb, zo, rfl, -, hcz⟩ := HPS.out.2.2.2 j z hz
      have hcz := hx.cell hcz
      have HZZ := Lib.hid hz
      clear hz
      by_cases h0 : z < 0
      case pos =>
        go_wp2_with fail
        go_ret
        exact ⟨false, rfl, (by intro h; cases h), hx⟩
      by_cases h3 : 3 < z
      case pos =>
        go_wp2_with fail
        go_ret
        exact ⟨false, rfl, (by intro h; cases h), hx⟩
      go_wp2_with fail
      go_roundw
      case rel =>
        have hfin : ∀ m z, m < j + 1 → ps[m]? = some z → 0 ≤ z ∧ z ≤ 3 := fun m y hm hy => by
          by_cases hmj : m = j
          · subst hmj
            rw [HZZ.out] at hy
            cases hy
            omega
          · exact HALL.out m y (by omega) hy
        first
          | exact ⟨hx, hb, j + 1, by omega, by go_num, hfin⟩
          | (repeat apply Exists.intro
             refine And.intro ?_ rfl
             exact ⟨hx, hb, j + 1, by omega, by go_num, hfin⟩)
      case measure => simp [intOf]; omega
    have HP3 := Lib.hid (show ∀ p ∈ ps, 0 ≤ p ∧ p ≤ 3 from fun p hp => by
      obtain ⟨m, hm⟩ := List.getElem?_of_mem hp
      exact HALL.out m p (by have h1 := (List.getElem?_eq_some_iff.1 hm).1; have h2 := HPS.out.1; omega) hm)
    rename World => wp
    go_wp2_with fail
    have hxp := hx
    have hbp := hb
    clear HALL c2
    go_loopw [6] (fun i wr => Ext w wr ∧ Box wr w.heap.size #[.int .i64 5, .string ex, .slice epa epn epc, .slice eka ekn ekc] 41 ∧ ∃ jj : Nat, jj ≤ ekn ∧ i = .int .i64 jj ∧ ∀ m r, m < jj → ks[m]? = some r → FitN r) (fun i _ => ekn - (intOf i).toNat)
    case atStart => exact ⟨hxp, hbp, 0, Nat.zero_le _, rfl, fun m z hm => by omega⟩
    case round =>
      obtain ⟨hx, hb, jj, hjj, rfl, hall⟩ := hrel
      have HALL := Lib.hid hall
      clear hall
      have c3 := hb.cell 3 _ rfl
      by_cases hlk : jj < ekn
      case pos =>
        obtain ⟨r0, hr0⟩ := some_of_lt HKS.out.1 hlk
        obtain ⟨b, off, ⟨rk, rx, rpa, rpn, rpc, rka, rkn, rkc⟩, rfl, -, hrc, hra⟩ := HKS.out.get hr0
        obtain ⟨q0, q1, q2, q3⟩ := NCells.ext hx hrc
        have hQ := Lib.hid (fun (w1 : World) (x : Ext w w1) => HI.out r0 (HSM.out r0 (List.mem_of_getElem? hr0)) S _ w1 (NodeAt.ext x hra))
        have HR0 := Lib.hid hr0
        clear hrc hra hr0
        simp only [Nv.val] at hQ
        go_wp2_with (first
          | (go_at_call 14; refine (hQ.out _ hx).mono ?_; rintro r w2 ⟨bb, rfl, hbb, hx2⟩
             have HBB := Lib.hid hbb
             clear hbb
             cases bb)
          | fail)
        all_goals (try (go_ret; exact ⟨false, rfl, (by intro h; cases h), ext_trans hx hx2⟩))
        go_roundw
        case rel =>
          have hfin : ∀ m r, m < jj + 1 → ks[m]? = some r → FitN r := fun m y hm hy => by
            by_cases hmj : m = jj
            · subst hmj
              rw [HR0.out] at hy
              cases hy
              exact HBB.out (by trivial)
            · exact HALL.out m y (by omega) hy
          first
            | exact ⟨ext_trans hx hx2, hb.ext hx2, jj + 1, by omega, by go_num, hfin⟩
            | (repeat apply Exists.intro
               refine And.intro ?_ rfl
               exact ⟨ext_trans hx hx2, hb.ext hx2, jj + 1, by omega, by go_num, hfin⟩)
        case measure => simp [intOf]; omega
      go_wp2_with fail
      go_ret
      refine ⟨true, rfl, fun _ => ?_, hx⟩
      simp only [FitN]
      refine ⟨fun h => by omega, fun _ => by have h1 := HZ.out; have h2 := HKS.out.1; omega, HP3.out, (fitNs_iff _).2 fun r hr => ?_⟩
      obtain ⟨m, hm⟩ := List.getElem?_of_mem hr
      exact HALL.out m r (by have h1 := (List.getElem?_eq_some_iff.1 hm).1; have h2 := HKS.out.1; omega) hm
set_option maxRecDepth 20000 in
set_option maxHeartbeats 8000000 in
theorem nfit_6 (n : Int) (hn1 : 1 ≤ n) (hn2 : n ≤ 1000) (ih : ∀ r, SmallN 1048576 r → FitC r (n - 1)) (x : ByteArray) (ps : List Int) (ks : List Nd) (hSm : SmallN 1048576 (.mk 6 x ps ks)) : FitC (.mk 6 x ps ks) n := by
  rintro S ⟨ek, ex, epa, epn, epc, eka, ekn, ekc⟩ w h
  obtain ⟨h1, h2, hP, hK⟩ := h.parts
  simp only at h1 h2 hP hK
  subst h1 h2
  simp only [SmallN] at hSm
  have hkn : ekn ≤ 1048576 := by have := hK.1; omega
  have hpn : epn ≤ 1048576 := by have := hP.1; omega
  have hxn : ex.size ≤ 1048576 := by omega
  have HPS := Lib.hid hP
  have HKS := Lib.hid hK
  have HSM := Lib.hid ((smallNs_iff _ _).1 hSm.2.2.2)
  have hFd := Lib.hid fun w' => fieldN_any ex (by omega) w'
  clear h hP hK hSm
  simp only [Nv.val]
  have hx0 : Ext w (w.alloc (.cells #[.int .i64 6, .string ex, .slice epa epn epc, .slice eka ekn ekc] 41)) := ext_alloc (ext_refl _) _
  have hbR : Box (w.alloc (.cells #[.int .i64 6, .string ex, .slice epa epn epc, .slice eka ekn ekc] 41)) w.heap.size #[.int .i64 6, .string ex, .slice epa epn epc, .slice eka ekn ekc] 41 := Box.at rfl _ _
  have HI := Lib.hid ih
  clear ih
  have hwr : IntKind.i64.wrap (n - 1) = n - 1 := IntWalk.i64_in _ (by omega)
  have hd0 : (n == 0) = false := by simp; omega
  go_enter Tryz.func14, Tryz.ntmps14
  go_wp2_with fail
  have hxw := hx0
  have hbw := hbR
  go_loopw [5] (fun i wr => Ext w wr ∧ Box wr w.heap.size #[.int .i64 6, .string ex, .slice epa epn epc, .slice eka ekn ekc] 41 ∧ ∃ j : Nat, j ≤ epn ∧ i = .int .i64 j ∧ ∀ m z, m < j → ps[m]? = some z → 0 ≤ z ∧ z ≤ 3) (fun i _ => epn - (intOf i).toNat)
  case atStart => exact ⟨hxw, hbw, 0, Nat.zero_le _, rfl, fun m z hm => by omega⟩
  case round =>
    obtain ⟨hx, hb, j, hj, rfl, hall⟩ := hrel
    have HALL := Lib.hid hall
    clear hall
    have c2 := hb.cell 2 _ rfl
    by_cases hlt : j < epn
    case pos =>
      obtain ⟨z, hz⟩ := some_of_lt HPS.out.1 hlt
      obtain ⟨zb, zo, rfl, -, hcz⟩ := HPS.out.2.2.2 j z hz
      have hcz := hx.cell hcz
      have HZZ := Lib.hid hz
      clear hz
      by_cases h0 : z < 0
      case pos =>
        go_wp2_with fail
        go_ret
        exact ⟨false, rfl, (by intro h; cases h), hx⟩
      by_cases h3 : 3 < z
      case pos =>
        go_wp2_with fail
        go_ret
        exact ⟨false, rfl, (by intro h; cases h), hx⟩
      go_wp2_with fail
      go_roundw
      case rel =>
        have hfin : ∀ m z, m < j + 1 → ps[m]? = some z → 0 ≤ z ∧ z ≤ 3 := fun m y hm hy => by
          by_cases hmj : m = j
          · subst hmj
            rw [HZZ.out] at hy
            cases hy
            omega
          · exact HALL.out m y (by omega) hy
        first
          | exact ⟨hx, hb, j + 1, by omega, by go_num, hfin⟩
          | (repeat apply Exists.intro
             refine And.intro ?_ rfl
             exact ⟨hx, hb, j + 1, by omega, by go_num, hfin⟩)
      case measure => simp [intOf]; omega
    have HP3 := Lib.hid (show ∀ p ∈ ps, 0 ≤ p ∧ p ≤ 3 from fun p hp => by
      obtain ⟨m, hm⟩ := List.getElem?_of_mem hp
      exact HALL.out m p (by have h1 := (List.getElem?_eq_some_iff.1 hm).1; have h2 := HPS.out.1; omega) hm)
    rename World => wp
    go_wp2_with fail
    have hxp := hx
    have hbp := hb
    clear HALL c2
    go_loopw [6] (fun i wr => Ext w wr ∧ Box wr w.heap.size #[.int .i64 6, .string ex, .slice epa epn epc, .slice eka ekn ekc] 41 ∧ ∃ jj : Nat, jj ≤ ekn ∧ i = .int .i64 jj ∧ ∀ m r, m < jj → ks[m]? = some r → FitN r) (fun i _ => ekn - (intOf i).toNat)
    case atStart => exact ⟨hxp, hbp, 0, Nat.zero_le _, rfl, fun m z hm => by omega⟩
    case round =>
      obtain ⟨hx, hb, jj, hjj, rfl, hall⟩ := hrel
      have HALL := Lib.hid hall
      clear hall
      have c3 := hb.cell 3 _ rfl
      by_cases hlk : jj < ekn
      case pos =>
        obtain ⟨r0, hr0⟩ := some_of_lt HKS.out.1 hlk
        obtain ⟨b, off, ⟨rk, rx, rpa, rpn, rpc, rka, rkn, rkc⟩, rfl, -, hrc, hra⟩ := HKS.out.get hr0
        obtain ⟨q0, q1, q2, q3⟩ := NCells.ext hx hrc
        have hQ := Lib.hid (fun (w1 : World) (x : Ext w w1) => HI.out r0 (HSM.out r0 (List.mem_of_getElem? hr0)) S _ w1 (NodeAt.ext x hra))
        have HR0 := Lib.hid hr0
        clear hrc hra hr0
        simp only [Nv.val] at hQ
        go_wp2_with (first
          | (go_at_call 14; refine (hQ.out _ hx).mono ?_; rintro r w2 ⟨bb, rfl, hbb, hx2⟩
             have HBB := Lib.hid hbb
             clear hbb
             cases bb)
          | fail)
        all_goals (try (go_ret; exact ⟨false, rfl, (by intro h; cases h), ext_trans hx hx2⟩))
        go_roundw
        case rel =>
          have hfin : ∀ m r, m < jj + 1 → ks[m]? = some r → FitN r := fun m y hm hy => by
            by_cases hmj : m = jj
            · subst hmj
              rw [HR0.out] at hy
              cases hy
              exact HBB.out (by trivial)
            · exact HALL.out m y (by omega) hy
          first
            | exact ⟨ext_trans hx hx2, hb.ext hx2, jj + 1, by omega, by go_num, hfin⟩
            | (repeat apply Exists.intro
               refine And.intro ?_ rfl
               exact ⟨ext_trans hx hx2, hb.ext hx2, jj + 1, by omega, by go_num, hfin⟩)
        case measure => simp [intOf]; omega
      go_wp2_with fail
      go_ret
      refine ⟨true, rfl, fun _ => ?_, hx⟩
      simp only [FitN]
      refine ⟨fun h => by omega, fun h => by omega, HP3.out, (fitNs_iff _).2 fun r hr => ?_⟩
      obtain ⟨m, hm⟩ := List.getElem?_of_mem hr
      exact HALL.out m r (by have h1 := (List.getElem?_eq_some_iff.1 hm).1; have h2 := HKS.out.1; omega) hm
set_option maxRecDepth 20000 in
set_option maxHeartbeats 8000000 in
theorem nfit_7 (n : Int) (hn1 : 1 ≤ n) (hn2 : n ≤ 1000) (ih : ∀ r, SmallN 1048576 r → FitC r (n - 1)) (x : ByteArray) (ps : List Int) (ks : List Nd) (hSm : SmallN 1048576 (.mk 7 x ps ks)) : FitC (.mk 7 x ps ks) n := by
  rintro S ⟨ek, ex, epa, epn, epc, eka, ekn, ekc⟩ w h
  obtain ⟨h1, h2, hP, hK⟩ := h.parts
  simp only at h1 h2 hP hK
  subst h1 h2
  simp only [SmallN] at hSm
  have hkn : ekn ≤ 1048576 := by have := hK.1; omega
  have hpn : epn ≤ 1048576 := by have := hP.1; omega
  have hxn : ex.size ≤ 1048576 := by omega
  have HPS := Lib.hid hP
  have HKS := Lib.hid hK
  have HSM := Lib.hid ((smallNs_iff _ _).1 hSm.2.2.2)
  have hFd := Lib.hid fun w' => fieldN_any ex (by omega) w'
  clear h hP hK hSm
  simp only [Nv.val]
  have hx0 : Ext w (w.alloc (.cells #[.int .i64 7, .string ex, .slice epa epn epc, .slice eka ekn ekc] 41)) := ext_alloc (ext_refl _) _
  have hbR : Box (w.alloc (.cells #[.int .i64 7, .string ex, .slice epa epn epc, .slice eka ekn ekc] 41)) w.heap.size #[.int .i64 7, .string ex, .slice epa epn epc, .slice eka ekn ekc] 41 := Box.at rfl _ _
  have HI := Lib.hid ih
  clear ih
  have hwr : IntKind.i64.wrap (n - 1) = n - 1 := IntWalk.i64_in _ (by omega)
  have hd0 : (n == 0) = false := by simp; omega
  go_enter Tryz.func14, Tryz.ntmps14
  go_wp2_with (first
    | (go_at_call 8; refine (hFd.out _).mono ?_; rintro r wf ⟨bf, rfl, hf, hxf⟩
       have HF := Lib.hid hf
       clear hf
       have hbf := hbR.ext hxf
       have c0 := hbf.cell 0 _ rfl
       have c1 := hbf.cell 1 _ rfl
       have c2 := hbf.cell 2 _ rfl
       have c3 := hbf.cell 3 _ rfl
       cases bf)
    | fail)
  all_goals (try (go_ret; exact ⟨false, rfl, (by intro h; cases h), ext_trans hx0 hxf⟩))
  have HFF := Lib.hid (HF.out (by trivial))
  have hxw := ext_trans hx0 hxf
  have hbw := hbf
  clear HF c0 c1 c2 c3
  go_loopw [5] (fun i wr => Ext w wr ∧ Box wr w.heap.size #[.int .i64 7, .string ex, .slice epa epn epc, .slice eka ekn ekc] 41 ∧ ∃ j : Nat, j ≤ epn ∧ i = .int .i64 j ∧ ∀ m z, m < j → ps[m]? = some z → 0 ≤ z ∧ z ≤ 3) (fun i _ => epn - (intOf i).toNat)
  case atStart => exact ⟨hxw, hbw, 0, Nat.zero_le _, rfl, fun m z hm => by omega⟩
  case round =>
    obtain ⟨hx, hb, j, hj, rfl, hall⟩ := hrel
    have HALL := Lib.hid hall
    clear hall
    have c2 := hb.cell 2 _ rfl
    by_cases hlt : j < epn
    case pos =>
      obtain ⟨z, hz⟩ := some_of_lt HPS.out.1 hlt
      obtain ⟨zb, zo, rfl, -, hcz⟩ := HPS.out.2.2.2 j z hz
      have hcz := hx.cell hcz
      have HZZ := Lib.hid hz
      clear hz
      by_cases h0 : z < 0
      case pos =>
        go_wp2_with fail
        go_ret
        exact ⟨false, rfl, (by intro h; cases h), hx⟩
      by_cases h3 : 3 < z
      case pos =>
        go_wp2_with fail
        go_ret
        exact ⟨false, rfl, (by intro h; cases h), hx⟩
      go_wp2_with fail
      go_roundw
      case rel =>
        have hfin : ∀ m z, m < j + 1 → ps[m]? = some z → 0 ≤ z ∧ z ≤ 3 := fun m y hm hy => by
          by_cases hmj : m = j
          · subst hmj
            rw [HZZ.out] at hy
            cases hy
            omega
          · exact HALL.out m y (by omega) hy
        first
          | exact ⟨hx, hb, j + 1, by omega, by go_num, hfin⟩
          | (repeat apply Exists.intro
             refine And.intro ?_ rfl
             exact ⟨hx, hb, j + 1, by omega, by go_num, hfin⟩)
      case measure => simp [intOf]; omega
    have HP3 := Lib.hid (show ∀ p ∈ ps, 0 ≤ p ∧ p ≤ 3 from fun p hp => by
      obtain ⟨m, hm⟩ := List.getElem?_of_mem hp
      exact HALL.out m p (by have h1 := (List.getElem?_eq_some_iff.1 hm).1; have h2 := HPS.out.1; omega) hm)
    rename World => wp
    go_wp2_with fail
    have hxp := hx
    have hbp := hb
    clear HALL c2
    go_loopw [6] (fun i wr => Ext w wr ∧ Box wr w.heap.size #[.int .i64 7, .string ex, .slice epa epn epc, .slice eka ekn ekc] 41 ∧ ∃ jj : Nat, jj ≤ ekn ∧ i = .int .i64 jj ∧ ∀ m r, m < jj → ks[m]? = some r → FitN r) (fun i _ => ekn - (intOf i).toNat)
    case atStart => exact ⟨hxp, hbp, 0, Nat.zero_le _, rfl, fun m z hm => by omega⟩
    case round =>
      obtain ⟨hx, hb, jj, hjj, rfl, hall⟩ := hrel
      have HALL := Lib.hid hall
      clear hall
      have c3 := hb.cell 3 _ rfl
      by_cases hlk : jj < ekn
      case pos =>
        obtain ⟨r0, hr0⟩ := some_of_lt HKS.out.1 hlk
        obtain ⟨b, off, ⟨rk, rx, rpa, rpn, rpc, rka, rkn, rkc⟩, rfl, -, hrc, hra⟩ := HKS.out.get hr0
        obtain ⟨q0, q1, q2, q3⟩ := NCells.ext hx hrc
        have hQ := Lib.hid (fun (w1 : World) (x : Ext w w1) => HI.out r0 (HSM.out r0 (List.mem_of_getElem? hr0)) S _ w1 (NodeAt.ext x hra))
        have HR0 := Lib.hid hr0
        clear hrc hra hr0
        simp only [Nv.val] at hQ
        go_wp2_with (first
          | (go_at_call 14; refine (hQ.out _ hx).mono ?_; rintro r w2 ⟨bb, rfl, hbb, hx2⟩
             have HBB := Lib.hid hbb
             clear hbb
             cases bb)
          | fail)
        all_goals (try (go_ret; exact ⟨false, rfl, (by intro h; cases h), ext_trans hx hx2⟩))
        go_roundw
        case rel =>
          have hfin : ∀ m r, m < jj + 1 → ks[m]? = some r → FitN r := fun m y hm hy => by
            by_cases hmj : m = jj
            · subst hmj
              rw [HR0.out] at hy
              cases hy
              exact HBB.out (by trivial)
            · exact HALL.out m y (by omega) hy
          first
            | exact ⟨ext_trans hx hx2, hb.ext hx2, jj + 1, by omega, by go_num, hfin⟩
            | (repeat apply Exists.intro
               refine And.intro ?_ rfl
               exact ⟨ext_trans hx hx2, hb.ext hx2, jj + 1, by omega, by go_num, hfin⟩)
        case measure => simp [intOf]; omega
      go_wp2_with fail
      go_ret
      refine ⟨true, rfl, fun _ => ?_, hx⟩
      simp only [FitN]
      refine ⟨fun _ => HFF.out, fun h => by omega, HP3.out, (fitNs_iff _).2 fun r hr => ?_⟩
      obtain ⟨m, hm⟩ := List.getElem?_of_mem hr
      exact HALL.out m r (by have h1 := (List.getElem?_eq_some_iff.1 hm).1; have h2 := HKS.out.1; omega) hm
theorem nfit_step (n : Int) (hn1 : 1 ≤ n) (hn2 : n ≤ 1000) (ih : ∀ r, SmallN 1048576 r → FitC r (n - 1)) : ∀ r, SmallN 1048576 r → FitC r n
  | .mk k x ps ks, hs => by
    by_cases h0 : k < 0
    · exact nfit_low n hn1 hn2 k h0 x ps ks hs
    by_cases h7 : 7 < k
    · exact nfit_high n hn1 hn2 k h7 x ps ks hs
    have hk : k = 0 ∨ k = 1 ∨ k = 2 ∨ k = 3 ∨ k = 4 ∨ k = 5 ∨ k = 6 ∨ k = 7 := by omega
    rcases hk with rfl | rfl | rfl | rfl | rfl | rfl | rfl | rfl
    · exact nfit_0 n hn1 hn2 ih x ps ks hs
    · exact nfit_1 n hn1 hn2 ih x ps ks hs
    · exact nfit_2 n hn1 hn2 ih x ps ks hs
    · exact nfit_3 n hn1 hn2 ih x ps ks hs
    · exact nfit_4 n hn1 hn2 ih x ps ks hs
    · exact nfit_5 n hn1 hn2 ih x ps ks hs
    · exact nfit_6 n hn1 hn2 ih x ps ks hs
    · exact nfit_7 n hn1 hn2 ih x ps ks hs
theorem nfit_at : ∀ (d : Nat) (_ : d ≤ 1000) (r : Nd), SmallN 1048576 r → FitC r d
  | 0, _ => fun | .mk k x ps ks => nfit_zero k x ps ks
  | d + 1, h => nfit_step ((d + 1 : Nat) : Int) (by omega) (by omega) (fun r => by
      have h2 : ((d + 1 : Nat) : Int) - 1 = (d : Int) := by omega
      rw [h2]
      exact nfit_at d (by omega) r)
end Go.Proofs.YtfngaoicoecncaaGreatDoor

namespace Go.Proofs.YtfngaoicoecncaaGreatDoor
open Go.RowKit

theorem Six.set {w : World} {b c i : Nat} {e : El} (h : Six w b e) (hne : b ≠ c) (v : Value) : Six (w.setCell ⟨c, i, none⟩ v) b e := by
  have k : Keeps (fun q => q = b) w (w.setCell ⟨c, i, none⟩ v) := fun q hq _ => Below.heap_setCell _ _ _ _ (by simp; omega)
  exact ⟨k.cell rfl h.1, k.cell rfl h.2.1, k.cell rfl h.2.2.1, k.cell rfl h.2.2.2.1, k.cell rfl h.2.2.2.2.1, k.cell rfl h.2.2.2.2.2⟩
theorem newBoosting_any (w : World) : Calls Tryz.prog 84 #[] w fun r w' => r = .returned (.pointer (some ⟨w.heap.size, 0, none⟩)) ∧ w' = w.alloc (.cells #[.nilIface, .nilIface, .nilIface, .pointer none, .pointer none] 167) := by
  go_enter Tryz.func84, Tryz.ntmps84
  go_wp2_with fail
  go_ret
  exact ⟨rfl, rfl⟩
theorem positive_any (w : World) (b : Nat) (z1 z2 : Value) (hb : Box w b #[.nilIface, z1, z2, .pointer none, .pointer none] 167) (ty : TypeId) (x : Value) : Calls Tryz.prog 85 #[.pointer (some ⟨b, 0, none⟩), .iface ty x] w fun r w' => r = .returned (.pointer (some ⟨b, 0, none⟩)) ∧ w' = w.setCell ⟨b, 1, none⟩ (.iface ty x) := by
  have c1 := hb.cell 1 _ rfl
  have f1 := hb.free 1
  have hl := hb.lt
  go_enter Tryz.func85, Tryz.ntmps85
  go_wp2_with fail
  go_ret
  exact ⟨rfl, rfl⟩
theorem negative_any (w : World) (b : Nat) (z1 z2 : Value) (hb : Box w b #[.nilIface, z1, z2, .pointer none, .pointer none] 167) (ty : TypeId) (x : Value) : Calls Tryz.prog 86 #[.pointer (some ⟨b, 0, none⟩), .iface ty x] w fun r w' => r = .returned (.pointer (some ⟨b, 0, none⟩)) ∧ w' = w.setCell ⟨b, 2, none⟩ (.iface ty x) := by
  have c2 := hb.cell 2 _ rfl
  have f2 := hb.free 2
  have hl := hb.lt
  go_enter Tryz.func86, Tryz.ntmps86
  go_wp2_with fail
  go_ret
  exact ⟨rfl, rfl⟩
end Go.Proofs.YtfngaoicoecncaaGreatDoor

namespace Go.Proofs.YtfngaoicoecncaaGreatDoor
open Go.RowKit

theorem query_und : Tryz.prog.underlying 82 = some (.interface (Tryz.prog.methodsAt 82)) := by kernel_rfl
theorem query_held (ty : TypeId) (x : Value) (w : World) : (binOp .neq 82 (.iface ty x) .nilIface).run Tryz.prog w = .ok (.bool true) w := run_neq_held_nil w 82 ty x query_und
theorem query_guard (ty : TypeId) (y : Value) : ∀ x w', (eqGuard .neq 82 x (.const .nilIface) (.iface ty y) .nilIface).run Tryz.prog w' = .ok () w' := fun x w' => by simp [eqGuard]
set_option maxRecDepth 20000 in
set_option maxHeartbeats 4000000 in
theorem all_src {_S : Nat → Prop} (w : World) (bq : Nat) (hbq : Box w bq #[.pointer none, .string ⟨#[]⟩] 172) :
    Calls Tryz.prog 191 #[.pointer (some ⟨bq, 0, none⟩)] w fun r w' => ∃ ty' x', r = .returned (.tuple #[.iface ty' x', .nilIface]) ∧ JAt (fun b => w.heap.size ≤ b) w' (.iface ty' x') (jAll) ∧ Ext w w' := by
  have hempt : (⟨#[]⟩ : ByteArray).toList.isEmpty = true := by rw [Lib.toList_data]; rfl
  have hblt := hbq.lt
  have hc0 := hbq.cell 0 _ rfl
  have hc1 := hbq.cell 1 _ rfl
  have tok0 := trivial
  go_enter Tryz.func191, Tryz.ntmps191
  go_wp2_with (first
    | (at_mapUpdate; have _t := tok0; clear _t tok0; refine wp_put _ rfl _ _ _ 109 rfl 20 Tryz.underlying109 w.heap.size [] rfl ((MapAt.at rfl).alloc _) (by simp [maxLen]) s_match_all rfl (by decide) (.iface 109 (.map (some (w.heap.size + 1)))) rfl ?_; intro w1 hm hg
       have hx1 : Ext w w1 := ext_put (ext_alloc (ext_alloc (ext_refl _) _) _) hg (Nat.le_refl _)
       have hm0_1 : MapAt w1 w.heap.size [(s_match_all, .iface 109 (.map (some (w.heap.size + 1))))] := hm
       have hm1_1 : MapAt w1 (w.heap.size + 1) [] := (MapAt.at (by simp)).grown hg (someNe (by omega))
       have hs1 := hm1_1.lt
       have hb1 := hbq.ext hx1
       have hc0 := hb1.cell 0 _ rfl
       have hc1 := hb1.cell 1 _ rfl
       clear hg hm)
    | fail)
  go_ret2
  refine ⟨_, _, rfl, ?_, hx1⟩
  exact jMap_one hm0_1 (Nat.le_refl _) ((PJ.nil _ _).map hm1_1 (by omega) (by simp))
set_option maxRecDepth 20000 in
set_option maxHeartbeats 4000000 in
theorem exists0_src {_S : Nat → Prop} (w : World) (bq : Nat) (f : ByteArray) (hbq : Box w bq #[.string f, .string ⟨#[]⟩] 161) :
    Calls Tryz.prog 180 #[.pointer (some ⟨bq, 0, none⟩)] w fun r w' => ∃ ty' x', r = .returned (.tuple #[.iface ty' x', .nilIface]) ∧ JAt (fun b => w.heap.size ≤ b) w' (.iface ty' x') (jMap [(s_exists, jMap [(s_field, .str f)])]) ∧ Ext w w' := by
  have hempt : (⟨#[]⟩ : ByteArray).toList.isEmpty = true := by rw [Lib.toList_data]; rfl
  have hblt := hbq.lt
  have hc0 := hbq.cell 0 _ rfl
  have hc1 := hbq.cell 1 _ rfl
  have tok0 := trivial
  have tok1 := trivial
  go_enter Tryz.func180, Tryz.ntmps180
  go_wp2_with (first
    | (at_mapUpdate; have _t := tok0; clear _t tok0; refine wp_put _ rfl _ _ _ 109 rfl 20 Tryz.underlying109 w.heap.size [] rfl ((MapAt.at rfl).alloc _) (by simp [maxLen]) s_exists rfl (by decide) (.iface 109 (.map (some (w.heap.size + 1)))) rfl ?_; intro w1 hm hg
       have hx1 : Ext w w1 := ext_put (ext_alloc (ext_alloc (ext_refl _) _) _) hg (Nat.le_refl _)
       have hm0_1 : MapAt w1 w.heap.size [(s_exists, .iface 109 (.map (some (w.heap.size + 1))))] := hm
       have hm1_1 : MapAt w1 (w.heap.size + 1) [] := (MapAt.at (by simp)).grown hg (someNe (by omega))
       have hs1 := hm1_1.lt
       have hb1 := hbq.ext hx1
       have hc0 := hb1.cell 0 _ rfl
       have hc1 := hb1.cell 1 _ rfl
       clear hg hm)
    | (at_mapUpdate; have _t := tok1; clear _t tok1; refine wp_put _ rfl _ _ _ 109 rfl 20 Tryz.underlying109 (w.heap.size + 1) [] rfl hm1_1 (by simp [maxLen]) s_field rfl (by decide) (.iface 9 (.string f)) rfl ?_; intro w2 hm hg
       have hx2 : Ext w w2 := ext_put hx1 hg (by omega)
       have hm0_2 : MapAt w2 w.heap.size [(s_exists, .iface 109 (.map (some (w.heap.size + 1))))] := hm0_1.grown hg (someNe (by omega))
       have hm1_2 := hm
       have hs2 := hm1_2.lt
       have hb2 := hbq.ext hx2
       have hc0 := hb2.cell 0 _ rfl
       have hc1 := hb2.cell 1 _ rfl
       clear hg hm)
    | fail)
  go_ret2
  refine ⟨_, _, rfl, ?_, hx2⟩
  have hp : PJ (fun b => w.heap.size + 1 < b) w2 [(s_field, .iface 9 (.string f))] [(s_field, .str f)] := ⟨rfl, by simp only [List.map_cons, List.map_nil, JsAt]; exact ⟨(by simp [JAt]), trivial⟩⟩
  exact jMap_one hm0_2 (Nat.le_refl _) ((hp.keep (S' := fun b => w.heap.size ≤ b) (fun b hb _ => by omega) (fun _ _ _ => rfl)).map hm1_2 (by omega) (by simp))
set_option maxRecDepth 20000 in
set_option maxHeartbeats 4000000 in
theorem const_src {S : Nat → Prop} (w : World) (bq : Nat) (qty : TypeId) (qx : Value) (qj : J) (hq : Gives S w (.iface qty qx) qj) (hbq : Box w bq #[.iface qty qx, .pointer none] 163) :
    Calls Tryz.prog 182 #[.pointer (some ⟨bq, 0, none⟩)] w fun r w' => ∃ ty' x', r = .returned (.tuple #[.iface ty' x', .nilIface]) ∧ JAt (fun b => w.heap.size ≤ b) w' (.iface ty' x') (jMap [(s_constant_score, jMap [(s_filter, qj)])]) ∧ Ext w w' := by
  have hempt : (⟨#[]⟩ : ByteArray).toList.isEmpty = true := by rw [Lib.toList_data]; rfl
  have hblt := hbq.lt
  obtain ⟨qty, qx, qf, hqe, hqm, hqm2, hqC⟩ := hq
  cases hqe
  have HqC := Lib.hid hqC
  clear hqC
  have hc0 := hbq.cell 0 _ rfl
  have hc1 := hbq.cell 1 _ rfl
  have tok0 := trivial
  have tok1 := trivial
  have tok2 := trivial
  go_enter Tryz.func182, Tryz.ntmps182
  go_wp2_with (first
    | (at_mapUpdate; have _t := tok0; clear _t tok0; refine wp_put _ rfl _ _ _ 109 rfl 20 Tryz.underlying109 w.heap.size [] rfl ((MapAt.at rfl).alloc _) (by simp [maxLen]) s_constant_score rfl (by decide) (.iface 109 (.map (some (w.heap.size + 1)))) rfl ?_; intro w1 hm hg
       have hx1 : Ext w w1 := ext_put (ext_alloc (ext_alloc (ext_refl _) _) _) hg (Nat.le_refl _)
       have hm0_1 : MapAt w1 w.heap.size [(s_constant_score, .iface 109 (.map (some (w.heap.size + 1))))] := hm
       have hm1_1 : MapAt w1 (w.heap.size + 1) [] := (MapAt.at (by simp)).grown hg (someNe (by omega))
       have hs1 := hm1_1.lt
       have hb1 := hbq.ext hx1
       have hc0 := hb1.cell 0 _ rfl
       have hc1 := hb1.cell 1 _ rfl
       clear hg hm)
    | ((with_reducible show Calls _ qf _ _ _); have _t := tok1; clear _t tok1; refine (HqC.out _ (Ext.keeps hx1 _) (Ext.sz hx1)).mono ?_; rintro r w2 ⟨qjt, qjx, rfl, hJ, hx⟩
       have hx2 : Ext w w2 := ext_trans hx1 hx
       have hm0_2 := MapAt.ext hm0_1 hx
       have hm1_2 := MapAt.ext hm1_1 hx
       have hs2 := hm1_2.lt
       have hb2 := hbq.ext hx2
       have hc0 := hb2.cell 0 _ rfl
       have hc1 := hb2.cell 1 _ rfl
       have HJq := Lib.hid (hJ.to (S' := (fun b => w.heap.size + 1 < b)) (fun b hb _ => by (try simp at hb); omega))
       clear hJ hx)
    | (at_mapUpdate; have _t := tok2; clear _t tok2; refine wp_put _ rfl _ _ _ 109 rfl 20 Tryz.underlying109 (w.heap.size + 1) [] rfl hm1_2 (by simp [maxLen]) s_filter rfl (by decide) (.iface qjt qjx) rfl ?_; intro w3 hm hg
       have hx3 : Ext w w3 := ext_put hx2 hg (by omega)
       have hm0_3 : MapAt w3 w.heap.size [(s_constant_score, .iface 109 (.map (some (w.heap.size + 1))))] := hm0_2.grown hg (someNe (by omega))
       have hm1_3 := hm
       have hs3 := hm1_3.lt
       have hb3 := hbq.ext hx3
       have hc0 := hb3.cell 0 _ rfl
       have hc1 := hb3.cell 1 _ rfl
       have HJq := Lib.hid (JAt.keep (S' := (fun b => w.heap.size + 1 < b)) (fun _ h _ => h) (keeps_grown hg (fun b hb e => by simp only [Option.some.injEq] at e; omega)) _ HJq.out)
       clear hg hm)
    | fail)
  go_ret2
  refine ⟨_, _, rfl, ?_, hx3⟩
  have hp : PJ (fun b => w.heap.size + 1 < b) w3 [(s_filter, .iface qjt qjx)] [(s_filter, qj)] := ⟨rfl, by simp only [List.map_cons, List.map_nil, JsAt]; exact ⟨HJq.out, trivial⟩⟩
  exact jMap_one hm0_3 (Nat.le_refl _) ((hp.keep (S' := fun b => w.heap.size ≤ b) (fun b hb _ => by omega) (fun _ _ _ => rfl)).map hm1_3 (by omega) (by simp))
set_option maxRecDepth 20000 in
set_option maxHeartbeats 4000000 in
theorem nested0_src {S : Nat → Prop} (w : World) (bq : Nat) (f : ByteArray) (qty : TypeId) (qx : Value) (qj : J) (hq : Gives S w (.iface qty qx) qj) (hbq : Box w bq #[.iface qty qx, .string f, .string ⟨#[]⟩, .pointer none, .string ⟨#[]⟩, .pointer none, .pointer none] 170) :
    Calls Tryz.prog 188 #[.pointer (some ⟨bq, 0, none⟩)] w fun r w' => ∃ ty' x', r = .returned (.tuple #[.iface ty' x', .nilIface]) ∧ JAt (fun b => w.heap.size ≤ b) w' (.iface ty' x') (jMap [(s_nested, jMap [(s_query, qj), (s_path, .str f)])]) ∧ Ext w w' := by
  have hempt : (⟨#[]⟩ : ByteArray).toList.isEmpty = true := by rw [Lib.toList_data]; rfl
  have hblt := hbq.lt
  obtain ⟨qty, qx, qf, hqe, hqm, hqm2, hqC⟩ := hq
  cases hqe
  have HqC := Lib.hid hqC
  clear hqC
  have hc0 := hbq.cell 0 _ rfl
  have hc1 := hbq.cell 1 _ rfl
  have hc2 := hbq.cell 2 _ rfl
  have hc3 := hbq.cell 3 _ rfl
  have hc4 := hbq.cell 4 _ rfl
  have hc5 := hbq.cell 5 _ rfl
  have hc6 := hbq.cell 6 _ rfl
  have tok0 := trivial
  have tok1 := trivial
  have tok2 := trivial
  have tok3 := trivial
  go_enter Tryz.func188, Tryz.ntmps188
  go_wp2_with (first
    | (at_mapUpdate; have _t := tok0; clear _t tok0; refine wp_put _ rfl _ _ _ 109 rfl 20 Tryz.underlying109 w.heap.size [] rfl ((MapAt.at rfl).alloc _) (by simp [maxLen]) s_nested rfl (by decide) (.iface 109 (.map (some (w.heap.size + 1)))) rfl ?_; intro w1 hm hg
       have hx1 : Ext w w1 := ext_put (ext_alloc (ext_alloc (ext_refl _) _) _) hg (Nat.le_refl _)
       have hm0_1 : MapAt w1 w.heap.size [(s_nested, .iface 109 (.map (some (w.heap.size + 1))))] := hm
       have hm1_1 : MapAt w1 (w.heap.size + 1) [] := (MapAt.at (by simp)).grown hg (someNe (by omega))
       have hs1 := hm1_1.lt
       have hb1 := hbq.ext hx1
       have hc0 := hb1.cell 0 _ rfl
       have hc1 := hb1.cell 1 _ rfl
       have hc2 := hb1.cell 2 _ rfl
       have hc3 := hb1.cell 3 _ rfl
       have hc4 := hb1.cell 4 _ rfl
       have hc5 := hb1.cell 5 _ rfl
       have hc6 := hb1.cell 6 _ rfl
       clear hg hm)
    | ((with_reducible show Calls _ qf _ _ _); have _t := tok1; clear _t tok1; refine (HqC.out _ (Ext.keeps hx1 _) (Ext.sz hx1)).mono ?_; rintro r w2 ⟨qjt, qjx, rfl, hJ, hx⟩
       have hx2 : Ext w w2 := ext_trans hx1 hx
       have hm0_2 := MapAt.ext hm0_1 hx
       have hm1_2 := MapAt.ext hm1_1 hx
       have hs2 := hm1_2.lt
       have hb2 := hbq.ext hx2
       have hc0 := hb2.cell 0 _ rfl
       have hc1 := hb2.cell 1 _ rfl
       have hc2 := hb2.cell 2 _ rfl
       have hc3 := hb2.cell 3 _ rfl
       have hc4 := hb2.cell 4 _ rfl
       have hc5 := hb2.cell 5 _ rfl
       have hc6 := hb2.cell 6 _ rfl
       have HJq := Lib.hid (hJ.to (S' := (fun b => w.heap.size + 1 < b)) (fun b hb _ => by (try simp at hb); omega))
       clear hJ hx)
    | (at_mapUpdate; have _t := tok2; clear _t tok2; refine wp_put _ rfl _ _ _ 109 rfl 20 Tryz.underlying109 (w.heap.size + 1) [] rfl hm1_2 (by simp [maxLen]) s_query rfl (by decide) (.iface qjt qjx) rfl ?_; intro w3 hm hg
       have hx3 : Ext w w3 := ext_put hx2 hg (by omega)
       have hm0_3 : MapAt w3 w.heap.size [(s_nested, .iface 109 (.map (some (w.heap.size + 1))))] := hm0_2.grown hg (someNe (by omega))
       have hm1_3 := hm
       have hs3 := hm1_3.lt
       have hb3 := hbq.ext hx3
       have hc0 := hb3.cell 0 _ rfl
       have hc1 := hb3.cell 1 _ rfl
       have hc2 := hb3.cell 2 _ rfl
       have hc3 := hb3.cell 3 _ rfl
       have hc4 := hb3.cell 4 _ rfl
       have hc5 := hb3.cell 5 _ rfl
       have hc6 := hb3.cell 6 _ rfl
       have HJq := Lib.hid (JAt.keep (S' := (fun b => w.heap.size + 1 < b)) (fun _ h _ => h) (keeps_grown hg (fun b hb e => by simp only [Option.some.injEq] at e; omega)) _ HJq.out)
       clear hg hm)
    | (at_mapUpdate; have _t := tok3; clear _t tok3; refine wp_put _ rfl _ _ _ 109 rfl 20 Tryz.underlying109 (w.heap.size + 1) [(s_query, .iface qjt qjx)] rfl hm1_3 (by simp [maxLen]) s_path rfl (by decide) (.iface 9 (.string f)) rfl ?_; intro w4 hm hg
       have hx4 : Ext w w4 := ext_put hx3 hg (by omega)
       have hm0_4 : MapAt w4 w.heap.size [(s_nested, .iface 109 (.map (some (w.heap.size + 1))))] := hm0_3.grown hg (someNe (by omega))
       have hm1_4 := hm
       have hs4 := hm1_4.lt
       have hb4 := hbq.ext hx4
       have hc0 := hb4.cell 0 _ rfl
       have hc1 := hb4.cell 1 _ rfl
       have hc2 := hb4.cell 2 _ rfl
       have hc3 := hb4.cell 3 _ rfl
       have hc4 := hb4.cell 4 _ rfl
       have hc5 := hb4.cell 5 _ rfl
       have hc6 := hb4.cell 6 _ rfl
       have HJq := Lib.hid (JAt.keep (S' := (fun b => w.heap.size + 1 < b)) (fun _ h _ => h) (keeps_grown hg (fun b hb e => by simp only [Option.some.injEq] at e; omega)) _ HJq.out)
       clear hg hm)
    | fail)
  go_ret2
  refine ⟨_, _, rfl, ?_, hx4⟩
  have hp : PJ (fun b => w.heap.size + 1 < b) w4 [(s_query, .iface qjt qjx), (s_path, .iface 9 (.string f))] [(s_query, qj), (s_path, .str f)] := ⟨rfl, by simp only [List.map_cons, List.map_nil, JsAt]; exact ⟨HJq.out, (by simp [JAt]), trivial⟩⟩
  exact jMap_one hm0_4 (Nat.le_refl _) ((hp.keep (S' := fun b => w.heap.size ≤ b) (fun b hb _ => by omega) (fun _ _ _ => rfl)).map hm1_4 (by omega) (by simp))
set_option maxRecDepth 20000 in
set_option maxHeartbeats 4000000 in
theorem boosting0_src {S : Nat → Prop} (w : World) (bq : Nat) (qty : TypeId) (qx : Value) (qj : J) (hq : Gives S w (.iface qty qx) qj) (pty : TypeId) (px : Value) (pj : J) (hp : Gives S w (.iface pty px) pj) (hb : Nat) (z : Nat) (hz : w.cell? ⟨hb, 0, none⟩ = some (.float .f64 z)) (hbq : Box w bq #[.nilIface, .iface qty qx, .iface pty px, .pointer (some ⟨hb, 0, none⟩), .pointer none] 167) :
    Calls Tryz.prog 186 #[.pointer (some ⟨bq, 0, none⟩)] w fun r w' => ∃ ty' x', r = .returned (.tuple #[.iface ty' x', .nilIface]) ∧ JAt (fun b => w.heap.size ≤ b) w' (.iface ty' x') (jMap [(s_boosting, jMap [(s_positive, qj), (s_negative, pj), (s_negative_boost, .num z)])]) ∧ Ext w w' := by
  have hempt : (⟨#[]⟩ : ByteArray).toList.isEmpty = true := by rw [Lib.toList_data]; rfl
  have hblt := hbq.lt
  obtain ⟨qty, qx, qf, hqe, hqm, hqm2, hqC⟩ := hq
  cases hqe
  have HqC := Lib.hid hqC
  clear hqC
  have hnq := query_held qty qx
  have huq := query_guard qty qx
  obtain ⟨pty, px, pf, hpe, hpm, hpm2, hpC⟩ := hp
  cases hpe
  have HpC := Lib.hid hpC
  clear hpC
  have hnp := query_held pty px
  have hup := query_guard pty px
  have hc0 := hbq.cell 0 _ rfl
  have hc1 := hbq.cell 1 _ rfl
  have hc2 := hbq.cell 2 _ rfl
  have hc3 := hbq.cell 3 _ rfl
  have hc4 := hbq.cell 4 _ rfl
  have tok0 := trivial
  have tok1 := trivial
  have tok2 := trivial
  have tok3 := trivial
  have tok4 := trivial
  have tok5 := trivial
  go_enter Tryz.func186, Tryz.ntmps186
  go_wp2_with (first
    | (at_mapUpdate; have _t := tok0; clear _t tok0; refine wp_put _ rfl _ _ _ 109 rfl 20 Tryz.underlying109 w.heap.size [] rfl ((MapAt.at rfl).alloc _) (by simp [maxLen]) s_boosting rfl (by decide) (.iface 109 (.map (some (w.heap.size + 1)))) rfl ?_; intro w1 hm hg
       have hx1 : Ext w w1 := ext_put (ext_alloc (ext_alloc (ext_refl _) _) _) hg (Nat.le_refl _)
       have hm0_1 : MapAt w1 w.heap.size [(s_boosting, .iface 109 (.map (some (w.heap.size + 1))))] := hm
       have hm1_1 : MapAt w1 (w.heap.size + 1) [] := (MapAt.at (by simp)).grown hg (someNe (by omega))
       have hs1 := hm1_1.lt
       have hb1 := hbq.ext hx1
       have hz1 := hx1.cell hz
       have hc0 := hb1.cell 0 _ rfl
       have hc1 := hb1.cell 1 _ rfl
       have hc2 := hb1.cell 2 _ rfl
       have hc3 := hb1.cell 3 _ rfl
       have hc4 := hb1.cell 4 _ rfl
       clear hg hm)
    | ((with_reducible show Calls _ qf _ _ _); have _t := tok1; clear _t tok1; refine (HqC.out _ (Ext.keeps hx1 _) (Ext.sz hx1)).mono ?_; rintro r w2 ⟨qjt, qjx, rfl, hJ, hx⟩
       have hx2 : Ext w w2 := ext_trans hx1 hx
       have hm0_2 := MapAt.ext hm0_1 hx
       have hm1_2 := MapAt.ext hm1_1 hx
       have hs2 := hm1_2.lt
       have hb2 := hbq.ext hx2
       have hz2 := hx2.cell hz
       have hc0 := hb2.cell 0 _ rfl
       have hc1 := hb2.cell 1 _ rfl
       have hc2 := hb2.cell 2 _ rfl
       have hc3 := hb2.cell 3 _ rfl
       have hc4 := hb2.cell 4 _ rfl
       have HJq := Lib.hid (hJ.to (S' := (fun b => w.heap.size + 1 < b)) (fun b hb _ => by (try simp at hb); omega))
       clear hJ hx)
    | (at_mapUpdate; have _t := tok2; clear _t tok2; refine wp_put _ rfl _ _ _ 109 rfl 20 Tryz.underlying109 (w.heap.size + 1) [] rfl hm1_2 (by simp [maxLen]) s_positive rfl (by decide) (.iface qjt qjx) rfl ?_; intro w3 hm hg
       have hx3 : Ext w w3 := ext_put hx2 hg (by omega)
       have hm0_3 : MapAt w3 w.heap.size [(s_boosting, .iface 109 (.map (some (w.heap.size + 1))))] := hm0_2.grown hg (someNe (by omega))
       have hm1_3 := hm
       have hs3 := hm1_3.lt
       have hb3 := hbq.ext hx3
       have hz3 := hx3.cell hz
       have hc0 := hb3.cell 0 _ rfl
       have hc1 := hb3.cell 1 _ rfl
       have hc2 := hb3.cell 2 _ rfl
       have hc3 := hb3.cell 3 _ rfl
       have hc4 := hb3.cell 4 _ rfl
       have HJq := Lib.hid (JAt.keep (S' := (fun b => w.heap.size + 1 < b)) (fun _ h _ => h) (keeps_grown hg (fun b hb e => by simp only [Option.some.injEq] at e; omega)) _ HJq.out)
       clear hg hm)
    | ((with_reducible show Calls _ pf _ _ _); have _t := tok3; clear _t tok3; refine (HpC.out _ (Ext.keeps hx3 _) (Ext.sz hx3)).mono ?_; rintro r w4 ⟨pjt, pjx, rfl, hJ, hx⟩
       have hx4 : Ext w w4 := ext_trans hx3 hx
       have hm0_4 := MapAt.ext hm0_3 hx
       have hm1_4 := MapAt.ext hm1_3 hx
       have hs4 := hm1_4.lt
       have hb4 := hbq.ext hx4
       have hz4 := hx4.cell hz
       have hc0 := hb4.cell 0 _ rfl
       have hc1 := hb4.cell 1 _ rfl
       have hc2 := hb4.cell 2 _ rfl
       have hc3 := hb4.cell 3 _ rfl
       have hc4 := hb4.cell 4 _ rfl
       have HJp := Lib.hid (hJ.to (S' := (fun b => w.heap.size + 1 < b)) (fun b hb _ => by (try simp at hb); omega))
       have HJq := Lib.hid (HJq.out.ext hx)
       clear hJ hx)
    | (at_mapUpdate; have _t := tok4; clear _t tok4; refine wp_put _ rfl _ _ _ 109 rfl 20 Tryz.underlying109 (w.heap.size + 1) [(s_positive, .iface qjt qjx)] rfl hm1_4 (by simp [maxLen]) s_negative rfl (by decide) (.iface pjt pjx) rfl ?_; intro w5 hm hg
       have hx5 : Ext w w5 := ext_put hx4 hg (by omega)
       have hm0_5 : MapAt w5 w.heap.size [(s_boosting, .iface 109 (.map (some (w.heap.size + 1))))] := hm0_4.grown hg (someNe (by omega))
       have hm1_5 := hm
       have hs5 := hm1_5.lt
       have hb5 := hbq.ext hx5
       have hz5 := hx5.cell hz
       have hc0 := hb5.cell 0 _ rfl
       have hc1 := hb5.cell 1 _ rfl
       have hc2 := hb5.cell 2 _ rfl
       have hc3 := hb5.cell 3 _ rfl
       have hc4 := hb5.cell 4 _ rfl
       have HJq := Lib.hid (JAt.keep (S' := (fun b => w.heap.size + 1 < b)) (fun _ h _ => h) (keeps_grown hg (fun b hb e => by simp only [Option.some.injEq] at e; omega)) _ HJq.out)
       have HJp := Lib.hid (JAt.keep (S' := (fun b => w.heap.size + 1 < b)) (fun _ h _ => h) (keeps_grown hg (fun b hb e => by simp only [Option.some.injEq] at e; omega)) _ HJp.out)
       clear hg hm)
    | (at_mapUpdate; have _t := tok5; clear _t tok5; refine wp_put _ rfl _ _ _ 109 rfl 20 Tryz.underlying109 (w.heap.size + 1) [(s_positive, .iface qjt qjx), (s_negative, .iface pjt pjx)] rfl hm1_5 (by simp [maxLen]) s_negative_boost rfl (by decide) (.iface 22 (.float .f64 z)) rfl ?_; intro w6 hm hg
       have hx6 : Ext w w6 := ext_put hx5 hg (by omega)
       have hm0_6 : MapAt w6 w.heap.size [(s_boosting, .iface 109 (.map (some (w.heap.size + 1))))] := hm0_5.grown hg (someNe (by omega))
       have hm1_6 := hm
       have hs6 := hm1_6.lt
       have hb6 := hbq.ext hx6
       have hz6 := hx6.cell hz
       have hc0 := hb6.cell 0 _ rfl
       have hc1 := hb6.cell 1 _ rfl
       have hc2 := hb6.cell 2 _ rfl
       have hc3 := hb6.cell 3 _ rfl
       have hc4 := hb6.cell 4 _ rfl
       have HJq := Lib.hid (JAt.keep (S' := (fun b => w.heap.size + 1 < b)) (fun _ h _ => h) (keeps_grown hg (fun b hb e => by simp only [Option.some.injEq] at e; omega)) _ HJq.out)
       have HJp := Lib.hid (JAt.keep (S' := (fun b => w.heap.size + 1 < b)) (fun _ h _ => h) (keeps_grown hg (fun b hb e => by simp only [Option.some.injEq] at e; omega)) _ HJp.out)
       clear hg hm)
    | fail)
  go_ret2
  refine ⟨_, _, rfl, ?_, hx6⟩
  have hp : PJ (fun b => w.heap.size + 1 < b) w6 [(s_positive, .iface qjt qjx), (s_negative, .iface pjt pjx), (s_negative_boost, .iface 22 (.float .f64 z))] [(s_positive, qj), (s_negative, pj), (s_negative_boost, .num z)] := ⟨rfl, by simp only [List.map_cons, List.map_nil, JsAt]; exact ⟨HJq.out, HJp.out, (by simp [JAt]), trivial⟩⟩
  exact jMap_one hm0_6 (Nat.le_refl _) ((hp.keep (S' := fun b => w.heap.size ≤ b) (fun b hb _ => by omega) (fun _ _ _ => rfl)).map hm1_6 (by omega) (by simp))
set_option maxRecDepth 20000 in
set_option maxHeartbeats 4000000 in
theorem term0_src (w : World) (bq : Nat) (f : ByteArray) (hf_le : f.size ≤ maxLen) (v : ByteArray) (hbq : Box w bq #[.string f, .iface 9 (.string v), .pointer none, .pointer none, .string ⟨#[]⟩] 159) :
    Calls Tryz.prog 178 #[.pointer (some ⟨bq, 0, none⟩)] w fun r w' => ∃ ty' x', r = .returned (.tuple #[.iface ty' x', .nilIface]) ∧ JAt (fun b => w.heap.size ≤ b) w' (.iface ty' x') (jMap [(s_term, jMap [(f, .str v)])]) ∧ Ext w w' := by
  have hempt : (⟨#[]⟩ : ByteArray).toList.isEmpty = true := by rw [Lib.toList_data]; rfl
  have tok0 := trivial
  have hblt := hbq.lt
  go_enter Tryz.func178, Tryz.ntmps178
  go_upto_region 5 with (first
    | (at_mapUpdate; have _t := tok0; refine wp_put _ rfl _ _ _ 109 rfl 20 Tryz.underlying109 w.heap.size [] rfl ((MapAt.at (by simp)).alloc _) (by simp [maxLen]) s_term rfl (by decide) _ rfl ?_; intro w1 hm hg; clear tok0
       have hx1 : Ext w w1 := ext_put (ext_alloc (ext_alloc (ext_refl _) _) _) hg (by omega)
       have hl0_1 := hm
       have hs0_1 := hl0_1.lt
       have hl1_1 : MapAt w1 (w.heap.size + 1) [] := (MapAt.at (by simp)).grown hg (someNe (by omega))
       have hs1_1 := hl1_1.lt
       have hb1 := hbq.ext hx1
       have hq1 := hb1.lt
       have hc0 := hb1.cell 0 _ rfl
       have hc1 := hb1.cell 1 _ rfl
       have hc2 := hb1.cell 2 _ rfl
       have hc3 := hb1.cell 3 _ rfl
       have hc4 := hb1.cell 4 _ rfl
       clear hg hm)
    | fail)
  refine wp_region_order (fun w' => w'.cell? ⟨bq, 0, none⟩ = some (.string f) ∧ w'.cell? ⟨bq, 1, none⟩ = some (.iface 9 (.string v)) ∧ w'.cell? ⟨bq, 2, none⟩ = some (.pointer none) ∧ w'.cell? ⟨bq, 3, none⟩ = some (.pointer none) ∧ w'.cell? ⟨bq, 4, none⟩ = some (.string ⟨#[]⟩)) [0, 1, 2, 3, 4, 5, 6, 7, 8] [0, 1, 2, 3, 4, 5, 6, 7, 8, 9] (by kernel_rfl) (by kernel_rfl) (fun d _ _ _ _ h => by cases d <;> exact h) (by kernel_rfl) ?_
  have hS : (fun w' => w'.cell? ⟨bq, 0, none⟩ = some (.string f) ∧ w'.cell? ⟨bq, 1, none⟩ = some (.iface 9 (.string v)) ∧ w'.cell? ⟨bq, 2, none⟩ = some (.pointer none) ∧ w'.cell? ⟨bq, 3, none⟩ = some (.pointer none) ∧ w'.cell? ⟨bq, 4, none⟩ = some (.string ⟨#[]⟩)) w1.drew := ⟨hc0, hc1, hc2, hc3, hc4⟩
  iterate 9 (apply ord_held rfl rfl (by assumption) rfl; (focus ((intro w' hS'); go_simp; (try with_reducible rfl))); (try simp only [Act.put, List.setIfInBounds_toArray, List.set_cons_zero, List.set_cons_succ]))
  apply ord_last rfl rfl rfl (by kernel_rfl)
  intro K hK
  refine op_put _ _ _ _ 109 rfl 20 Tryz.underlying109 (w.heap.size + 1) [] rfl hl1_1.drew (by simp [maxLen]) f rfl hf_le (.iface 9 (.string v)) rfl ?_
  intro w2 hm2 hg2
  refine hK _ _ ?_
  clear hK K
  refine ord_end ?_
  have hx2 : Ext w w2 := ext_put (ext_drew hx1) hg2 (by omega)
  have hm0 := hl0_1.drew.grown hg2 (someNe (by omega))
  go_wp2_with fail
  go_ret2
  refine ⟨_, _, rfl, ?_, hx2⟩
  exact jMap_one hm0 (Nat.le_refl _) (jMap_one hm2 (by omega) (by simp [JAt]))
theorem mq_MatchAllQuery (fuel : Nat) (v : Value) (w : World) : (method (fuel + 1) 129 v "Source").run Tryz.prog w = .ok (191, v) w := by kernel_rfl
theorem mq_ExistsQuery (fuel : Nat) (v : Value) (w : World) : (method (fuel + 1) 115 v "Source").run Tryz.prog w = .ok (180, v) w := by kernel_rfl
theorem mq_ConstantScoreQuery (fuel : Nat) (v : Value) (w : World) : (method (fuel + 1) 118 v "Source").run Tryz.prog w = .ok (182, v) w := by kernel_rfl
theorem mq_NestedQuery (fuel : Nat) (v : Value) (w : World) : (method (fuel + 1) 127 v "Source").run Tryz.prog w = .ok (188, v) w := by kernel_rfl
theorem mq_BoostingQuery (fuel : Nat) (v : Value) (w : World) : (method (fuel + 1) 123 v "Source").run Tryz.prog w = .ok (186, v) w := by kernel_rfl
theorem mq_TermQuery (fuel : Nat) (v : Value) (w : World) : (method (fuel + 1) 113 v "Source").run Tryz.prog w = .ok (178, v) w := by kernel_rfl
theorem mq_BoolQuery (fuel : Nat) (v : Value) (w : World) : (method (fuel + 1) 84 v "Source").run Tryz.prog w = .ok (63, v) w := by kernel_rfl
theorem mq_DisMaxQuery (fuel : Nat) (v : Value) (w : World) : (method (fuel + 1) 120 v "Source").run Tryz.prog w = .ok (184, v) w := by kernel_rfl
theorem gives_all {S : Nat → Prop} {w : World} {bq : Nat} (hS : S bq) (hbq : Box w bq #[.pointer none, .string ⟨#[]⟩] 172) : Gives S w (.iface 129 (.pointer (some ⟨bq, 0, none⟩))) (jAll) :=
  ⟨_, _, _, rfl, fun fuel w' => mq_MatchAllQuery fuel _ w', fun w' => by kernel_rfl, fun w' k hs => all_src (_S := S) w' bq ((k bq hS hbq.lt).trans hbq)⟩
theorem gives_exists {S : Nat → Prop} {w : World} {bq : Nat} {f : ByteArray} (hS : S bq) (hbq : Box w bq #[.string f, .string ⟨#[]⟩] 161) : Gives S w (.iface 115 (.pointer (some ⟨bq, 0, none⟩))) (jMap [(s_exists, jMap [(s_field, .str f)])]) :=
  ⟨_, _, _, rfl, fun fuel w' => mq_ExistsQuery fuel _ w', fun w' => by kernel_rfl, fun w' k hs => exists0_src (_S := S) w' bq f ((k bq hS hbq.lt).trans hbq)⟩
theorem gives_term {S : Nat → Prop} {w : World} {bq : Nat} {f v : ByteArray} (hf : f.size ≤ maxLen) (hS : S bq) (hbq : Box w bq #[.string f, .iface 9 (.string v), .pointer none, .pointer none, .string ⟨#[]⟩] 159) : Gives S w (.iface 113 (.pointer (some ⟨bq, 0, none⟩))) (jMap [(s_term, jMap [(f, .str v)])]) :=
  ⟨_, _, _, rfl, fun fuel w' => mq_TermQuery fuel _ w', fun w' => by kernel_rfl, fun w' k hs => term0_src w' bq f hf v ((k bq hS hbq.lt).trans hbq)⟩
theorem gives_const {S : Nat → Prop} {w : World} {bq : Nat} {qty : TypeId} {qx : Value} {qj : J} (hq : Gives S w (.iface qty qx) qj) (hS : S bq) (hbq : Box w bq #[.iface qty qx, .pointer none] 163) : Gives S w (.iface 118 (.pointer (some ⟨bq, 0, none⟩))) (jMap [(s_constant_score, jMap [(s_filter, qj)])]) :=
  ⟨_, _, _, rfl, fun fuel w' => mq_ConstantScoreQuery fuel _ w', fun w' => by kernel_rfl, fun w' k hs => const_src w' bq qty qx qj (Gives.keep hq (fun _ h _ => h) k hs) ((k bq hS hbq.lt).trans hbq)⟩
theorem gives_nested {S : Nat → Prop} {w : World} {bq : Nat} {f : ByteArray} {qty : TypeId} {qx : Value} {qj : J} (hq : Gives S w (.iface qty qx) qj) (hS : S bq) (hbq : Box w bq #[.iface qty qx, .string f, .string ⟨#[]⟩, .pointer none, .string ⟨#[]⟩, .pointer none, .pointer none] 170) : Gives S w (.iface 127 (.pointer (some ⟨bq, 0, none⟩))) (jMap [(s_nested, jMap [(s_query, qj), (s_path, .str f)])]) :=
  ⟨_, _, _, rfl, fun fuel w' => mq_NestedQuery fuel _ w', fun w' => by kernel_rfl, fun w' k hs => nested0_src w' bq f qty qx qj (Gives.keep hq (fun _ h _ => h) k hs) ((k bq hS hbq.lt).trans hbq)⟩
theorem gives_boosting {S : Nat → Prop} {w : World} {bq : Nat} {qty pty : TypeId} {qx px : Value} {qj pj : J} {hb z : Nat} (hq : Gives S w (.iface qty qx) qj) (hp : Gives S w (.iface pty px) pj) (hSb : S hb) (hz : w.cell? ⟨hb, 0, none⟩ = some (.float .f64 z)) (hS : S bq) (hbq : Box w bq #[.nilIface, .iface qty qx, .iface pty px, .pointer (some ⟨hb, 0, none⟩), .pointer none] 167) : Gives S w (.iface 123 (.pointer (some ⟨bq, 0, none⟩))) (jMap [(s_boosting, jMap [(s_positive, qj), (s_negative, pj), (s_negative_boost, .num z)])]) :=
  ⟨_, _, _, rfl, fun fuel w' => mq_BoostingQuery fuel _ w', fun w' => by kernel_rfl, fun w' k hs => boosting0_src w' bq qty qx qj (Gives.keep hq (fun _ h _ => h) k hs) pty px pj (Gives.keep hp (fun _ h _ => h) k hs) hb z (k.cell hSb hz) ((k bq hS hbq.lt).trans hbq)⟩
end Go.Proofs.YtfngaoicoecncaaGreatDoor

namespace Go.Proofs.YtfngaoicoecncaaGreatDoor
open Go.RowKit Go.Maps

/-- Made since h, and neither the query nor one of its lists. -/
def OffN (h bq : Nat) (V1 V2 V3 V4 : Value) (q : Nat) : Prop := h ≤ q ∧ OffB bq V1 V2 V3 V4 q
def Cn (h : Nat) (S : Nat → Prop) (w : World) (V : Value) (js : List J) : Prop := ∃ vs, OwnV 82 w h V vs ∧ GivesL S w vs js
theorem Cn.block {h : Nat} {S : Nat → Prop} {w : World} {V : Value} {js : List J} (c : Cn h S w V js) {g : Nat} (hg : V.ownBlock = some g) : h ≤ g ∧ g < w.heap.size := by
  obtain ⟨vs, h1, -⟩ := c
  exact h1.block hg
theorem Cn.ext {h : Nat} {S : Nat → Prop} {w w' : World} {V : Value} {js : List J} (c : Cn h S w V js) (x : Ext w w') : Cn h S w' V js := by
  obtain ⟨vs, h1, h2⟩ := c
  exact ⟨vs, h1.ext x, h2.keep (fun _ h _ => h) (x.keeps _) x.sz⟩
theorem Cn.len {h : Nat} {S : Nat → Prop} {w : World} {V : Value} {js : List J} (c : Cn h S w V js) : ∃ vs, OwnV 82 w h V vs ∧ GivesL S w vs js ∧ vs.length = js.length := by
  obtain ⟨vs, h1, h2⟩ := c
  exact ⟨vs, h1, h2, h2.1⟩
theorem Cn.qs {S S' : Nat → Prop} {h : Nat} {w : World} {V : Value} {js : List J} (c : Cn h S w V js) (hS : ∀ b, V.ownBlock = some b → S' b) (hS2 : ∀ b, S b → S' b) : ∃ a m c, V = .slice a m c ∧ m = js.length ∧ QsAt S' w a m c js := by
  obtain ⟨vs, h1, h2⟩ := c
  obtain ⟨a, c, e, hq⟩ := h1.qs hS (h2.keep (fun b hb _ => hS2 b hb) (fun _ _ _ => rfl) (Nat.le_refl _))
  exact ⟨a, _, c, e, h2.1, hq⟩
theorem Dj.newn {h : Nat} {S : Nat → Prop} {w : World} {a b : Value} {js : List J} {g n c : Nat} (d : Dj a b) (hc : Cn h S w b js) (hl : Lies w a g) : Dj (.slice (some ⟨g, 0, none⟩) n c) b := fun q hq e => by
  simp only [Value.ownBlock, Option.some.injEq] at hq
  subst hq
  rcases hl with hl | hl
  · exact d g hl e
  · have := (hc.block e).2
    omega
def BSn (h bq : Nat) (w : World) (V1 V2 V3 V4 : Value) (l1 l2 l3 l4 : List J) : Prop :=
  (Cn h (OffN h bq V1 V2 V3 V4) w V1 l1 ∧ V1.ownBlock ≠ some bq) ∧ (Cn h (OffN h bq V1 V2 V3 V4) w V2 l2 ∧ V2.ownBlock ≠ some bq) ∧ (Cn h (OffN h bq V1 V2 V3 V4) w V3 l3 ∧ V3.ownBlock ≠ some bq) ∧ (Cn h (OffN h bq V1 V2 V3 V4) w V4 l4 ∧ V4.ownBlock ≠ some bq) ∧ Dj V1 V2 ∧ Dj V1 V3 ∧ Dj V1 V4 ∧ Dj V2 V3 ∧ Dj V2 V4 ∧ Dj V3 V4
theorem BSn.ext {h bq : Nat} {w w' : World} {V1 V2 V3 V4 : Value} {l1 l2 l3 l4 : List J} (b : BSn h bq w V1 V2 V3 V4 l1 l2 l3 l4) (x : Ext w w') : BSn h bq w' V1 V2 V3 V4 l1 l2 l3 l4 := by
  obtain ⟨⟨c1, n1⟩, ⟨c2, n2⟩, ⟨c3, n3⟩, ⟨c4, n4⟩, d⟩ := b
  exact ⟨⟨c1.ext x, n1⟩, ⟨c2.ext x, n2⟩, ⟨c3.ext x, n3⟩, ⟨c4.ext x, n4⟩, d⟩
theorem BSn.fresh {h bq : Nat} {w : World} {V1 V2 V3 V4 : Value} {l1 l2 l3 l4 : List J} (b : BSn h bq w V1 V2 V3 V4 l1 l2 l3 l4) (hh : h ≤ w.heap.size) (hb : bq < w.heap.size) {q : Nat} (hq : w.heap.size ≤ q) : OffN h bq V1 V2 V3 V4 q := by
  obtain ⟨⟨c1, n1⟩, ⟨c2, n2⟩, ⟨c3, n3⟩, ⟨c4, n4⟩, -⟩ := b
  exact ⟨by omega, by omega, fun e => by have := (c1.block e).2; omega, fun e => by have := (c2.block e).2; omega, fun e => by have := (c3.block e).2; omega, fun e => by have := (c4.block e).2; omega⟩
theorem BSn.qs {S : Nat → Prop} {h bq : Nat} {w : World} {V1 V2 V3 V4 : Value} {l1 l2 l3 l4 : List J} (b : BSn h bq w V1 V2 V3 V4 l1 l2 l3 l4) (hS : ∀ q, h ≤ q → q ≠ bq → S q) : (∃ a m c, V1 = .slice a m c ∧ m = l1.length ∧ QsAt S w a m c l1) ∧ (∃ a m c, V2 = .slice a m c ∧ m = l2.length ∧ QsAt S w a m c l2) ∧ (∃ a m c, V3 = .slice a m c ∧ m = l3.length ∧ QsAt S w a m c l3) ∧ (∃ a m c, V4 = .slice a m c ∧ m = l4.length ∧ QsAt S w a m c l4) := by
  obtain ⟨⟨c1, n1⟩, ⟨c2, n2⟩, ⟨c3, n3⟩, ⟨c4, n4⟩, -⟩ := b
  exact ⟨c1.qs (fun q hq => hS q (c1.block hq).1 (fun e => n1 (by rw [hq, e]))) (fun q hq => hS q hq.1 hq.2.1), c2.qs (fun q hq => hS q (c2.block hq).1 (fun e => n2 (by rw [hq, e]))) (fun q hq => hS q hq.1 hq.2.1), c3.qs (fun q hq => hS q (c3.block hq).1 (fun e => n3 (by rw [hq, e]))) (fun q hq => hS q hq.1 hq.2.1), c4.qs (fun q hq => hS q (c4.block hq).1 (fun e => n4 (by rw [hq, e]))) (fun q hq => hS q hq.1 hq.2.1)⟩
theorem GivesL.two {S : Nat → Prop} {w : World} {q : Value} {j : J} {vs : List Value} {js : List J} (h : GivesL S w vs js) (k : Gives S w q j) : GivesL S w (vs ++ [q]) (js ++ [j]) := GivesL.append h (GivesL.one k)
set_option maxRecDepth 20000 in
set_option maxHeartbeats 1000000 in
theorem boolMust_made (h : Nat) (w : World) (bq : Nat) (V1 V2 V3 V4 : Value) (l1 l2 l3 l4 : List J) (hbq : Box w bq #[.nilIface, V1, V2, V3, V4, .pointer none, .string ⟨#[]⟩, .pointer none, .string ⟨#[]⟩] 133) (hB : BSn h bq w V1 V2 V3 V4 l1 l2 l3 l4) (hh : h ≤ bq) (q : Value) (j : J) (qb : Nat) (hcell : w.cell? ⟨qb, 0, none⟩ = some q) (hq : Gives (OffN h bq V1 V2 V3 V4) w q j) (hn : l1.length + 1 ≤ 4398046511104) :
    Calls Tryz.prog 53 #[.pointer (some ⟨bq, 0, none⟩), .slice (some ⟨qb, 0, none⟩) 1 1] w fun r w' => r = .returned (.pointer (some ⟨bq, 0, none⟩)) ∧ ∃ V, Box w' bq #[.nilIface, V, V2, V3, V4, .pointer none, .string ⟨#[]⟩, .pointer none, .string ⟨#[]⟩] 133 ∧ BSn h bq w' V V2 V3 V4 (l1 ++ [j]) l2 l3 l4 ∧ w.heap.size ≤ w'.heap.size ∧ ∀ w0, Ext w0 w → w0.heap.size ≤ h → Ext w0 w' := by
  have hbl := hbq.lt
  obtain ⟨⟨c1, n1⟩, ⟨c2, n2⟩, ⟨c3, n3⟩, ⟨c4, n4⟩, d12, d13, d14, d23, d24, d34⟩ := hB
  have hc0 := c1
  obtain ⟨vs, hO, hG, hvl⟩ := hc0.len
  refine (boolMust_any (S := OffN h bq V1 V2 V3 V4) w bq h V1 vs (.nilIface) V2 V3 V4 (.pointer none) (.string ⟨#[]⟩) (.pointer none) (.string ⟨#[]⟩) l1 [j] hbq hO (by omega) n1 (fun q hq => ⟨hq.2.1, hq.2.2.1⟩) hG qb 1 1 [q] rfl (by omega) (by omega) (fun i u hu => ?_) (GivesL.one hq)).mono ?_
  · cases i with
    | zero => simp at hu; subst hu; exact hcell
    | succ i => simp at hu
  · rintro r w' ⟨rfl, g, cap, hO3, -, hb3, hL2, hgl, hgb, hsz, hk3, how3, hx3⟩
    have hkp : Keeps (OffN h bq V1 V2 V3 V4) w w' := fun q hq hl => hk3 q ⟨hq.2.1, hq.2.2.1⟩ hl
    have hkeep : ∀ q, OffN h bq V1 V2 V3 V4 q → q < w.heap.size → OffN h bq (.slice (some ⟨g, 0, none⟩) (vs.length + 1) cap) V2 V3 V4 q := fun q hq hl => ⟨hq.1, OffB.push1 hq.2 hl hL2⟩
    have hc : ∀ {U : Value} {js : List J}, Cn h (OffN h bq V1 V2 V3 V4) w U js → U.ownBlock ≠ some bq → Dj V1 U → Cn h (OffN h bq (.slice (some ⟨g, 0, none⟩) (vs.length + 1) cap) V2 V3 V4) w' U js := fun {U js} c nU d => by
      obtain ⟨vs2, h1, h2⟩ := c
      exact ⟨vs2, how3 h U vs2 h1 nU d.no, h2.keep hkeep hkp hsz⟩
    exact ⟨rfl, _, hb3, ⟨⟨⟨_, hO3, (GivesL.two hG hq).keep hkeep hkp hsz⟩, by simp only [Value.ownBlock]; exact someNe hgb⟩, ⟨hc c2 n2 (d12), n2⟩, ⟨hc c3 n3 (d13), n3⟩, ⟨hc c4 n4 (d14), n4⟩, Dj.newn d12 c2 hL2, Dj.newn d13 c3 hL2, Dj.newn d14 c4 hL2, d23, d24, d34⟩, hsz, fun w0 x hw => hx3 w0 x hw (by omega)⟩
set_option maxRecDepth 20000 in
set_option maxHeartbeats 1000000 in
theorem boolMustNot_made (h : Nat) (w : World) (bq : Nat) (V1 V2 V3 V4 : Value) (l1 l2 l3 l4 : List J) (hbq : Box w bq #[.nilIface, V1, V2, V3, V4, .pointer none, .string ⟨#[]⟩, .pointer none, .string ⟨#[]⟩] 133) (hB : BSn h bq w V1 V2 V3 V4 l1 l2 l3 l4) (hh : h ≤ bq) (q : Value) (j : J) (qb : Nat) (hcell : w.cell? ⟨qb, 0, none⟩ = some q) (hq : Gives (OffN h bq V1 V2 V3 V4) w q j) (hn : l2.length + 1 ≤ 4398046511104) :
    Calls Tryz.prog 55 #[.pointer (some ⟨bq, 0, none⟩), .slice (some ⟨qb, 0, none⟩) 1 1] w fun r w' => r = .returned (.pointer (some ⟨bq, 0, none⟩)) ∧ ∃ V, Box w' bq #[.nilIface, V1, V, V3, V4, .pointer none, .string ⟨#[]⟩, .pointer none, .string ⟨#[]⟩] 133 ∧ BSn h bq w' V1 V V3 V4 l1 (l2 ++ [j]) l3 l4 ∧ w.heap.size ≤ w'.heap.size ∧ ∀ w0, Ext w0 w → w0.heap.size ≤ h → Ext w0 w' := by
  have hbl := hbq.lt
  obtain ⟨⟨c1, n1⟩, ⟨c2, n2⟩, ⟨c3, n3⟩, ⟨c4, n4⟩, d12, d13, d14, d23, d24, d34⟩ := hB
  have hc0 := c2
  obtain ⟨vs, hO, hG, hvl⟩ := hc0.len
  refine (boolMustNot_any (S := OffN h bq V1 V2 V3 V4) w bq h V2 vs (.nilIface) V1 V3 V4 (.pointer none) (.string ⟨#[]⟩) (.pointer none) (.string ⟨#[]⟩) l2 [j] hbq hO (by omega) n2 (fun q hq => ⟨hq.2.1, hq.2.2.2.1⟩) hG qb 1 1 [q] rfl (by omega) (by omega) (fun i u hu => ?_) (GivesL.one hq)).mono ?_
  · cases i with
    | zero => simp at hu; subst hu; exact hcell
    | succ i => simp at hu
  · rintro r w' ⟨rfl, g, cap, hO3, -, hb3, hL2, hgl, hgb, hsz, hk3, how3, hx3⟩
    have hkp : Keeps (OffN h bq V1 V2 V3 V4) w w' := fun q hq hl => hk3 q ⟨hq.2.1, hq.2.2.2.1⟩ hl
    have hkeep : ∀ q, OffN h bq V1 V2 V3 V4 q → q < w.heap.size → OffN h bq V1 (.slice (some ⟨g, 0, none⟩) (vs.length + 1) cap) V3 V4 q := fun q hq hl => ⟨hq.1, OffB.push2 hq.2 hl hL2⟩
    have hc : ∀ {U : Value} {js : List J}, Cn h (OffN h bq V1 V2 V3 V4) w U js → U.ownBlock ≠ some bq → Dj V2 U → Cn h (OffN h bq V1 (.slice (some ⟨g, 0, none⟩) (vs.length + 1) cap) V3 V4) w' U js := fun {U js} c nU d => by
      obtain ⟨vs2, h1, h2⟩ := c
      exact ⟨vs2, how3 h U vs2 h1 nU d.no, h2.keep hkeep hkp hsz⟩
    exact ⟨rfl, _, hb3, ⟨⟨hc c1 n1 (d12.symm), n1⟩, ⟨⟨_, hO3, (GivesL.two hG hq).keep hkeep hkp hsz⟩, by simp only [Value.ownBlock]; exact someNe hgb⟩, ⟨hc c3 n3 (d23), n3⟩, ⟨hc c4 n4 (d24), n4⟩, (Dj.newn d12.symm c1 hL2).symm, d13, d14, Dj.newn d23 c3 hL2, Dj.newn d24 c4 hL2, d34⟩, hsz, fun w0 x hw => hx3 w0 x hw (by omega)⟩
set_option maxRecDepth 20000 in
set_option maxHeartbeats 1000000 in
theorem boolFilter_made (h : Nat) (w : World) (bq : Nat) (V1 V2 V3 V4 : Value) (l1 l2 l3 l4 : List J) (hbq : Box w bq #[.nilIface, V1, V2, V3, V4, .pointer none, .string ⟨#[]⟩, .pointer none, .string ⟨#[]⟩] 133) (hB : BSn h bq w V1 V2 V3 V4 l1 l2 l3 l4) (hh : h ≤ bq) (q : Value) (j : J) (qb : Nat) (hcell : w.cell? ⟨qb, 0, none⟩ = some q) (hq : Gives (OffN h bq V1 V2 V3 V4) w q j) (hn : l3.length + 1 ≤ 4398046511104) :
    Calls Tryz.prog 57 #[.pointer (some ⟨bq, 0, none⟩), .slice (some ⟨qb, 0, none⟩) 1 1] w fun r w' => r = .returned (.pointer (some ⟨bq, 0, none⟩)) ∧ ∃ V, Box w' bq #[.nilIface, V1, V2, V, V4, .pointer none, .string ⟨#[]⟩, .pointer none, .string ⟨#[]⟩] 133 ∧ BSn h bq w' V1 V2 V V4 l1 l2 (l3 ++ [j]) l4 ∧ w.heap.size ≤ w'.heap.size ∧ ∀ w0, Ext w0 w → w0.heap.size ≤ h → Ext w0 w' := by
  have hbl := hbq.lt
  obtain ⟨⟨c1, n1⟩, ⟨c2, n2⟩, ⟨c3, n3⟩, ⟨c4, n4⟩, d12, d13, d14, d23, d24, d34⟩ := hB
  have hc0 := c3
  obtain ⟨vs, hO, hG, hvl⟩ := hc0.len
  refine (boolFilter_any (S := OffN h bq V1 V2 V3 V4) w bq h V3 vs (.nilIface) V1 V2 V4 (.pointer none) (.string ⟨#[]⟩) (.pointer none) (.string ⟨#[]⟩) l3 [j] hbq hO (by omega) n3 (fun q hq => ⟨hq.2.1, hq.2.2.2.2.1⟩) hG qb 1 1 [q] rfl (by omega) (by omega) (fun i u hu => ?_) (GivesL.one hq)).mono ?_
  · cases i with
    | zero => simp at hu; subst hu; exact hcell
    | succ i => simp at hu
  · rintro r w' ⟨rfl, g, cap, hO3, -, hb3, hL2, hgl, hgb, hsz, hk3, how3, hx3⟩
    have hkp : Keeps (OffN h bq V1 V2 V3 V4) w w' := fun q hq hl => hk3 q ⟨hq.2.1, hq.2.2.2.2.1⟩ hl
    have hkeep : ∀ q, OffN h bq V1 V2 V3 V4 q → q < w.heap.size → OffN h bq V1 V2 (.slice (some ⟨g, 0, none⟩) (vs.length + 1) cap) V4 q := fun q hq hl => ⟨hq.1, OffB.push3 hq.2 hl hL2⟩
    have hc : ∀ {U : Value} {js : List J}, Cn h (OffN h bq V1 V2 V3 V4) w U js → U.ownBlock ≠ some bq → Dj V3 U → Cn h (OffN h bq V1 V2 (.slice (some ⟨g, 0, none⟩) (vs.length + 1) cap) V4) w' U js := fun {U js} c nU d => by
      obtain ⟨vs2, h1, h2⟩ := c
      exact ⟨vs2, how3 h U vs2 h1 nU d.no, h2.keep hkeep hkp hsz⟩
    exact ⟨rfl, _, hb3, ⟨⟨hc c1 n1 (d13.symm), n1⟩, ⟨hc c2 n2 (d23.symm), n2⟩, ⟨⟨_, hO3, (GivesL.two hG hq).keep hkeep hkp hsz⟩, by simp only [Value.ownBlock]; exact someNe hgb⟩, ⟨hc c4 n4 (d34), n4⟩, d12, (Dj.newn d13.symm c1 hL2).symm, d14, (Dj.newn d23.symm c2 hL2).symm, d24, Dj.newn d34 c4 hL2⟩, hsz, fun w0 x hw => hx3 w0 x hw (by omega)⟩
set_option maxRecDepth 20000 in
set_option maxHeartbeats 1000000 in
theorem boolShould_made (h : Nat) (w : World) (bq : Nat) (V1 V2 V3 V4 : Value) (l1 l2 l3 l4 : List J) (hbq : Box w bq #[.nilIface, V1, V2, V3, V4, .pointer none, .string ⟨#[]⟩, .pointer none, .string ⟨#[]⟩] 133) (hB : BSn h bq w V1 V2 V3 V4 l1 l2 l3 l4) (hh : h ≤ bq) (q : Value) (j : J) (qb : Nat) (hcell : w.cell? ⟨qb, 0, none⟩ = some q) (hq : Gives (OffN h bq V1 V2 V3 V4) w q j) (hn : l4.length + 1 ≤ 4398046511104) :
    Calls Tryz.prog 56 #[.pointer (some ⟨bq, 0, none⟩), .slice (some ⟨qb, 0, none⟩) 1 1] w fun r w' => r = .returned (.pointer (some ⟨bq, 0, none⟩)) ∧ ∃ V, Box w' bq #[.nilIface, V1, V2, V3, V, .pointer none, .string ⟨#[]⟩, .pointer none, .string ⟨#[]⟩] 133 ∧ BSn h bq w' V1 V2 V3 V l1 l2 l3 (l4 ++ [j]) ∧ w.heap.size ≤ w'.heap.size ∧ ∀ w0, Ext w0 w → w0.heap.size ≤ h → Ext w0 w' := by
  have hbl := hbq.lt
  obtain ⟨⟨c1, n1⟩, ⟨c2, n2⟩, ⟨c3, n3⟩, ⟨c4, n4⟩, d12, d13, d14, d23, d24, d34⟩ := hB
  have hc0 := c4
  obtain ⟨vs, hO, hG, hvl⟩ := hc0.len
  refine (boolShould_any (S := OffN h bq V1 V2 V3 V4) w bq h V4 vs (.nilIface) V1 V2 V3 (.pointer none) (.string ⟨#[]⟩) (.pointer none) (.string ⟨#[]⟩) l4 [j] hbq hO (by omega) n4 (fun q hq => ⟨hq.2.1, hq.2.2.2.2.2⟩) hG qb 1 1 [q] rfl (by omega) (by omega) (fun i u hu => ?_) (GivesL.one hq)).mono ?_
  · cases i with
    | zero => simp at hu; subst hu; exact hcell
    | succ i => simp at hu
  · rintro r w' ⟨rfl, g, cap, hO3, -, hb3, hL2, hgl, hgb, hsz, hk3, how3, hx3⟩
    have hkp : Keeps (OffN h bq V1 V2 V3 V4) w w' := fun q hq hl => hk3 q ⟨hq.2.1, hq.2.2.2.2.2⟩ hl
    have hkeep : ∀ q, OffN h bq V1 V2 V3 V4 q → q < w.heap.size → OffN h bq V1 V2 V3 (.slice (some ⟨g, 0, none⟩) (vs.length + 1) cap) q := fun q hq hl => ⟨hq.1, OffB.push4 hq.2 hl hL2⟩
    have hc : ∀ {U : Value} {js : List J}, Cn h (OffN h bq V1 V2 V3 V4) w U js → U.ownBlock ≠ some bq → Dj V4 U → Cn h (OffN h bq V1 V2 V3 (.slice (some ⟨g, 0, none⟩) (vs.length + 1) cap)) w' U js := fun {U js} c nU d => by
      obtain ⟨vs2, h1, h2⟩ := c
      exact ⟨vs2, how3 h U vs2 h1 nU d.no, h2.keep hkeep hkp hsz⟩
    exact ⟨rfl, _, hb3, ⟨⟨hc c1 n1 (d14.symm), n1⟩, ⟨hc c2 n2 (d24.symm), n2⟩, ⟨hc c3 n3 (d34.symm), n3⟩, ⟨⟨_, hO3, (GivesL.two hG hq).keep hkeep hkp hsz⟩, by simp only [Value.ownBlock]; exact someNe hgb⟩, d12, d13, (Dj.newn d14.symm c1 hL2).symm, d23, (Dj.newn d24.symm c2 hL2).symm, (Dj.newn d34.symm c3 hL2).symm⟩, hsz, fun w0 x hw => hx3 w0 x hw (by omega)⟩
/-- The list of a dis_max query. -/
def OffD (h bq : Nat) (V : Value) (q : Nat) : Prop := h ≤ q ∧ q ≠ bq ∧ V.ownBlock ≠ some q
set_option maxRecDepth 20000 in
set_option maxHeartbeats 1000000 in
theorem disQuery_made (h : Nat) (w : World) (bq : Nat) (V : Value) (l : List J) (hbq : Box w bq #[V, .pointer none, .pointer none, .string ⟨#[]⟩] 165) (hB : Cn h (OffD h bq V) w V l) (hne : V.ownBlock ≠ some bq) (hh : h ≤ bq) (q : Value) (j : J) (qb : Nat) (hcell : w.cell? ⟨qb, 0, none⟩ = some q) (hq : Gives (OffD h bq V) w q j) (hn : l.length + 1 ≤ 4294967296) :
    Calls Tryz.prog 83 #[.pointer (some ⟨bq, 0, none⟩), .slice (some ⟨qb, 0, none⟩) 1 1] w fun r w' => r = .returned (.pointer (some ⟨bq, 0, none⟩)) ∧ ∃ U, Box w' bq #[U, .pointer none, .pointer none, .string ⟨#[]⟩] 165 ∧ Cn h (OffD h bq U) w' U (l ++ [j]) ∧ U.ownBlock ≠ some bq ∧ w.heap.size ≤ w'.heap.size ∧ ∀ w0, Ext w0 w → w0.heap.size ≤ h → Ext w0 w' := by
  have hbl := hbq.lt
  obtain ⟨vs, hO, hG, hvl⟩ := hB.len
  refine (disQuery_any (S := OffD h bq V) w bq h V vs (.pointer none) (.pointer none) (.string ⟨#[]⟩) l [j] hbq hO (by omega) hne (fun q hq => ⟨hq.2.1, hq.2.2⟩) hG qb 0 1 1 [q] rfl (by omega) (by omega) (fun i u hu => ?_) (GivesL.one hq)).mono ?_
  · cases i with
    | zero => simp at hu; subst hu; exact hcell
    | succ i => simp at hu
  · rintro r w' ⟨rfl, g, cap, hO3, -, hb3, hL2, hsz, hk3, hx3⟩
    have hkp : Keeps (OffD h bq V) w w' := fun q hq hl => hk3 q ⟨hq.2.1, hq.2.2⟩ hl
    have hgb : g ≠ bq := by
      rcases hL2 with hl | hl
      · intro e; subst e; exact hne hl
      · omega
    have hkeep : ∀ q, OffD h bq V q → q < w.heap.size → OffD h bq (.slice (some ⟨g, 0, none⟩) (vs.length + 1) cap) q := fun q hq hl => ⟨hq.1, hq.2.1, fun e => by
      simp only [Value.ownBlock, Option.some.injEq] at e
      subst e
      rcases hL2 with hl2 | hl2
      · exact hq.2.2 hl2
      · omega⟩
    exact ⟨rfl, _, hb3, ⟨_, hO3, (GivesL.two hG hq).keep hkeep hkp hsz⟩, by simp only [Value.ownBlock]; exact someNe hgb, hsz, fun w0 x hw => hx3 w0 x hw (by omega)⟩
end Go.Proofs.YtfngaoicoecncaaGreatDoor

namespace Go.Proofs.YtfngaoicoecncaaGreatDoor
open Go.RowKit

set_option maxRecDepth 20000 in
set_option maxHeartbeats 4000000 in
theorem disMax_src {S : Nat → Prop} (w : World) (bq : Nat) (ua : Option Addr) (un uc : Nat) (u : List J) (hu : QsAt S w ua un uc u) (hup : 0 < un) (hub : un ≤ 2147483647) (v1 : Option Addr) (o1 : Option T) (h1 : FN S w v1 o1) (v2 : Option Addr) (o2 : Option T) (h2 : FN S w v2 o2) (v3 : ByteArray) (o3 : Option T) (h3 : v3 = fT o3) (hbq : Box w bq #[.slice ua un uc, .pointer v1, .pointer v2, .string v3] 165) :
    Calls Tryz.prog 184 #[.pointer (some ⟨bq, 0, none⟩)] w fun r w' => ∃ v, r = .returned (.tuple #[v, .nilIface]) ∧ JAt (fun b => w.heap.size ≤ b) w' v (jMap [(s_dis_max, jMap (jN s_tie_breaker (o2) ++ jN s_boost (o1) ++ jT s_name (o3) ++ [(s_queries, J.list u)]))]) ∧ Ext w w' := by
  have tok0 := trivial
  have hblt := hbq.lt
  have H1 := Lib.hid h1
  have H2 := Lib.hid h2
  have H3 := Lib.hid h3
  clear h1 h2 h3
  have Hu := Lib.hid hu
  clear hu
  go_enter Tryz.func184, Tryz.ntmps184
  go_upto_if 20 with (first
    | (at_mapUpdate; have _t := tok0; refine wp_put _ rfl _ _ _ 109 rfl 20 Tryz.underlying109 w.heap.size [] rfl ((MapAt.at (by simp)).alloc _) (by simp [maxLen]) s_dis_max rfl (by decide) _ rfl ?_; intro w1 hm hg; clear tok0
       have hx1 : Ext w w1 := ext_put (ext_alloc (ext_alloc (ext_refl _) _) _) hg (by omega)
       have hl0_1 := hm
       have hs0_1 := hl0_1.lt
       have hl1_1 : MapAt w1 (w.heap.size + 1) [] := (MapAt.at (by simp)).grown hg (someNe (by omega))
       have hs1_1 := hl1_1.lt
       have hb1 := hbq.ext hx1
       have hc0 := hb1.cell 0 _ rfl
       have hc1 := hb1.cell 1 _ rfl
       have hc2 := hb1.cell 2 _ rfl
       have hc3 := hb1.cell 3 _ rfl
       clear hg hm)
    | fail)
  have hx0 : Ext w w1 := hx1
  have hm0 : MapAt w1 w.heap.size [(s_dis_max, .iface 109 (.map (some (w.heap.size + 1))))] := hl0_1
  have hm1 : MapAt w1 (w.heap.size + 1) [] := hl1_1
  have hz0 := hm0.lt
  have hz1 := hm1.lt
  have hne0 : w.heap.size ≠ (w.heap.size + 1) := by omega
  have hw1 : w.heap.size ≤ (w.heap.size + 1) := by have := hx0.sz; omega
  have hp0 : PJ (fun b => w.heap.size + 1 < b) w1 [] (([] : List (ByteArray × J))) := PJ.nil _ _
  go_cut [] (fun wc => Ext w wc ∧ MapAt wc w.heap.size [(s_dis_max, .iface 109 (.map (some (w.heap.size + 1))))] ∧ ∃ rp, rp.length ≤ 1 ∧ MapAt wc (w.heap.size + 1) rp ∧ PJ (fun b => w.heap.size + 1 < b) wc rp (jN s_tie_breaker (o2)))
  case first =>
    cases o2 with
    | none =>
      have hv : v2 = none := H2.out
      subst hv
      go_wp2_with fail
      go_meet
      case rel =>
        refine ⟨hx0, hm0, [], by simp, hm1, ?_⟩
        rw [show jN s_tie_breaker none = [] from rfl]
        exact hp0
    | some t2 =>
      obtain ⟨cc, hv, hSc, hcc⟩ := H2.out
      subst hv
      have hcc := hx0.cell hcc
      go_wp2_with (at_mapUpdate; refine wp_put _ rfl _ _ _ 109 rfl 20 Tryz.underlying109 (w.heap.size + 1) [] rfl hm1 (by simp [maxLen]) s_tie_breaker rfl (by decide) _ rfl ?_; intro wn hnn hgn)
      go_meet
      case rel =>
        have hxn := ext_put hx0 hgn (by omega)
        refine ⟨hxn, hm0.grown hgn (someNe hne0), _, ?_, hnn, ?_⟩
        · rw [List.length_append]; exact Nat.succ_le_succ (by simp)
        · rw [show jN s_tie_breaker (some t2) = [(s_tie_breaker, .num t2.num)] from rfl]
          exact PJ.snoc (hp0.keep (fun _ h _ => h) (keeps_grown hgn (fun b hb e => by simp only [Option.some.injEq] at e; omega))) (by simp only [JAt]; rfl)
  case rest =>
    obtain ⟨hxc, hm0_0, rp, hr, hnc, hpc⟩ := hcut
    have hbc := hbq.ext hxc
    have hc0 := hbc.cell 0 _ rfl
    have hc1 := hbc.cell 1 _ rfl
    have hc2 := hbc.cell 2 _ rfl
    have hc3 := hbc.cell 3 _ rfl
    go_upto_if 33 with fail
    go_cut [] (fun wc => Ext w wc ∧ MapAt wc w.heap.size [(s_dis_max, .iface 109 (.map (some (w.heap.size + 1))))] ∧ ∃ rp, rp.length ≤ 2 ∧ MapAt wc (w.heap.size + 1) rp ∧ PJ (fun b => w.heap.size + 1 < b) wc rp (jN s_tie_breaker (o2) ++ jN s_boost (o1)))
    case first =>
      cases o1 with
      | none =>
        have hv : v1 = none := H1.out
        subst hv
        go_wp2_with fail
        go_meet
        case rel =>
          refine ⟨hxc, hm0_0, rp, Nat.le_succ_of_le hr, hnc, ?_⟩
          rw [show jN s_boost none = [] from rfl, List.append_nil]
          exact hpc
      | some t1 =>
        obtain ⟨cc, hv, hSc, hcc⟩ := H1.out
        subst hv
        have hcc := hxc.cell hcc
        go_wp2_with (at_mapUpdate; refine wp_put _ rfl _ _ _ 109 rfl 20 Tryz.underlying109 (w.heap.size + 1) rp rfl hnc (Nat.lt_of_le_of_lt hr (by decide)) s_boost rfl (by decide) _ rfl ?_; intro wn hnn hgn)
        go_meet
        case rel =>
          have hxn := ext_put hxc hgn (by omega)
          refine ⟨hxn, hm0_0.grown hgn (someNe hne0), _, ?_, hnn, ?_⟩
          · rw [List.length_append]; exact Nat.succ_le_succ (by exact hr)
          · rw [show jN s_boost (some t1) = [(s_boost, .num t1.num)] from rfl]
            exact PJ.snoc (hpc.keep (fun _ h _ => h) (keeps_grown hgn (fun b hb e => by simp only [Option.some.injEq] at e; omega))) (by simp only [JAt]; rfl)
    case rest =>
      obtain ⟨hxc, hm0_1, rp, hr, hnc, hpc⟩ := hcut
      have hbc := hbq.ext hxc
      have hc0 := hbc.cell 0 _ rfl
      have hc1 := hbc.cell 1 _ rfl
      have hc2 := hbc.cell 2 _ rfl
      have hc3 := hbc.cell 3 _ rfl
      go_upto_if 46 with fail
      go_cut [] (fun wc => Ext w wc ∧ MapAt wc w.heap.size [(s_dis_max, .iface 109 (.map (some (w.heap.size + 1))))] ∧ ∃ rp, rp.length ≤ 3 ∧ MapAt wc (w.heap.size + 1) rp ∧ PJ (fun b => w.heap.size + 1 < b) wc rp (jN s_tie_breaker (o2) ++ jN s_boost (o1) ++ jT s_name (o3)))
      case first =>
        cases hE : v3.toList.isEmpty
        · have hE1 := jT_some (k := s_name) H3.out hE
          go_wp2_with (at_mapUpdate; refine wp_put _ rfl _ _ _ 109 rfl 20 Tryz.underlying109 (w.heap.size + 1) rp rfl hnc (Nat.lt_of_le_of_lt hr (by decide)) s_name rfl (by decide) _ rfl ?_; intro wn hnn hgn)
          go_meet
          case rel =>
            have hxn := ext_put hxc hgn (by omega)
            refine ⟨hxn, hm0_1.grown hgn (someNe hne0), _, ?_, hnn, ?_⟩
            · rw [List.length_append]; exact Nat.succ_le_succ (by exact hr)
            · rw [hE1]
              exact PJ.snoc (hpc.keep (fun _ h _ => h) (keeps_grown hgn (fun b hb e => by simp only [Option.some.injEq] at e; omega))) (by simp only [JAt]; rfl)
        · have hE1 := jT_none (k := s_name) H3.out hE
          go_wp2_with fail
          go_meet
          case rel =>
            refine ⟨hxc, hm0_1, rp, Nat.le_succ_of_le hr, hnc, ?_⟩
            rw [hE1, List.append_nil]
            exact hpc
      case rest =>
        obtain ⟨hxc, hm0_2, rp, hr, hnc, hpc⟩ := hcut
        have hbc := hbq.ext hxc
        have hc0 := hbc.cell 0 _ rfl
        have hc1 := hbc.cell 1 _ rfl
        have hc2 := hbc.cell 2 _ rfl
        have hc3 := hbc.cell 3 _ rfl
        go_wp2_with fail
        obtain ⟨qvs, hvl, hvc, hvm, hvcell, hvG⟩ := Hu.out.ext hxc
        have HVL := Lib.hid hvl
        have HVC := Lib.hid hvcell
        have HVG := Lib.hid hvG
        clear hvl hvcell hvG
        go_loopw [6, 58] (fun v i wr => Ext wc wr ∧ ∃ (j : Nat) (us : List Value) (vv : Value), vv = v ∧ j ≤ un ∧ i = .int .i64 j ∧ us.length = j ∧ OwnAny wr wc.heap.size vv us ∧ (∀ x ∈ us, x.oneCell' = true) ∧ JsAt (fun b => wc.heap.size ≤ b ∧ vv.ownBlock ≠ some b) wr us (u.take j)) (fun _ i _ => un - (intOf i).toNat)
        case atStart => exact ⟨ext_refl _, 0, [], _, rfl, Nat.zero_le _, rfl, rfl, ⟨rfl, .inl ⟨rfl, rfl⟩⟩, fun x hx => by simp at hx, by simp [JsAt]⟩
        case round =>
          obtain ⟨hxr, j, us, vv, hve, hj, rfl, hul, hO, h1, hV⟩ := hrel
          subst hve
          have HO := Lib.hid hO
          have HV := Lib.hid hV
          have HUL := Lib.hid hul
          have H1 := Lib.hid h1
          clear hO hV hul h1
          by_cases hlt : j < un
          case pos =>
            obtain ⟨qq, hqq⟩ := some_of_lt HVL.out hlt
            obtain ⟨jj, hjj⟩ := some_of_lt (l := u) rfl (show j < u.length by have h2 := HVG.out.1; have h3 := HVL.out; omega)
            obtain ⟨qb, qo, hqa, -, hqc⟩ := HVC.out j qq hqq
            have hqc := hxr.cell hqc
            obtain ⟨qty, qx, qf, hqe, hqm, hqm2, hqC⟩ := (HVG.out.2 j qq jj hqq hjj).ext hxr
            have HT := Lib.hid hjj
            have HQC := Lib.hid hqC
            clear hqC hjj hqq
            subst hqe hqa
            have hszr := hxr.sz
            have tokB := trivial
            go_wp2_with (first
              | ((with_reducible show Calls _ qf _ _ _); refine (HQC.out _ (Ext.keeps (by (repeat (first | exact ext_refl _ | assumption | refine ext_alloc ?_ _ | refine ext_drew ?_ | refine ext_set ?_ (by simp) _ | refine ext_trans ?_ (by assumption)))) _) (Ext.sz (by (repeat (first | exact ext_refl _ | assumption | refine ext_alloc ?_ _ | refine ext_drew ?_ | refine ext_set ?_ (by simp) _ | refine ext_trans ?_ (by assumption)))))).mono ?_; rintro r w2 ⟨pty, px, rfl, hJ, hx2⟩
                 have hx3 : Ext wr w2 := ext_trans (by (repeat (first | exact ext_refl _ | assumption | refine ext_alloc ?_ _ | refine ext_drew ?_ | refine ext_set ?_ (by simp) _ | refine ext_trans ?_ (by assumption)))) hx2
                 have hJ := hJ.to (S' := fun b => wr.heap.size ≤ b) (fun b hb _ => by (try simp at hb); omega)
                 have hxn : Ext w2 (w2.alloc (.cells #[.iface pty px] 20)) := ext_alloc (ext_refl _) _
                 have hbn : Box (w2.alloc (.cells #[.iface pty px] 20)) w2.heap.size #[.iface pty px] 20 := Box.at rfl _ _
                 have HJ := Lib.hid (hJ.ext hxn)
                 clear hJ)
              | (at_builtin; have _t := tokB; clear _t tokB; refine list_append_any _ rfl _ _ rfl wc.heap.size vv us rfl (HO.out.ext (ext_trans hx3 hxn)) w2.heap.size 0 1 [.iface pty px] (by simp) (fun u hu => by simp at hu; subst hu; rfl) rfl (fun i f hf => by
                   cases i with
                   | zero => simp at hf; subst hf; exact hbn.cell 0 _ rfl
                   | succ i => simp at hf) (by have := HUL.out; simp; omega) (by have := (ext_trans hx3 hxn).sz; omega) ?_; intro g cap w4 hown hgrow hlies hglt)
              | fail)
            have hszn := (ext_trans hx3 hxn).sz
            have hblk : ∀ k, vv.ownBlock = some k → wc.heap.size ≤ k ∧ k < wr.heap.size := fun k hk => World.ownsRow.lt HO.out k hk
            have hx5 : Ext wc w4 := ext_grown (ext_trans hxr (ext_trans hx3 hxn)) hgrow (fun k hk => (hblk k hk).1)
            have hne : ∀ b, (wc.heap.size ≤ b ∧ vv.ownBlock ≠ some b) → b < (w2.alloc (.cells #[.iface pty px] 20)).heap.size → wc.heap.size ≤ b ∧ (Value.slice (some ⟨g, 0, none⟩) (us.length + 1) cap).ownBlock ≠ some b := fun b hb hl => ⟨hb.1, fun e => by
              simp only [Value.ownBlock, Option.some.injEq] at e
              subst e
              rcases hlies with hl2 | hl2
              · exact hb.2 hl2
              · omega⟩
            have hkp : Keeps (fun b => wc.heap.size ≤ b ∧ vv.ownBlock ≠ some b) (w2.alloc (.cells #[.iface pty px] 20)) w4 := keeps_grown hgrow (fun b hb e => hb.2 e.symm)
            have hV5 := Lib.hid (JsAt.snoc (JsAt.keep hne hkp _ (HV.out.ext (ext_trans hx3 hxn))) (JAt.keep hne hkp _ (HJ.out.to (S' := fun b => wc.heap.size ≤ b ∧ vv.ownBlock ≠ some b) (fun b hb _ => ⟨by omega, fun e => by have := (hblk b e).2; omega⟩))))
            have hown2 := Lib.hid hown
            clear hown hgrow hlies hne hkp hblk
            go_roundw
            case rel =>
              refine ⟨hx5, j + 1, us ++ [.iface pty px], _, rfl, by omega, by go_num, by simp [HUL.out], by simpa using hown2.out, ?_, ?_⟩
              · intro x hx
                rcases List.mem_append.1 hx with hx | hx
                · exact H1.out x hx
                · simp at hx; subst hx; rfl
              · rw [take_snoc HT.out]
                exact hV5.out
            case measure => simp [intOf]; omega
          have hfull : u.take j = u := List.take_of_length_le (by have h2 := HVG.out.1; have h3 := HVL.out; omega)
          have hulen : u.length = us.length := by have h2 := HVG.out.1; have h3 := HVL.out; have h4 := HUL.out; omega
          have hV := HV.out
          rw [hfull] at hV
          obtain ⟨la, lc, rfl, hq1, hq2, hq3⟩ := HO.out.cells (S := fun b => wc.heap.size ≤ b) (fun b hb => (World.ownsRow.lt HO.out b hb).1)
          have hJl : JAt (fun b => wc.heap.size ≤ b) wr (.iface 107 (.slice la us.length lc)) (.list u) := by
            simp only [JAt]
            exact ⟨_, _, _, us, rfl, by have := HUL.out; omega, hulen, hq1, hq2, hq3, JsAt.keep (fun b hb _ => hb.1) (fun _ _ _ => rfl) _ hV⟩
          clear hq3 hV HO HV H1
          have hncl := hnc.lt
          go_wp2_with (at_mapUpdate; refine wp_put _ rfl _ _ _ 109 rfl 20 Tryz.underlying109 (w.heap.size + 1) rp rfl (hnc.ext hxr) (Nat.lt_of_le_of_lt hr (by decide)) s_queries rfl (by decide) _ rfl ?_; intro wn hnn hgn)
          go_ret2
          have hxn := ext_put (ext_trans hxc hxr) hgn (by omega)
          refine ⟨_, rfl, ?_, hxn⟩
          have hl1 := JAt.keep (S' := fun b => w.heap.size ≤ b) (fun b hb _ => by have := hxc.sz; have := hb; omega) (keeps_grown hgn (fun b hb e => by simp only [Option.some.injEq] at e; have := hxc.sz; omega)) _ hJl
          have hp1 := (hpc.keep (S' := (fun b => w.heap.size + 1 < b)) (fun _ h _ => h) (hxr.keeps _)).keep (S' := fun b => w.heap.size ≤ b) (fun b hb _ => by omega) (keeps_grown hgn (fun b hb e => by simp only [Option.some.injEq] at e; omega))
          exact jMap_one ((hm0_2.ext hxr).grown hgn (someNe hne0)) (Nat.le_refl _) ((PJ.snoc hp1 hl1).map hnn (by omega) (by have := hpc.len; simp only [List.length_append, List.length_cons, List.length_nil] at this ⊢; omega))
end Go.Proofs.YtfngaoicoecncaaGreatDoor

namespace Go.Proofs.YtfngaoicoecncaaGreatDoor
open Go.RowKit Go.Maps

theorem jT_none0 (k : ByteArray) : jT k none = [] := by simp [jT, fT]
theorem gives_bool {S : Nat → Prop} {w : World} {bq : Nat} {uma uxa ufa uza : Option Addr} {umn umc uxn uxc ufn ufc uzn uzc : Nat} {um ux uf uz : List J} (hum : QsAt S w uma umn umc um) (hux : QsAt S w uxa uxn uxc ux) (huf : QsAt S w ufa ufn ufc uf) (huz : QsAt S w uza uzn uzc uz) (bm : umn ≤ 4294967294) (bx : uxn ≤ 4294967294) (bf : ufn ≤ 4294967294) (bz : uzn ≤ 4294967294) (hS : S bq)
    (hbq : Box w bq #[.nilIface, .slice uma umn umc, .slice uxa uxn uxc, .slice ufa ufn ufc, .slice uza uzn uzc, .pointer none, .string ⟨#[]⟩, .pointer none, .string ⟨#[]⟩] 133) :
    Gives S w (.iface 84 (.pointer (some ⟨bq, 0, none⟩))) (jMap [(s_bool, jMap (jQ s_must um ++ jQ s_must_not ux ++ jQ s_filter uf ++ jQ s_should uz))]) := by
  refine ⟨_, _, _, rfl, fun fuel w' => mq_BoolQuery fuel _ w', fun w' => by kernel_rfl, fun w' k hs => ?_⟩
  refine (bool_src (S := S) w' bq uma umn umc um (hum.keep (fun _ h _ => h) k hs) bm uxa uxn uxc ux (hux.keep (fun _ h _ => h) k hs) bx ufa ufn ufc uf (huf.keep (fun _ h _ => h) k hs) bf uza uzn uzc uz (huz.keep (fun _ h _ => h) k hs) bz none none rfl ⟨#[]⟩ none rfl none none rfl ⟨#[]⟩ none rfl ((k bq hS hbq.lt).trans hbq)).mono ?_
  rintro r w'' ⟨v, rfl, hJ, hx⟩
  obtain ⟨vx, rfl⟩ := jMap_iface hJ
  rw [jT_none0, jT_none0, show jN s_boost none = [] from rfl, show jY s_adjust_pure_negative none = [] from rfl, List.append_nil, List.append_nil, List.append_nil, List.append_nil] at hJ
  exact ⟨_, _, rfl, hJ, hx⟩
theorem gives_dis {S : Nat → Prop} {w : World} {bq : Nat} {ua : Option Addr} {un uc : Nat} {u : List J} (hu : QsAt S w ua un uc u) (hp : 0 < un) (hb : un ≤ 2147483647) (hS : S bq)
    (hbq : Box w bq #[.slice ua un uc, .pointer none, .pointer none, .string ⟨#[]⟩] 165) :
    Gives S w (.iface 120 (.pointer (some ⟨bq, 0, none⟩))) (jMap [(s_dis_max, jMap [(s_queries, .list u)])]) := by
  refine ⟨_, _, _, rfl, fun fuel w' => mq_DisMaxQuery fuel _ w', fun w' => by kernel_rfl, fun w' k hs => ?_⟩
  refine (disMax_src (S := S) w' bq ua un uc u (hu.keep (fun _ h _ => h) k hs) hp hb none none rfl none none rfl ⟨#[]⟩ none rfl ((k bq hS hbq.lt).trans hbq)).mono ?_
  rintro r w'' ⟨v, rfl, hJ, hx⟩
  obtain ⟨vx, rfl⟩ := jMap_iface hJ
  rw [jT_none0, show jN s_tie_breaker none = [] from rfl, show jN s_boost none = [] from rfl, List.append_nil, List.append_nil, List.nil_append] at hJ
  exact ⟨_, _, rfl, hJ, hx⟩
theorem newAll_any (w : World) : Calls Tryz.prog 89 #[] w fun r w' => r = .returned (.pointer (some ⟨w.heap.size, 0, none⟩)) ∧ w' = w.alloc (.cells #[.pointer none, .string ⟨#[]⟩] 172) := by
  go_enter Tryz.func89, Tryz.ntmps89
  go_wp2_with fail
  go_ret
  exact ⟨rfl, rfl⟩
theorem newTerm_any (w : World) (f : ByteArray) (ty : TypeId) (x : Value) : Calls Tryz.prog 78 #[.string f, .iface ty x] w fun r w' => r = .returned (.pointer (some ⟨w.heap.size, 0, none⟩)) ∧ w' = w.alloc (.cells #[.string f, .iface ty x, .pointer none, .pointer none, .string ⟨#[]⟩] 159) := by
  go_enter Tryz.func78, Tryz.ntmps78
  go_wp2_with fail
  go_ret
  exact ⟨rfl, rfl⟩
theorem newExists_any (w : World) (f : ByteArray) : Calls Tryz.prog 79 #[.string f] w fun r w' => r = .returned (.pointer (some ⟨w.heap.size, 0, none⟩)) ∧ w' = w.alloc (.cells #[.string f, .string ⟨#[]⟩] 161) := by
  go_enter Tryz.func79, Tryz.ntmps79
  go_wp2_with fail
  go_ret
  exact ⟨rfl, rfl⟩
theorem newConst_any (w : World) (ty : TypeId) (x : Value) : Calls Tryz.prog 81 #[.iface ty x] w fun r w' => r = .returned (.pointer (some ⟨w.heap.size, 0, none⟩)) ∧ w' = w.alloc (.cells #[.iface ty x, .pointer none] 163) := by
  go_enter Tryz.func81, Tryz.ntmps81
  go_wp2_with fail
  go_ret
  exact ⟨rfl, rfl⟩
theorem newNested_any (w : World) (f : ByteArray) (ty : TypeId) (x : Value) : Calls Tryz.prog 88 #[.string f, .iface ty x] w fun r w' => r = .returned (.pointer (some ⟨w.heap.size, 0, none⟩)) ∧ w' = w.alloc (.cells #[.iface ty x, .string f, .string ⟨#[]⟩, .pointer none, .string ⟨#[]⟩, .pointer none, .pointer none] 170) := by
  go_enter Tryz.func88, Tryz.ntmps88
  go_wp2_with fail
  go_ret
  exact ⟨rfl, rfl⟩
theorem negBoost_any (w : World) (b : Nat) (z1 z2 : Value) (x : Nat) (hb : Box w b #[.nilIface, z1, z2, .pointer none, .pointer none] 167) : Calls Tryz.prog 87 #[.pointer (some ⟨b, 0, none⟩), .float .f64 x] w fun r w' => r = .returned (.pointer (some ⟨b, 0, none⟩)) ∧ w' = (w.setCell ⟨b, 3, none⟩ (.pointer (some ⟨w.heap.size, 0, none⟩))).alloc (.cells #[.float .f64 x] 22) := by
  have c3 := hb.cell 3 _ rfl
  have f3 := hb.free 3
  have hl := hb.lt
  go_enter Tryz.func87, Tryz.ntmps87
  go_wp2_with fail
  go_ret
  exact ⟨rfl, rfl⟩
/-- A node is made into something that gives what it stands for. -/
def Queried (r : Nd) : Prop := ∀ (S : Nat → Prop) (e : Nv) (w : World), NodeAt S w e r → Calls Tryz.prog 51 #[e.val] w fun rr w' => ∃ q, rr = .returned q ∧ Gives (fun b => w.heap.size ≤ b) w' q (jNode r) ∧ Ext w w'
theorem kidJ_some {ks : List Nd} {i : Nat} {r : Nd} (h : ks[i]? = some r) : kidJ (jNodes ks) i = jNode r := by
  unfold kidJ
  rw [jNodes_eq, List.getElem?_map, h]
  rfl
theorem kidJ_none {ks : List Nd} {i : Nat} (h : ks.length ≤ i) : kidJ (jNodes ks) i = jAll := by
  unfold kidJ
  rw [jNodes_eq, List.getElem?_map, List.getElem?_eq_none h]
  rfl
set_option maxRecDepth 20000 in
set_option maxHeartbeats 2000000 in
theorem kid_any {S : Nat → Prop} (e : Nv) (ks : List Nd) (i : Nat) (w : World) (h : NodesAt S w e.ka e.kn e.kc ks) (hk : ∀ r ∈ ks, Queried r) (_hi : i ≤ 2147483647) (hb : e.kn ≤ 2147483647) : Calls Tryz.prog 80 #[e.val, .int .i64 i] w fun r w' => ∃ q, r = .returned q ∧ Gives (fun b => w.heap.size ≤ b) w' q (kidJ (jNodes ks) i) ∧ Ext w w' := by
  obtain ⟨ek, ex, epa, epn, epc, eka, ekn, ekc⟩ := e
  simp only [Nv.val]
  simp only at h hb
  have hx0 : Ext w (w.alloc (.cells #[.int .i64 ek, .string ex, .slice epa epn epc, .slice eka ekn ekc] 41)) := ext_alloc (ext_refl _) _
  by_cases hlt : i < ekn
  · obtain ⟨r0, hr0⟩ := some_of_lt h.1 hlt
    obtain ⟨b, off, ⟨fk, fx, fpa, fpn, fpc, fka, fkn, fkc⟩, rfl, hSb, hc, hN⟩ := h.get hr0
    obtain ⟨c0, c1, c2, c3⟩ := NCells.ext hx0 hc
    have hQ := Lib.hid (fun (w1 : World) (x : Ext w w1) => hk r0 (List.mem_of_getElem? hr0) S _ w1 (NodeAt.ext x hN))
    rw [kidJ_some hr0]
    clear h hk hr0 hc hN
    go_enter Tryz.func80, Tryz.ntmps80
    go_wp2_with (first
      | (go_at_call 51; refine (hQ.out _ hx0).mono ?_; rintro r w2 ⟨q, rfl, hG, hx2⟩)
      | fail)
    go_ret
    exact ⟨q, rfl, hG.to (fun b hb _ => by simp at hb; omega), ext_trans hx0 hx2⟩
  · rw [kidJ_none (by have := h.1; omega)]
    clear h hk
    go_enter Tryz.func80, Tryz.ntmps80
    go_wp2_with (first
      | (go_at_call 89; refine (newAll_any _).mono ?_; rintro r w2 ⟨rfl, rfl⟩)
      | fail)
    go_ret
    exact ⟨_, rfl, gives_all (S := fun b => w.heap.size ≤ b) (by simp) (Box.at (by simp) _ _), ext_alloc hx0 _⟩
theorem inPlace_room {α : Type} (ps : List Int) (p : Int) (l : List α) (j : Nat) : (inPlace ps p 0 (l.take j)).length ≤ j := by
  have h1 := inPlace_len ps p (l.take j) 0
  rw [List.length_take] at h1
  omega
set_option maxRecDepth 20000 in
set_option maxHeartbeats 8000000 in
theorem query_term {_S : Nat → Prop} (ex : ByteArray) (epa : Option Addr) (epn epc : Nat) (eka : Option Addr) (ekn ekc : Nat) (_ps : List Int) (_ks : List Nd) (w : World) (hf : ex.size ≤ maxLen) :
    Calls Tryz.prog 51 #[(⟨1, ex, epa, epn, epc, eka, ekn, ekc⟩ : Nv).val] w fun rr w' => ∃ q, rr = .returned q ∧ Gives (fun b => w.heap.size ≤ b) w' q (jMap [(s_term, jMap [(ex, .str ex)])]) ∧ Ext w w' := by
  have hx0 : Ext w (w.alloc (.cells #[.int .i64 1, .string ex, .slice epa epn epc, .slice eka ekn ekc] 41)) := ext_alloc (ext_refl _) _
  have hb0 : Box (w.alloc (.cells #[.int .i64 1, .string ex, .slice epa epn epc, .slice eka ekn ekc] 41)) w.heap.size #[.int .i64 1, .string ex, .slice epa epn epc, .slice eka ekn ekc] 41 := Box.at rfl _ _
  simp only [Nv.val]
  go_enter Tryz.func51, Tryz.ntmps51
  go_wp2_with (first
    | (go_at_call 78; refine (newTerm_any _ _ _ _).mono ?_; rintro r w2 ⟨rfl, rfl⟩)
    | fail)
  go_ret
  exact ⟨_, rfl, gives_term (S := fun b => w.heap.size ≤ b) hf (by simp) (Box.at (by simp) _ _), ext_alloc hx0 _⟩
set_option maxRecDepth 20000 in
set_option maxHeartbeats 8000000 in
theorem query_exists {_S : Nat → Prop} (ex : ByteArray) (epa : Option Addr) (epn epc : Nat) (eka : Option Addr) (ekn ekc : Nat) (_ps : List Int) (_ks : List Nd) (w : World) :
    Calls Tryz.prog 51 #[(⟨2, ex, epa, epn, epc, eka, ekn, ekc⟩ : Nv).val] w fun rr w' => ∃ q, rr = .returned q ∧ Gives (fun b => w.heap.size ≤ b) w' q (jMap [(s_exists, jMap [(s_field, .str ex)])]) ∧ Ext w w' := by
  have hx0 : Ext w (w.alloc (.cells #[.int .i64 2, .string ex, .slice epa epn epc, .slice eka ekn ekc] 41)) := ext_alloc (ext_refl _) _
  have hb0 : Box (w.alloc (.cells #[.int .i64 2, .string ex, .slice epa epn epc, .slice eka ekn ekc] 41)) w.heap.size #[.int .i64 2, .string ex, .slice epa epn epc, .slice eka ekn ekc] 41 := Box.at rfl _ _
  simp only [Nv.val]
  go_enter Tryz.func51, Tryz.ntmps51
  go_wp2_with (first
    | (go_at_call 79; refine (newExists_any _ _).mono ?_; rintro r w2 ⟨rfl, rfl⟩)
    | fail)
  go_ret
  exact ⟨_, rfl, gives_exists (S := fun b => w.heap.size ≤ b) (by simp) (Box.at (by simp) _ _), ext_alloc hx0 _⟩
set_option maxRecDepth 20000 in
set_option maxHeartbeats 8000000 in
theorem query_all {_S : Nat → Prop} (ex : ByteArray) (epa : Option Addr) (epn epc : Nat) (eka : Option Addr) (ekn ekc : Nat) (_ps : List Int) (_ks : List Nd) (w : World) (ek : Int) (h1 : ek ≠ 1) (h2 : ek ≠ 2) (h3 : ek ≠ 3) (h4 : ek ≠ 4) (h5 : ek ≠ 5) (h6 : ek ≠ 6) (h7 : ek ≠ 7) :
    Calls Tryz.prog 51 #[(⟨ek, ex, epa, epn, epc, eka, ekn, ekc⟩ : Nv).val] w fun rr w' => ∃ q, rr = .returned q ∧ Gives (fun b => w.heap.size ≤ b) w' q (jAll) ∧ Ext w w' := by
  have hx0 : Ext w (w.alloc (.cells #[.int .i64 ek, .string ex, .slice epa epn epc, .slice eka ekn ekc] 41)) := ext_alloc (ext_refl _) _
  have hb0 : Box (w.alloc (.cells #[.int .i64 ek, .string ex, .slice epa epn epc, .slice eka ekn ekc] 41)) w.heap.size #[.int .i64 ek, .string ex, .slice epa epn epc, .slice eka ekn ekc] 41 := Box.at rfl _ _
  simp only [Nv.val]
  go_enter Tryz.func51, Tryz.ntmps51
  go_wp2_with (first
    | (go_at_call 89; refine (newAll_any _).mono ?_; rintro r w2 ⟨rfl, rfl⟩)
    | fail)
  go_ret
  exact ⟨_, rfl, gives_all (S := fun b => w.heap.size ≤ b) (by simp) (Box.at (by simp) _ _), ext_alloc hx0 _⟩
set_option maxRecDepth 20000 in
set_option maxHeartbeats 8000000 in
theorem query_const {S : Nat → Prop} (ex : ByteArray) (epa : Option Addr) (epn epc : Nat) (eka : Option Addr) (ekn ekc : Nat) (_ps : List Int) (ks : List Nd) (w : World) (hK : NodesAt S w eka ekn ekc ks) (hk : ∀ r ∈ ks, Queried r) (hkn : ekn ≤ 2147483647) :
    Calls Tryz.prog 51 #[(⟨4, ex, epa, epn, epc, eka, ekn, ekc⟩ : Nv).val] w fun rr w' => ∃ q, rr = .returned q ∧ Gives (fun b => w.heap.size ≤ b) w' q (jMap [(s_constant_score, jMap [(s_filter, kidJ (jNodes ks) 0)])]) ∧ Ext w w' := by
  have hx0 : Ext w (w.alloc (.cells #[.int .i64 4, .string ex, .slice epa epn epc, .slice eka ekn ekc] 41)) := ext_alloc (ext_refl _) _
  have hb0 : Box (w.alloc (.cells #[.int .i64 4, .string ex, .slice epa epn epc, .slice eka ekn ekc] 41)) w.heap.size #[.int .i64 4, .string ex, .slice epa epn epc, .slice eka ekn ekc] 41 := Box.at rfl _ _
  have hkid0 := Lib.hid fun (w1 : World) (x : Ext w w1) => kid_any (⟨4, ex, epa, epn, epc, eka, ekn, ekc⟩ : Nv) ks 0 w1 (hK.ext x) hk (by omega) hkn
  clear hK hk
  simp only [Nv.val]
  simp only [Nv.val] at hkid0
  go_enter Tryz.func51, Tryz.ntmps51
  go_wp2_with (first
    | (go_at_call 80; refine (hkid0.out _ hx0).mono ?_; rintro r w2 ⟨q, rfl, hG, hx2⟩
       obtain ⟨qty, qx, qf, rfl, hq1, hq2, hq3⟩ := id hG
       clear hq1 hq2 hq3)
    | (go_at_call 81; refine (newConst_any _ _ _).mono ?_; rintro r w3 ⟨rfl, rfl⟩)
    | fail)
  go_ret
  have hs2 := hx2.sz
  simp at hs2
  exact ⟨_, rfl, gives_const (S := fun b => w.heap.size ≤ b) (Gives.ext (hG.to (fun b hb _ => by simp at hb; omega)) (ext_alloc (ext_refl w2) _)) (by omega) (Box.at rfl _ _), ext_alloc (ext_trans hx0 hx2) _⟩
set_option maxRecDepth 20000 in
set_option maxHeartbeats 8000000 in
theorem query_nested {S : Nat → Prop} (ex : ByteArray) (epa : Option Addr) (epn epc : Nat) (eka : Option Addr) (ekn ekc : Nat) (_ps : List Int) (ks : List Nd) (w : World) (hK : NodesAt S w eka ekn ekc ks) (hk : ∀ r ∈ ks, Queried r) (hkn : ekn ≤ 2147483647) :
    Calls Tryz.prog 51 #[(⟨7, ex, epa, epn, epc, eka, ekn, ekc⟩ : Nv).val] w fun rr w' => ∃ q, rr = .returned q ∧ Gives (fun b => w.heap.size ≤ b) w' q (jMap [(s_nested, jMap [(s_query, kidJ (jNodes ks) 0), (s_path, .str ex)])]) ∧ Ext w w' := by
  have hx0 : Ext w (w.alloc (.cells #[.int .i64 7, .string ex, .slice epa epn epc, .slice eka ekn ekc] 41)) := ext_alloc (ext_refl _) _
  have hb0 : Box (w.alloc (.cells #[.int .i64 7, .string ex, .slice epa epn epc, .slice eka ekn ekc] 41)) w.heap.size #[.int .i64 7, .string ex, .slice epa epn epc, .slice eka ekn ekc] 41 := Box.at rfl _ _
  have hkid0 := Lib.hid fun (w1 : World) (x : Ext w w1) => kid_any (⟨7, ex, epa, epn, epc, eka, ekn, ekc⟩ : Nv) ks 0 w1 (hK.ext x) hk (by omega) hkn
  clear hK hk
  simp only [Nv.val]
  simp only [Nv.val] at hkid0
  go_enter Tryz.func51, Tryz.ntmps51
  go_upto_region 37 with fail
  generalize hWW : (w.alloc (.cells #[.int .i64 7, .string ex, .slice epa epn epc, .slice eka ekn ekc] 41)) = w0 at hx0 hb0 ⊢
  clear hWW
  refine wp_region_order (fun (w' : World) => w'.cell? ⟨w.heap.size, 0, none⟩ = some (.int .i64 7) ∧ w'.cell? ⟨w.heap.size, 1, none⟩ = some (.string ex) ∧ w'.cell? ⟨w.heap.size, 2, none⟩ = some (.slice epa epn epc) ∧ w'.cell? ⟨w.heap.size, 3, none⟩ = some (.slice eka ekn ekc)) [0, 1, 2, 5] [0, 1, 2, 3, 4, 5, 6] (by kernel_rfl) (by kernel_rfl) (fun d _ _ _ _ h => by cases d <;> exact h) (by kernel_rfl) ?_
  have hS : (fun (w' : World) => w'.cell? ⟨w.heap.size, 0, none⟩ = some (.int .i64 7) ∧ w'.cell? ⟨w.heap.size, 1, none⟩ = some (.string ex) ∧ w'.cell? ⟨w.heap.size, 2, none⟩ = some (.slice epa epn epc) ∧ w'.cell? ⟨w.heap.size, 3, none⟩ = some (.slice eka ekn ekc)) w0.drew := ⟨hb0.drew.cell 0 _ rfl, hb0.drew.cell 1 _ rfl, hb0.drew.cell 2 _ rfl, hb0.drew.cell 3 _ rfl⟩
  (apply ord_held rfl rfl (by assumption) rfl; (focus ((intro w' hS'); go_simp; (try with_reducible rfl))); (try simp only [Act.put, List.setIfInBounds_toArray, List.set_cons_zero, List.set_cons_succ]))
  (apply ord_held rfl rfl (by assumption) rfl; (focus ((intro w' hS'); go_simp; (try with_reducible rfl))); (try simp only [Act.put, List.setIfInBounds_toArray, List.set_cons_zero, List.set_cons_succ]))
  (apply ord_held rfl rfl (by assumption) rfl; (focus ((intro w' hS'); go_simp; (try with_reducible rfl))); (try simp only [Act.put, List.setIfInBounds_toArray, List.set_cons_zero, List.set_cons_succ]))
  (apply ord_loud rfl rfl rfl; intro K hK; go_simp)
  refine (hkid0.out _ (ext_drew hx0)).mono ?_
  rintro r w2 ⟨q, rfl, hG, hx2⟩
  obtain ⟨qty, qx, qf, rfl, hq1, hq2, hq3⟩ := id hG
  clear hq1 hq2 hq3
  have hb2 := hb0.drew.ext hx2
  have hS2 : (fun (w' : World) => w'.cell? ⟨w.heap.size, 0, none⟩ = some (.int .i64 7) ∧ w'.cell? ⟨w.heap.size, 1, none⟩ = some (.string ex) ∧ w'.cell? ⟨w.heap.size, 2, none⟩ = some (.slice epa epn epc) ∧ w'.cell? ⟨w.heap.size, 3, none⟩ = some (.slice eka ekn ekc)) w2 := ⟨hb2.cell 0 _ rfl, hb2.cell 1 _ rfl, hb2.cell 2 _ rfl, hb2.cell 3 _ rfl⟩
  refine hK _ _ (fun _ => hS2) ?_
  clear hK K
  (try simp only [Act.put, List.setIfInBounds_toArray, List.set_cons_zero, List.set_cons_succ])
  (apply ord_loud rfl rfl rfl; intro K hK; go_simp)
  refine (newNested_any _ _ _ _).mono ?_
  rintro r w3 ⟨rfl, rfl⟩
  have hb3 : Box (w2.alloc (.cells #[.iface qty qx, .string ex, .string ⟨#[]⟩, .pointer none, .string ⟨#[]⟩, .pointer none, .pointer none] 170)) w.heap.size #[.int .i64 7, .string ex, .slice epa epn epc, .slice eka ekn ekc] 41 := hb2.alloc _
  have hS3 : (fun (w' : World) => w'.cell? ⟨w.heap.size, 0, none⟩ = some (.int .i64 7) ∧ w'.cell? ⟨w.heap.size, 1, none⟩ = some (.string ex) ∧ w'.cell? ⟨w.heap.size, 2, none⟩ = some (.slice epa epn epc) ∧ w'.cell? ⟨w.heap.size, 3, none⟩ = some (.slice eka ekn ekc)) (w2.alloc (.cells #[.iface qty qx, .string ex, .string ⟨#[]⟩, .pointer none, .string ⟨#[]⟩, .pointer none, .pointer none] 170)) := ⟨hb3.cell 0 _ rfl, hb3.cell 1 _ rfl, hb3.cell 2 _ rfl, hb3.cell 3 _ rfl⟩
  refine hK _ _ (fun _ => hS3) ?_
  clear hK K
  (try simp only [Act.put, List.setIfInBounds_toArray, List.set_cons_zero, List.set_cons_succ])
  (apply ord_held rfl rfl (by assumption) rfl; (focus ((intro w' hS'); go_simp; (try with_reducible rfl))); (try simp only [Act.put, List.setIfInBounds_toArray, List.set_cons_zero, List.set_cons_succ]))
  (apply ord_last rfl rfl rfl (by kernel_rfl); intro K hK; go_simp; refine hK _ _ ?_; clear hK K; (try simp only [Act.put, List.setIfInBounds_toArray, List.set_cons_zero, List.set_cons_succ]))
  refine ord_end ?_
  go_wp2_with fail
  go_ret
  have hs1 := hx0.sz
  have hs2 := hx2.sz
  have hs1 : w.heap.size ≤ w0.drew.heap.size := hs1
  exact ⟨_, rfl, gives_nested (S := fun b => w.heap.size ≤ b) (Gives.ext (hG.to (fun b hb _ => Nat.le_trans hs1 hb)) (ext_alloc (ext_refl w2) _)) (by omega) (Box.at rfl _ _), ext_alloc (ext_trans (ext_drew hx0) hx2) _⟩
set_option maxRecDepth 20000 in
set_option maxHeartbeats 8000000 in
theorem query_boosting {S : Nat → Prop} (ex : ByteArray) (epa : Option Addr) (epn epc : Nat) (eka : Option Addr) (ekn ekc : Nat) (_ps : List Int) (ks : List Nd) (w : World) (hK : NodesAt S w eka ekn ekc ks) (hk : ∀ r ∈ ks, Queried r) (hkn : ekn ≤ 2147483647) :
    Calls Tryz.prog 51 #[(⟨6, ex, epa, epn, epc, eka, ekn, ekc⟩ : Nv).val] w fun rr w' => ∃ q, rr = .returned q ∧ Gives (fun b => w.heap.size ≤ b) w' q (jMap [(s_boosting, jMap [(s_positive, kidJ (jNodes ks) 0), (s_negative, kidJ (jNodes ks) 1), (s_negative_boost, .num halfB)])]) ∧ Ext w w' := by
  have hx0 : Ext w (w.alloc (.cells #[.int .i64 6, .string ex, .slice epa epn epc, .slice eka ekn ekc] 41)) := ext_alloc (ext_refl _) _
  have hb0 : Box (w.alloc (.cells #[.int .i64 6, .string ex, .slice epa epn epc, .slice eka ekn ekc] 41)) w.heap.size #[.int .i64 6, .string ex, .slice epa epn epc, .slice eka ekn ekc] 41 := Box.at rfl _ _
  have hkid0 := Lib.hid fun (w1 : World) (x : Ext w w1) => kid_any (⟨6, ex, epa, epn, epc, eka, ekn, ekc⟩ : Nv) ks 0 w1 (hK.ext x) hk (by omega) hkn
  have hkid1 := Lib.hid fun (w1 : World) (x : Ext w w1) => kid_any (⟨6, ex, epa, epn, epc, eka, ekn, ekc⟩ : Nv) ks 1 w1 (hK.ext x) hk (by omega) hkn
  clear hK hk
  simp only [Nv.val]
  simp only [Nv.val] at hkid0 hkid1
  go_enter Tryz.func51, Tryz.ntmps51
  go_upto_region 35 with fail
  generalize hWW : (w.alloc (.cells #[.int .i64 6, .string ex, .slice epa epn epc, .slice eka ekn ekc] 41)) = w0 at hx0 hb0 ⊢
  clear hWW
  refine wp_region_order (fun (w' : World) => w'.cell? ⟨w.heap.size, 0, none⟩ = some (.int .i64 6) ∧ w'.cell? ⟨w.heap.size, 1, none⟩ = some (.string ex) ∧ w'.cell? ⟨w.heap.size, 2, none⟩ = some (.slice epa epn epc) ∧ w'.cell? ⟨w.heap.size, 3, none⟩ = some (.slice eka ekn ekc)) [1, 4, 8] [1, 4, 0, 2, 3, 5, 6, 7, 8, 9] (by kernel_rfl) (by kernel_rfl) (fun d _ _ _ _ h => by cases d <;> exact h) (by kernel_rfl) ?_
  have hS : (fun (w' : World) => w'.cell? ⟨w.heap.size, 0, none⟩ = some (.int .i64 6) ∧ w'.cell? ⟨w.heap.size, 1, none⟩ = some (.string ex) ∧ w'.cell? ⟨w.heap.size, 2, none⟩ = some (.slice epa epn epc) ∧ w'.cell? ⟨w.heap.size, 3, none⟩ = some (.slice eka ekn ekc)) w0.drew := ⟨hb0.drew.cell 0 _ rfl, hb0.drew.cell 1 _ rfl, hb0.drew.cell 2 _ rfl, hb0.drew.cell 3 _ rfl⟩
  (apply ord_held rfl rfl (by assumption) rfl; (focus ((intro w' hS'); go_simp; (try with_reducible rfl))); (try simp only [Act.put, List.setIfInBounds_toArray, List.set_cons_zero, List.set_cons_succ]))
  (apply ord_held rfl rfl (by assumption) rfl; (focus ((intro w' hS'); go_simp; (try with_reducible rfl))); (try simp only [Act.put, List.setIfInBounds_toArray, List.set_cons_zero, List.set_cons_succ]))
  (apply ord_loud rfl rfl rfl; intro K hK; go_simp)
  refine (newBoosting_any _).mono ?_
  rintro r w1 ⟨rfl, hw1⟩
  have hx1 : Ext w w1 := by rw [hw1]; exact ext_alloc (ext_drew hx0) _
  have hl0 : w.heap.size < w0.drew.heap.size := hb0.drew.lt
  have hn1 : Box w1 w.heap.size #[.int .i64 6, .string ex, .slice epa epn epc, .slice eka ekn ekc] 41 := by rw [hw1]; exact hb0.drew.alloc _
  have hq1 : Box w1 w0.drew.heap.size #[.nilIface, .nilIface, .nilIface, .pointer none, .pointer none] 167 := by rw [hw1]; exact Box.at rfl _ _
  generalize w0.drew.heap.size = bq at hl0 hq1 ⊢
  have hS1 : (fun (w' : World) => w'.cell? ⟨w.heap.size, 0, none⟩ = some (.int .i64 6) ∧ w'.cell? ⟨w.heap.size, 1, none⟩ = some (.string ex) ∧ w'.cell? ⟨w.heap.size, 2, none⟩ = some (.slice epa epn epc) ∧ w'.cell? ⟨w.heap.size, 3, none⟩ = some (.slice eka ekn ekc)) w1 := ⟨hn1.cell 0 _ rfl, hn1.cell 1 _ rfl, hn1.cell 2 _ rfl, hn1.cell 3 _ rfl⟩
  refine hK _ _ (fun _ => hS1) ?_
  clear hK K hw1 hS
  (try simp only [Act.put, List.setIfInBounds_toArray, List.set_cons_zero, List.set_cons_succ])
  (apply ord_loud rfl rfl rfl; intro K hK; go_simp)
  refine (hkid0.out _ hx1).mono ?_
  rintro r w2 ⟨q, rfl, hG, hx2⟩
  obtain ⟨qty, qx, qf, rfl, hy1, hy2, hy3⟩ := id hG
  clear hy1 hy2 hy3
  have hql1 := hq1.lt
  have hn2 := hn1.ext hx2
  have hq2 := hq1.ext hx2
  have hs1 := hx1.sz
  have hG2 := Lib.hid (hG.to (S' := fun b => w.heap.size ≤ b ∧ b ≠ bq) (fun b hb _ => by have hb : w1.heap.size ≤ b := hb; omega))
  have hx2w := ext_trans hx1 hx2
  have hS2 : (fun (w' : World) => w'.cell? ⟨w.heap.size, 0, none⟩ = some (.int .i64 6) ∧ w'.cell? ⟨w.heap.size, 1, none⟩ = some (.string ex) ∧ w'.cell? ⟨w.heap.size, 2, none⟩ = some (.slice epa epn epc) ∧ w'.cell? ⟨w.heap.size, 3, none⟩ = some (.slice eka ekn ekc)) w2 := ⟨hn2.cell 0 _ rfl, hn2.cell 1 _ rfl, hn2.cell 2 _ rfl, hn2.cell 3 _ rfl⟩
  refine hK _ _ (fun _ => hS2) ?_
  clear hK K hG hS1
  (try simp only [Act.put, List.setIfInBounds_toArray, List.set_cons_zero, List.set_cons_succ])
  (apply ord_loud rfl rfl rfl; intro K hK; go_simp)
  refine (positive_any w2 bq _ _ hq2 qty qx).mono ?_
  rintro r w3 ⟨rfl, hw3⟩
  have hk3 : Keeps (fun b => b ≠ bq) w2 w3 := by rw [hw3]; exact fun q hq _ => Below.heap_setCell _ _ _ _ hq
  have hx3 : Ext w w3 := by rw [hw3]; exact ext_set hx2w (by simp only; omega) _
  have hsz3 : w2.heap.size = w3.heap.size := by rw [hw3]; simp
  have hn3 : Box w3 w.heap.size #[.int .i64 6, .string ex, .slice epa epn epc, .slice eka ekn ekc] 41 := (hk3 _ (by omega) hn2.lt).trans hn2
  have hq3 : Box w3 bq #[.nilIface, .iface qty qx, .nilIface, .pointer none, .pointer none] 167 := by rw [hw3]; exact hq2.set 1 _
  have hG3 := Lib.hid (Gives.keep hG2.out (fun _ h _ => h) (fun b hb hl => hk3 b hb.2 hl) (by omega))
  have hS3 : (fun (w' : World) => w'.cell? ⟨w.heap.size, 0, none⟩ = some (.int .i64 6) ∧ w'.cell? ⟨w.heap.size, 1, none⟩ = some (.string ex) ∧ w'.cell? ⟨w.heap.size, 2, none⟩ = some (.slice epa epn epc) ∧ w'.cell? ⟨w.heap.size, 3, none⟩ = some (.slice eka ekn ekc)) w3 := ⟨hn3.cell 0 _ rfl, hn3.cell 1 _ rfl, hn3.cell 2 _ rfl, hn3.cell 3 _ rfl⟩
  refine hK _ _ (fun _ => hS3) ?_
  clear hK K hG2 hw3 hS2
  (try simp only [Act.put, List.setIfInBounds_toArray, List.set_cons_zero, List.set_cons_succ])
  (apply ord_loud rfl rfl rfl; intro K hK; go_simp)
  refine (hkid1.out _ hx3).mono ?_
  rintro r w4 ⟨p, rfl, hP, hx4⟩
  obtain ⟨pty, px, pf, rfl, hy1, hy2, hy3⟩ := id hP
  clear hy1 hy2 hy3
  have hql3 := hq3.lt
  have hn4 := hn3.ext hx4
  have hq4 := hq3.ext hx4
  have hs3 := hx3.sz
  have hG4 := Lib.hid (Gives.ext hG3.out hx4)
  have hP4 := Lib.hid (hP.to (S' := fun b => w.heap.size ≤ b ∧ b ≠ bq) (fun b hb _ => by have hb : w3.heap.size ≤ b := hb; omega))
  have hx4w := ext_trans hx3 hx4
  have hS4 : (fun (w' : World) => w'.cell? ⟨w.heap.size, 0, none⟩ = some (.int .i64 6) ∧ w'.cell? ⟨w.heap.size, 1, none⟩ = some (.string ex) ∧ w'.cell? ⟨w.heap.size, 2, none⟩ = some (.slice epa epn epc) ∧ w'.cell? ⟨w.heap.size, 3, none⟩ = some (.slice eka ekn ekc)) w4 := ⟨hn4.cell 0 _ rfl, hn4.cell 1 _ rfl, hn4.cell 2 _ rfl, hn4.cell 3 _ rfl⟩
  refine hK _ _ (fun _ => hS4) ?_
  clear hK K hP hG3 hS3
  (try simp only [Act.put, List.setIfInBounds_toArray, List.set_cons_zero, List.set_cons_succ])
  (apply ord_loud rfl rfl rfl; intro K hK; go_simp)
  refine (negative_any w4 bq _ _ hq4 pty px).mono ?_
  rintro r w5 ⟨rfl, hw5⟩
  have hk5 : Keeps (fun b => b ≠ bq) w4 w5 := by rw [hw5]; exact fun q hq _ => Below.heap_setCell _ _ _ _ hq
  have hx5 : Ext w w5 := by rw [hw5]; exact ext_set hx4w (by simp only; omega) _
  have hsz5 : w4.heap.size = w5.heap.size := by rw [hw5]; simp
  have hn5 : Box w5 w.heap.size #[.int .i64 6, .string ex, .slice epa epn epc, .slice eka ekn ekc] 41 := (hk5 _ (by omega) hn4.lt).trans hn4
  have hq5 : Box w5 bq #[.nilIface, .iface qty qx, .iface pty px, .pointer none, .pointer none] 167 := by rw [hw5]; exact hq4.set 2 _
  have hG5 := Lib.hid (Gives.keep hG4.out (fun _ h _ => h) (fun b hb hl => hk5 b hb.2 hl) (by omega))
  have hP5 := Lib.hid (Gives.keep hP4.out (fun _ h _ => h) (fun b hb hl => hk5 b hb.2 hl) (by omega))
  have hS5 : (fun (w' : World) => w'.cell? ⟨w.heap.size, 0, none⟩ = some (.int .i64 6) ∧ w'.cell? ⟨w.heap.size, 1, none⟩ = some (.string ex) ∧ w'.cell? ⟨w.heap.size, 2, none⟩ = some (.slice epa epn epc) ∧ w'.cell? ⟨w.heap.size, 3, none⟩ = some (.slice eka ekn ekc)) w5 := ⟨hn5.cell 0 _ rfl, hn5.cell 1 _ rfl, hn5.cell 2 _ rfl, hn5.cell 3 _ rfl⟩
  refine hK _ _ (fun _ => hS5) ?_
  clear hK K hG4 hP4 hw5 hS4
  (try simp only [Act.put, List.setIfInBounds_toArray, List.set_cons_zero, List.set_cons_succ])
  (apply ord_loud rfl rfl rfl; intro K hK; go_simp)
  refine (negBoost_any w5 bq _ _ _ hq5).mono ?_
  rintro r w6 ⟨rfl, hw6⟩
  have hql5 := hq5.lt
  have hs5 := hx5.sz
  have hk6 : Keeps (fun b => b ≠ bq) w5 w6 := by rw [hw6]; exact fun q hq hl => (Below.heap_alloc _ _ _ (by simpa using hl)).trans (Below.heap_setCell _ _ _ _ hq)
  have hx6 : Ext w w6 := by rw [hw6]; exact ext_alloc (ext_set hx5 (by simp only; omega) _) _
  have hsz6 : w5.heap.size + 1 = w6.heap.size := by rw [hw6]; simp
  have hn6 : Box w6 w.heap.size #[.int .i64 6, .string ex, .slice epa epn epc, .slice eka ekn ekc] 41 := (hk6 _ (by omega) hn5.lt).trans hn5
  have hq6 : Box w6 bq #[.nilIface, .iface qty qx, .iface pty px, .pointer (some ⟨w5.heap.size, 0, none⟩), .pointer none] 167 := by rw [hw6]; exact (hq5.set 3 _).alloc _
  have hc6 : w6.cell? ⟨w5.heap.size, 0, none⟩ = some (.float .f64 halfB) := by rw [hw6]; exact (Box.at (by simp) _ _ : Box _ w5.heap.size _ _).cell 0 _ rfl
  have hG6 := Lib.hid (Gives.keep hG5.out (S' := fun b => w.heap.size ≤ b) (fun _ h _ => h.1) (fun b hb hl => hk6 b hb.2 hl) (by omega))
  have hP6 := Lib.hid (Gives.keep hP5.out (S' := fun b => w.heap.size ≤ b) (fun _ h _ => h.1) (fun b hb hl => hk6 b hb.2 hl) (by omega))
  have hS6 : (fun (w' : World) => w'.cell? ⟨w.heap.size, 0, none⟩ = some (.int .i64 6) ∧ w'.cell? ⟨w.heap.size, 1, none⟩ = some (.string ex) ∧ w'.cell? ⟨w.heap.size, 2, none⟩ = some (.slice epa epn epc) ∧ w'.cell? ⟨w.heap.size, 3, none⟩ = some (.slice eka ekn ekc)) w6 := ⟨hn6.cell 0 _ rfl, hn6.cell 1 _ rfl, hn6.cell 2 _ rfl, hn6.cell 3 _ rfl⟩
  refine hK _ _ (fun _ => hS6) ?_
  clear hK K hG5 hP5 hw6 hS5
  (try simp only [Act.put, List.setIfInBounds_toArray, List.set_cons_zero, List.set_cons_succ])
  (apply ord_held rfl rfl (by assumption) rfl; (focus ((intro w' hS'); go_simp; (try with_reducible rfl))); (try simp only [Act.put, List.setIfInBounds_toArray, List.set_cons_zero, List.set_cons_succ]))
  (apply ord_last rfl rfl rfl (by kernel_rfl); intro K hK; go_simp; refine hK _ _ ?_; clear hK K; (try simp only [Act.put, List.setIfInBounds_toArray, List.set_cons_zero, List.set_cons_succ]))
  refine ord_end ?_
  go_wp2_with fail
  go_ret
  exact ⟨_, rfl, gives_boosting (S := fun b => w.heap.size ≤ b) hG6.out hP6.out (by omega) hc6 (by omega) hq6, hx6⟩
set_option maxRecDepth 20000 in
set_option maxHeartbeats 8000000 in
theorem query_bool {S : Nat → Prop} (ex : ByteArray) (epa : Option Addr) (epn epc : Nat) (eka : Option Addr) (ekn ekc : Nat) (ps : List Int) (ks : List Nd) (w : World) (hK : NodesAt S w eka ekn ekc ks) (hk : ∀ r ∈ ks, Queried r) (hkn : ekn ≤ 2147483647) (hP : IntsAt S w epa epn epc ps) (hpf : ∀ p ∈ ps, 0 ≤ p ∧ p ≤ 3) (_hpn : epn ≤ 2147483647) :
    Calls Tryz.prog 51 #[(⟨3, ex, epa, epn, epc, eka, ekn, ekc⟩ : Nv).val] w fun rr w' => ∃ q, rr = .returned q ∧ Gives (fun b => w.heap.size ≤ b) w' q (jMap [(s_bool, jMap (jQ s_must (inPlace ps 0 0 (jNodes ks)) ++ jQ s_must_not (inPlace ps 1 0 (jNodes ks)) ++ jQ s_filter (inPlace ps 3 0 (jNodes ks)) ++ jQ s_should (inPlace ps 2 0 (jNodes ks))))]) ∧ Ext w w' := by
  have hx0 : Ext w (w.alloc (.cells #[.int .i64 3, .string ex, .slice epa epn epc, .slice eka ekn ekc] 41)) := ext_alloc (ext_refl _) _
  have hb0 : Box (w.alloc (.cells #[.int .i64 3, .string ex, .slice epa epn epc, .slice eka ekn ekc] 41)) w.heap.size #[.int .i64 3, .string ex, .slice epa epn epc, .slice eka ekn ekc] 41 := Box.at rfl _ _
  have HK := Lib.hid fun (w1 : World) (x : Ext w w1) (i : Nat) (hi : i ≤ 2147483647) => kid_any (⟨3, ex, epa, epn, epc, eka, ekn, ekc⟩ : Nv) ks i w1 (hK.ext x) hk hi hkn
  have hjl : (jNodes ks).length = ekn := by rw [jNodes_eq, List.length_map]; exact hK.1
  have HJL := Lib.hid hjl
  have HPS := Lib.hid hP
  have HPF := Lib.hid hpf
  clear hK hk hjl hP hpf
  simp only [Nv.val]
  simp only [Nv.val] at HK
  go_enter Tryz.func51, Tryz.ntmps51
  go_wp2_with (first
    | (go_at_call 52; refine (newBool_any _).mono ?_; rintro r w1 ⟨g0, g1, g2, g3, bq, rfl, hBJ, hbl, hgb0, hgb1, hgb2, hgb3, hb1⟩
       have hx1 := hBJ.1
       have HBJ := Lib.hid hBJ
       clear hBJ
       have hbx1 := hb0.ext hx1
       have a0 := hbx1.cell 0 _ rfl
       have a1 := hbx1.cell 1 _ rfl
       have a2 := hbx1.cell 2 _ rfl
       have a3 := hbx1.cell 3 _ rfl)
    | fail)
  obtain ⟨-, k0, k1, k2, k3, d01, d02, d03, d12, d13, d23⟩ := HBJ.out
  obtain ⟨k0, q0⟩ := k0 rfl
  obtain ⟨k1, q1⟩ := k1 rfl
  obtain ⟨k2, q2⟩ := k2 rfl
  obtain ⟨k3, q3⟩ := k3 rfl
  have d01 := d01 rfl rfl
  have d02 := d02 rfl rfl
  have d03 := d03 rfl rfl
  have d12 := d12 rfl rfl
  have d13 := d13 rfl rfl
  have d23 := d23 rfl rfl
  have hsz1 : (w.alloc (.cells #[.int .i64 3, .string ex, .slice epa epn epc, .slice eka ekn ekc] 41)).heap.size = w.heap.size + 1 := by simp
  rw [hsz1] at hbl q0 q1 q2 q3
  have hlb1 := hb1.lt
  have hn0 : ∀ {g : Nat}, g < bq → (Value.slice (some ⟨g, 0, none⟩) 0 0).ownBlock ≠ some bq := fun hg => by simp only [Value.ownBlock]; exact someNe (by omega)
  have hd0 : ∀ {g g' : Nat}, g ≠ g' → Dj (.slice (some ⟨g, 0, none⟩) 0 0) (.slice (some ⟨g', 0, none⟩) 0 0) := fun hg q hq e => by
    simp only [Value.ownBlock, Option.some.injEq] at hq e
    omega
  have hc0 : ∀ {g : Nat}, Box w1 g #[] 82 → w.heap.size + 1 ≤ g → Cn (w.heap.size + 1) (OffN (w.heap.size + 1) bq (.slice (some ⟨g0, 0, none⟩) 0 0) (.slice (some ⟨g1, 0, none⟩) 0 0) (.slice (some ⟨g2, 0, none⟩) 0 0) (.slice (some ⟨g3, 0, none⟩) 0 0)) w1 (.slice (some ⟨g, 0, none⟩) 0 0) [] := fun {g} hb hg => ⟨[], ⟨rfl, .inr ⟨g, 0, #[], rfl, hg, hb, Nat.le_refl _, by simp [maxLen], rfl, rfl⟩⟩, GivesL.nil _ _⟩
  have hBS0 : BSn (w.heap.size + 1) bq w1 (.slice (some ⟨g0, 0, none⟩) 0 0) (.slice (some ⟨g1, 0, none⟩) 0 0) (.slice (some ⟨g2, 0, none⟩) 0 0) (.slice (some ⟨g3, 0, none⟩) 0 0) [] [] [] [] :=
    ⟨⟨hc0 k0 q0, hn0 hgb0⟩, ⟨hc0 k1 q1, hn0 hgb1⟩, ⟨hc0 k2 q2, hn0 hgb2⟩, ⟨hc0 k3 q3, hn0 hgb3⟩, hd0 d01, hd0 d02, hd0 d03, hd0 d12, hd0 d13, hd0 d23⟩
  clear hc0 hd0 hn0 k0 k1 k2 k3 d01 d02 d03 d12 d13 d23 hsz1 a0 a1 a2 a3
  go_loopw [31] (fun i wr => Ext (w.alloc (.cells #[.int .i64 3, .string ex, .slice epa epn epc, .slice eka ekn ekc] 41)) wr ∧ ∃ (j : Nat) (V1 V2 V3 V4 : Value), j ≤ ekn ∧ i = .int .i64 j ∧ Box wr bq #[.nilIface, V1, V2, V3, V4, .pointer none, .string ⟨#[]⟩, .pointer none, .string ⟨#[]⟩] 133 ∧ BSn (w.heap.size + 1) bq wr V1 V2 V3 V4 (inPlace ps 0 0 ((jNodes ks).take j)) (inPlace ps 1 0 ((jNodes ks).take j)) (inPlace ps 3 0 ((jNodes ks).take j)) (inPlace ps 2 0 ((jNodes ks).take j))) (fun i _ => ekn - (intOf i).toNat)
  case atStart => exact ⟨hx1, 0, _, _, _, _, Nat.zero_le _, rfl, hb1, hBS0⟩
  case round =>
    obtain ⟨hx, j, V1, V2, V3, V4, hj, rfl, hbq, hBS⟩ := hrel
    have HBS := Lib.hid hBS
    clear hBS
    have hbqs := hbq.lt
    have hbox := hb0.ext hx
    have a0 := hbox.cell 0 _ rfl
    have a1 := hbox.cell 1 _ rfl
    have a2 := hbox.cell 2 _ rfl
    have a3 := hbox.cell 3 _ rfl
    by_cases hlt : j < ekn
    · obtain ⟨jj, hjj⟩ := some_of_lt HJL.out hlt
      have hkk : kidJ (jNodes ks) j = jj := by unfold kidJ; rw [hjj]; rfl
      have hkid := HK.out
      have hkid := Lib.hid fun (w1 : World) (x : Ext w w1) => hkid w1 x j (by omega)
      rw [hkk] at hkid
      have HJ := Lib.hid hjj
      clear hjj hkk
      by_cases hpl : j < epn
      · obtain ⟨z, hz⟩ := some_of_lt HPS.out.1 hpl
        obtain ⟨b, off, rfl, -, hcz⟩ := HPS.out.2.2.2 j z hz
        have hcz := (ext_trans hx0 hx).cell hcz
        have hzz := HPF.out z (List.mem_of_getElem? hz)
        have hpz : placeAt ps j = z := by unfold placeAt; rw [hz]; rfl
        have HP := Lib.hid hpz
        clear hz hpz
        have hz4 : z = 0 ∨ z = 1 ∨ z = 2 ∨ z = 3 := by omega
        clear hzz
        rcases hz4 with rfl | rfl | rfl | rfl
        · skip
          go_wp2_with (first
            | (go_at_call 80; refine (hkid.out _ (ext_trans hx0 hx)).mono ?_; rintro r w2 ⟨q, rfl, hG, hx2⟩
               obtain ⟨qty, qx, qf, rfl, hq1, hq2, hq3⟩ := id hG
               clear hq1 hq2 hq3
               have hxn : Ext wr (w2.alloc (.cells #[.iface qty qx] 82)) := ext_alloc hx2 _
               have hbn : Box (w2.alloc (.cells #[.iface qty qx] 82)) w2.heap.size #[.iface qty qx] 82 := Box.at rfl _ _
               have hs2 := hx2.sz
               have hm := Lib.hid (boolMust_made (w.heap.size + 1) _ bq V1 V2 V3 V4 _ _ _ _ (hbq.ext hxn) (HBS.out.ext hxn) (by omega) (.iface qty qx) _ w2.heap.size (hbn.cell 0 _ rfl) (Gives.ext (hG.to (fun b hb _ => HBS.out.fresh (by omega) hbq.lt hb)) (ext_alloc (ext_refl w2) _)) (by have := inPlace_room ps 0 (jNodes ks) j; omega))
               clear hG)
            | (go_at_call 53; refine hm.out.mono ?_; rintro r w3 ⟨rfl, V, hb3, hBS3, hsz3, hx3⟩)
            | fail)
          have hx4 := hx3 _ (ext_trans hx hxn) (by simp)
          have HB3 := Lib.hid hBS3
          clear hBS3 hx3
          go_roundw
          case rel =>
            refine ⟨hx4, j + 1, V, V2, V3, V4, by omega, by go_num, hb3, ?_⟩
            have hB := HB3.out
            rw [inPlace_take ps 0 HJ.out, inPlace_take ps 1 HJ.out, inPlace_take ps 3 HJ.out, inPlace_take ps 2 HJ.out, HP.out]
            simpa using hB
          case measure => simp [intOf]; omega
        · skip
          go_wp2_with (first
            | (go_at_call 80; refine (hkid.out _ (ext_trans hx0 hx)).mono ?_; rintro r w2 ⟨q, rfl, hG, hx2⟩
               obtain ⟨qty, qx, qf, rfl, hq1, hq2, hq3⟩ := id hG
               clear hq1 hq2 hq3
               have hxn : Ext wr (w2.alloc (.cells #[.iface qty qx] 82)) := ext_alloc hx2 _
               have hbn : Box (w2.alloc (.cells #[.iface qty qx] 82)) w2.heap.size #[.iface qty qx] 82 := Box.at rfl _ _
               have hs2 := hx2.sz
               have hm := Lib.hid (boolMustNot_made (w.heap.size + 1) _ bq V1 V2 V3 V4 _ _ _ _ (hbq.ext hxn) (HBS.out.ext hxn) (by omega) (.iface qty qx) _ w2.heap.size (hbn.cell 0 _ rfl) (Gives.ext (hG.to (fun b hb _ => HBS.out.fresh (by omega) hbq.lt hb)) (ext_alloc (ext_refl w2) _)) (by have := inPlace_room ps 1 (jNodes ks) j; omega))
               clear hG)
            | (go_at_call 55; refine hm.out.mono ?_; rintro r w3 ⟨rfl, V, hb3, hBS3, hsz3, hx3⟩)
            | fail)
          have hx4 := hx3 _ (ext_trans hx hxn) (by simp)
          have HB3 := Lib.hid hBS3
          clear hBS3 hx3
          go_roundw
          case rel =>
            refine ⟨hx4, j + 1, V1, V, V3, V4, by omega, by go_num, hb3, ?_⟩
            have hB := HB3.out
            rw [inPlace_take ps 0 HJ.out, inPlace_take ps 1 HJ.out, inPlace_take ps 3 HJ.out, inPlace_take ps 2 HJ.out, HP.out]
            simpa using hB
          case measure => simp [intOf]; omega
        · skip
          go_wp2_with (first
            | (go_at_call 80; refine (hkid.out _ (ext_trans hx0 hx)).mono ?_; rintro r w2 ⟨q, rfl, hG, hx2⟩
               obtain ⟨qty, qx, qf, rfl, hq1, hq2, hq3⟩ := id hG
               clear hq1 hq2 hq3
               have hxn : Ext wr (w2.alloc (.cells #[.iface qty qx] 82)) := ext_alloc hx2 _
               have hbn : Box (w2.alloc (.cells #[.iface qty qx] 82)) w2.heap.size #[.iface qty qx] 82 := Box.at rfl _ _
               have hs2 := hx2.sz
               have hm := Lib.hid (boolShould_made (w.heap.size + 1) _ bq V1 V2 V3 V4 _ _ _ _ (hbq.ext hxn) (HBS.out.ext hxn) (by omega) (.iface qty qx) _ w2.heap.size (hbn.cell 0 _ rfl) (Gives.ext (hG.to (fun b hb _ => HBS.out.fresh (by omega) hbq.lt hb)) (ext_alloc (ext_refl w2) _)) (by have := inPlace_room ps 2 (jNodes ks) j; omega))
               clear hG)
            | (go_at_call 56; refine hm.out.mono ?_; rintro r w3 ⟨rfl, V, hb3, hBS3, hsz3, hx3⟩)
            | fail)
          have hx4 := hx3 _ (ext_trans hx hxn) (by simp)
          have HB3 := Lib.hid hBS3
          clear hBS3 hx3
          go_roundw
          case rel =>
            refine ⟨hx4, j + 1, V1, V2, V3, V, by omega, by go_num, hb3, ?_⟩
            have hB := HB3.out
            rw [inPlace_take ps 0 HJ.out, inPlace_take ps 1 HJ.out, inPlace_take ps 3 HJ.out, inPlace_take ps 2 HJ.out, HP.out]
            simpa using hB
          case measure => simp [intOf]; omega
        · skip
          go_wp2_with (first
            | (go_at_call 80; refine (hkid.out _ (ext_trans hx0 hx)).mono ?_; rintro r w2 ⟨q, rfl, hG, hx2⟩
               obtain ⟨qty, qx, qf, rfl, hq1, hq2, hq3⟩ := id hG
               clear hq1 hq2 hq3
               have hxn : Ext wr (w2.alloc (.cells #[.iface qty qx] 82)) := ext_alloc hx2 _
               have hbn : Box (w2.alloc (.cells #[.iface qty qx] 82)) w2.heap.size #[.iface qty qx] 82 := Box.at rfl _ _
               have hs2 := hx2.sz
               have hm := Lib.hid (boolFilter_made (w.heap.size + 1) _ bq V1 V2 V3 V4 _ _ _ _ (hbq.ext hxn) (HBS.out.ext hxn) (by omega) (.iface qty qx) _ w2.heap.size (hbn.cell 0 _ rfl) (Gives.ext (hG.to (fun b hb _ => HBS.out.fresh (by omega) hbq.lt hb)) (ext_alloc (ext_refl w2) _)) (by have := inPlace_room ps 3 (jNodes ks) j; omega))
               clear hG)
            | (go_at_call 57; refine hm.out.mono ?_; rintro r w3 ⟨rfl, V, hb3, hBS3, hsz3, hx3⟩)
            | fail)
          have hx4 := hx3 _ (ext_trans hx hxn) (by simp)
          have HB3 := Lib.hid hBS3
          clear hBS3 hx3
          go_roundw
          case rel =>
            refine ⟨hx4, j + 1, V1, V2, V, V4, by omega, by go_num, hb3, ?_⟩
            have hB := HB3.out
            rw [inPlace_take ps 0 HJ.out, inPlace_take ps 1 HJ.out, inPlace_take ps 3 HJ.out, inPlace_take ps 2 HJ.out, HP.out]
            simpa using hB
          case measure => simp [intOf]; omega
      · have hpz : placeAt ps j = 0 := by
          unfold placeAt
          rw [List.getElem?_eq_none (by have := HPS.out.1; omega)]
          rfl
        have HP := Lib.hid hpz
        clear hpz
        go_wp2_with (first
          | (go_at_call 80; refine (hkid.out _ (ext_trans hx0 hx)).mono ?_; rintro r w2 ⟨q, rfl, hG, hx2⟩
             obtain ⟨qty, qx, qf, rfl, hq1, hq2, hq3⟩ := id hG
             clear hq1 hq2 hq3
             have hxn : Ext wr (w2.alloc (.cells #[.iface qty qx] 82)) := ext_alloc hx2 _
             have hbn : Box (w2.alloc (.cells #[.iface qty qx] 82)) w2.heap.size #[.iface qty qx] 82 := Box.at rfl _ _
             have hs2 := hx2.sz
             have hm := Lib.hid (boolMust_made (w.heap.size + 1) _ bq V1 V2 V3 V4 _ _ _ _ (hbq.ext hxn) (HBS.out.ext hxn) (by omega) (.iface qty qx) _ w2.heap.size (hbn.cell 0 _ rfl) (Gives.ext (hG.to (fun b hb _ => HBS.out.fresh (by omega) hbq.lt hb)) (ext_alloc (ext_refl w2) _)) (by have := inPlace_room ps 0 (jNodes ks) j; omega))
             clear hG)
          | (go_at_call 53; refine hm.out.mono ?_; rintro r w3 ⟨rfl, V, hb3, hBS3, hsz3, hx3⟩)
          | fail)
        have hx4 := hx3 _ (ext_trans hx hxn) (by simp)
        have HB3 := Lib.hid hBS3
        clear hBS3 hx3
        go_roundw
        case rel =>
          refine ⟨hx4, j + 1, V, V2, V3, V4, by omega, by go_num, hb3, ?_⟩
          have hB := HB3.out
          rw [inPlace_take ps 0 HJ.out, inPlace_take ps 1 HJ.out, inPlace_take ps 3 HJ.out, inPlace_take ps 2 HJ.out, HP.out]
          simpa using hB
        case measure => simp [intOf]; omega
    · have hjn : j = ekn := by omega
      have hfull : (jNodes ks).take j = jNodes ks := List.take_of_length_le (by have := HJL.out; omega)
      have hBS := HBS.out
      rw [hfull] at hBS
      have hl : ∀ p : Int, (inPlace ps p 0 (jNodes ks)).length ≤ 2147483647 := fun p => by have h1 := inPlace_len ps p (jNodes ks) 0; have h2 := HJL.out; omega
      clear HBS hjn
      go_wp2_with fail
      go_ret
      obtain ⟨⟨ua, um, uc, rfl, e1, h1⟩, ⟨va, vm, vc, rfl, e2, h2⟩, ⟨xa, xm, xc, rfl, e3, h3⟩, ⟨ya, ym, yc, rfl, e4, h4⟩⟩ := hBS.qs (S := fun b => w.heap.size ≤ b) (fun q hq _ => by omega)
      have l1 := hl 0
      have l2 := hl 1
      have l3 := hl 3
      have l4 := hl 2
      have hGB := gives_bool h1 h2 h3 h4 (by omega) (by omega) (by omega) (by omega) (by omega) hbq
      try simp only [List.append_assoc] at hGB
      exact ⟨_, rfl, hGB, ext_trans hx0 hx⟩
set_option maxRecDepth 20000 in
set_option maxHeartbeats 8000000 in
theorem query_dis {S : Nat → Prop} (ex : ByteArray) (epa : Option Addr) (epn epc : Nat) (eka : Option Addr) (ekn ekc : Nat) (_ps : List Int) (ks : List Nd) (w : World) (hK : NodesAt S w eka ekn ekc ks) (hk : ∀ r ∈ ks, Queried r) (hkn : ekn ≤ 2147483647) (hkp : 0 < ekn) :
    Calls Tryz.prog 51 #[(⟨5, ex, epa, epn, epc, eka, ekn, ekc⟩ : Nv).val] w fun rr w' => ∃ q, rr = .returned q ∧ Gives (fun b => w.heap.size ≤ b) w' q (jMap [(s_dis_max, jMap [(s_queries, .list (jNodes ks))])]) ∧ Ext w w' := by
  have hx0 : Ext w (w.alloc (.cells #[.int .i64 5, .string ex, .slice epa epn epc, .slice eka ekn ekc] 41)) := ext_alloc (ext_refl _) _
  have hb0 : Box (w.alloc (.cells #[.int .i64 5, .string ex, .slice epa epn epc, .slice eka ekn ekc] 41)) w.heap.size #[.int .i64 5, .string ex, .slice epa epn epc, .slice eka ekn ekc] 41 := Box.at rfl _ _
  have HK := Lib.hid fun (w1 : World) (x : Ext w w1) (i : Nat) (hi : i ≤ 2147483647) => kid_any (⟨5, ex, epa, epn, epc, eka, ekn, ekc⟩ : Nv) ks i w1 (hK.ext x) hk hi hkn
  have hjl : (jNodes ks).length = ekn := by rw [jNodes_eq, List.length_map]; exact hK.1
  have HJL := Lib.hid hjl
  clear hK hk hjl
  simp only [Nv.val]
  simp only [Nv.val] at HK
  go_enter Tryz.func51, Tryz.ntmps51
  have hsz0 : (w.alloc (.cells #[.int .i64 5, .string ex, .slice epa epn epc, .slice eka ekn ekc] 41)).heap.size = w.heap.size + 1 := by simp
  go_wp2_with (first
    | (go_at_call 82; refine (newDisMax_any _).mono ?_; rintro r w1 ⟨rfl, hw1⟩
       have hx1 : Ext (w.alloc (.cells #[.int .i64 5, .string ex, .slice epa epn epc, .slice eka ekn ekc] 41)) w1 := by rw [hw1]; exact ext_alloc (ext_alloc (ext_refl _) _) _
       have hb1 : Box w1 ((w.alloc (.cells #[.int .i64 5, .string ex, .slice epa epn epc, .slice eka ekn ekc] 41)).heap.size + 1) #[.slice (some ⟨(w.alloc (.cells #[.int .i64 5, .string ex, .slice epa epn epc, .slice eka ekn ekc] 41)).heap.size, 0, none⟩) 0 0, .pointer none, .pointer none, .string ⟨#[]⟩] 165 := by rw [hw1]; exact Box.at (by simp) _ _
       have hv1 : Box w1 (w.alloc (.cells #[.int .i64 5, .string ex, .slice epa epn epc, .slice eka ekn ekc] 41)).heap.size #[] 82 := by rw [hw1]; exact (Box.at rfl _ _).alloc _
       rw [hsz0] at hb1 hv1 ⊢
       clear hw1
       have hbx1 := hb0.ext hx1
       have a0 := hbx1.cell 0 _ rfl
       have a1 := hbx1.cell 1 _ rfl
       have a2 := hbx1.cell 2 _ rfl
       have a3 := hbx1.cell 3 _ rfl)
    | fail)
  have hlb1 := hb1.lt
  have hc0 : Cn (w.heap.size + 1) (OffD (w.heap.size + 1) (w.heap.size + 1 + 1) (.slice (some ⟨w.heap.size + 1, 0, none⟩) 0 0)) w1 (.slice (some ⟨w.heap.size + 1, 0, none⟩) 0 0) [] := ⟨[], ⟨rfl, .inr ⟨w.heap.size + 1, 0, #[], rfl, Nat.le_refl _, hv1, Nat.le_refl _, by simp [maxLen], rfl, rfl⟩⟩, GivesL.nil _ _⟩
  clear a0 a1 a2 a3
  go_loopw [90] (fun i wr => Ext (w.alloc (.cells #[.int .i64 5, .string ex, .slice epa epn epc, .slice eka ekn ekc] 41)) wr ∧ ∃ (j : Nat) (V : Value), j ≤ ekn ∧ i = .int .i64 j ∧ Box wr (w.heap.size + 1 + 1) #[V, .pointer none, .pointer none, .string ⟨#[]⟩] 165 ∧ Cn (w.heap.size + 1) (OffD (w.heap.size + 1) (w.heap.size + 1 + 1) V) wr V ((jNodes ks).take j) ∧ V.ownBlock ≠ some (w.heap.size + 1 + 1)) (fun i _ => ekn - (intOf i).toNat)
  case atStart => exact ⟨hx1, 0, _, Nat.zero_le _, rfl, hb1, hc0, by simp only [Value.ownBlock]; exact someNe (by omega)⟩
  case round =>
    obtain ⟨hx, j, V, hj, rfl, hbq, hC, hne⟩ := hrel
    have HC := Lib.hid hC
    have HNE := Lib.hid hne
    clear hC hne
    have hbqs := hbq.lt
    have hbox := hb0.ext hx
    have a0 := hbox.cell 0 _ rfl
    have a1 := hbox.cell 1 _ rfl
    have a2 := hbox.cell 2 _ rfl
    have a3 := hbox.cell 3 _ rfl
    by_cases hlt : j < ekn
    · obtain ⟨jj, hjj⟩ := some_of_lt HJL.out hlt
      have hkk : kidJ (jNodes ks) j = jj := by unfold kidJ; rw [hjj]; rfl
      have hkid := HK.out
      have hkid := Lib.hid fun (w1 : World) (x : Ext w w1) => hkid w1 x j (by omega)
      rw [hkk] at hkid
      have HJ := Lib.hid hjj
      clear hjj hkk
      go_wp2_with (first
        | (go_at_call 80; refine (hkid.out _ (ext_trans hx0 hx)).mono ?_; rintro r w2 ⟨q, rfl, hG, hx2⟩
           obtain ⟨qty, qx, qf, rfl, hq1, hq2, hq3⟩ := id hG
           clear hq1 hq2 hq3
           have hxn : Ext wr (w2.alloc (.cells #[.iface qty qx] 82)) := ext_alloc hx2 _
           have hbn : Box (w2.alloc (.cells #[.iface qty qx] 82)) w2.heap.size #[.iface qty qx] 82 := Box.at rfl _ _
           have hs2 := hx2.sz
           have hm := Lib.hid (disQuery_made (w.heap.size + 1) _ (w.heap.size + 1 + 1) V _ (hbq.ext hxn) (HC.out.ext hxn) HNE.out (by omega) (.iface qty qx) _ w2.heap.size (hbn.cell 0 _ rfl) (Gives.ext (hG.to (fun b hb _ => ⟨by have hb : wr.heap.size ≤ b := hb; omega, by have hb : wr.heap.size ≤ b := hb; omega, fun e => by have hb : wr.heap.size ≤ b := hb; have := (HC.out.block e).2; omega⟩)) (ext_alloc (ext_refl w2) _)) (by rw [List.length_take]; omega))
           clear hG)
        | (go_at_call 83; refine hm.out.mono ?_; rintro r w3 ⟨rfl, U, hb3, hC3, hne3, hsz3, hx3⟩)
        | fail)
      have hx4 : Ext (w.alloc (.cells #[.int .i64 5, .string ex, .slice epa epn epc, .slice eka ekn ekc] 41)) w3 := hx3 _ (ext_trans hx hxn) (by simp)
      have HC3 := Lib.hid hC3
      have HN3 := Lib.hid hne3
      clear hC3 hne3 hx3
      go_roundw
      case rel =>
        refine ⟨hx4, j + 1, U, by omega, by go_num, hb3, ?_, HN3.out⟩
        rw [take_snoc HJ.out]
        exact HC3.out
      case measure => simp [intOf]; omega
    · have hjn : j = ekn := by omega
      have hfull : (jNodes ks).take j = jNodes ks := List.take_of_length_le (by have := HJL.out; omega)
      have hC := HC.out
      rw [hfull] at hC
      clear HC hjn
      go_wp2_with fail
      go_ret
      have hl := HJL.out
      obtain ⟨ua, um, uc, rfl, e1, h1⟩ := hC.qs (S' := fun b => w.heap.size ≤ b) (fun q hq => by have := (hC.block hq).1; omega) (fun q hq => by have := hq.1; omega)
      exact ⟨_, rfl, gives_dis h1 (by omega) (by omega) (by omega) hbq, ext_trans hx0 hx⟩
theorem queried_mk (k : Int) (x : ByteArray) (ps : List Int) (ks : List Nd) (hF : FitN (.mk k x ps ks)) (hSm : SmallN 1048576 (.mk k x ps ks)) (hk : ∀ r ∈ ks, Queried r) : Queried (.mk k x ps ks) := by
  rintro S ⟨ek, ex, epa, epn, epc, eka, ekn, ekc⟩ w h
  obtain ⟨h1, h2, hP, hK⟩ := h.parts
  simp only at h1 h2 hP hK
  subst h1 h2
  simp only [FitN] at hF
  simp only [SmallN] at hSm
  have hkn : ekn ≤ 2147483647 := by have := hK.1; omega
  have hpn : epn ≤ 2147483647 := by have := hP.1; omega
  rw [jNode]
  split
  · rename_i e; subst e; exact query_term (_S := S) ex epa epn epc eka ekn ekc ps ks w (by unfold maxLen; omega)
  split
  · rename_i e; subst e; exact query_exists (_S := S) ex epa epn epc eka ekn ekc ps ks w
  split
  · rename_i e; subst e; exact query_bool (S := S) ex epa epn epc eka ekn ekc ps ks w hK hk hkn hP hF.2.2.1 hpn
  split
  · rename_i e; subst e; exact query_const (S := S) ex epa epn epc eka ekn ekc ps ks w hK hk hkn
  split
  · rename_i e; subst e; exact query_dis (S := S) ex epa epn epc eka ekn ekc ps ks w hK hk hkn (by have := hF.2.1 rfl; have := hK.1; omega)
  split
  · rename_i e; subst e; exact query_boosting (S := S) ex epa epn epc eka ekn ekc ps ks w hK hk hkn
  split
  · rename_i e; subst e; exact query_nested (S := S) ex epa epn epc eka ekn ekc ps ks w hK hk hkn
  · rename_i e1 e2 e3 e4 e5 e6 e7; exact query_all (_S := S) ex epa epn epc eka ekn ekc ps ks w ek e1 e2 e3 e4 e5 e6 e7
mutual
theorem queried : ∀ r : Nd, FitN r → SmallN 1048576 r → Queried r
  | .mk k x ps ks, h, h2 => queried_mk k x ps ks h h2 (querieds ks (by simp only [FitN] at h; exact h.2.2.2) (by simp only [SmallN] at h2; exact h2.2.2.2))
theorem querieds : ∀ l : List Nd, FitNs l → SmallNs 1048576 l → ∀ r ∈ l, Queried r
  | [], _, _, r, h => by cases h
  | q :: l, h, h2, r, hr => by
    simp only [FitNs] at h
    simp only [SmallNs] at h2
    rcases List.mem_cons.1 hr with e | hr
    · rw [e]; exact queried q h.1 h2.1
    · exact querieds l h.2 h2.2 r hr
end
end Go.Proofs.YtfngaoicoecncaaGreatDoor

namespace Go.Proofs.YtfngaoicoecncaaGreatDoor
open Go.RowKit

set_option maxRecDepth 20000 in
set_option maxHeartbeats 2000000 in
theorem wholeI_any {S : Nat → Prop} (e : Nv) (r0 : Nd) (w : World) (h : NodeAt S w e r0) (hF : FitN r0) (hSm : SmallN 1048576 r0) :
    Calls Tryz.prog 16 #[e.val] w fun r w' => ∃ g : El, r = .returned (.tuple #[g.val, .bool true]) ∧ TreeAt (fun b => w.heap.size + 1 ≤ b) w' g (treeJ (jNode r0)) ∧ Ext w w' := by
  obtain ⟨ek, ex, epa, epn, epc, eka, ekn, ekc⟩ := e
  have HR := Lib.hid (fun (w1 : World) (x : Ext w w1) => queried r0 hF hSm S _ w1 (NodeAt.ext x h))
  clear h
  simp only [Nv.val]
  simp only [Nv.val] at HR
  have hxa : Ext w ((w.alloc (.cells #[.int .i64 ek, .string ex, .slice epa epn epc, .slice eka ekn ekc] 41)).alloc (.cells (El.arr El0) 26)) := ext_alloc (ext_alloc (ext_refl _) _) _
  have hb0 : Box ((w.alloc (.cells #[.int .i64 ek, .string ex, .slice epa epn epc, .slice eka ekn ekc] 41)).alloc (.cells (El.arr El0) 26)) (w.heap.size + 1) (El.arr El0) 26 := Box.at (by simp) _ _
  go_enter Tryz.func16, Tryz.ntmps16
  go_wp2_with (first
    | (go_at_call 51; refine (HR.out _ hxa).mono ?_; rintro r w2 ⟨q, rfl, hG, hx2⟩
       obtain ⟨qty, qx, qf, rfl, hq1, hq2, hq3⟩ := hG
       have HQ := Lib.hid (hq3 w2 (fun _ _ _ => rfl) (Nat.le_refl _))
       clear hq3
       have hs2 := hx2.sz)
    | ((with_reducible show Calls _ qf _ _ _); refine HQ.out.mono ?_; rintro r w3 ⟨jty, jx, rfl, hJ, hx3⟩
       have hxt := ext_trans hxa (ext_trans hx2 hx3))
    | (go_at_call 38; refine (told_any _ _ _ hJ).mono ?_; rintro r w4 ⟨e2, rfl, hT4, hx4⟩; simp only [El.val]
       have hb := ((hb0.ext hx2).ext hx3).ext hx4; obtain ⟨o0, o1, o2, o3, o4, o5⟩ := hb.six; have f0 := hb.free 0; have f1 := hb.free 1; have f2 := hb.free 2; have f3 := hb.free 3; have f4 := hb.free 4; have f5 := hb.free 5)
    | fail)
  have hx5 := ext_trans hxt hx4
  have hs3 := hx3.sz
  simp at hs2 hs3
  refine post_tree2 rfl rfl (hb.sto e2) rfl ⟨e2, rfl, ?_, ext_sto6 hx5 (by omega) _ _ _ _ _ _⟩
  exact TreeAt.keep (S := fun b => w3.heap.size ≤ b) (S' := fun b => w.heap.size + 1 ≤ b) (fun b hb _ => by omega) (keeps_sto (b := (w.heap.size + 1)) w4 (by omega) e2) _ hT4
end Go.Proofs.YtfngaoicoecncaaGreatDoor

