/-
  Words that the proofs of this seat share: trees as data, how trees and lists lie in memory, worlds in which nothing old has turned.
-/
import Derived.Test.YtfngaoicoecncaaGreatDoorProg
import Derived.WalkKit
import Derived.WalkLawsBesides
import Derived.WalkSpells
import Derived.KernelRfl
import Derived.Deep.LoopGhost
import Derived.Deep.QuietTactic
import Derived.BigQuiet
import Derived.Deep.RegionHeld3
import Derived.Deep.DeepCutAuto
import Derived.Maps.RangeRun
import Derived.Maps.Own
import Derived.WideLaws
import Derived.Deep.AppendLies
import Derived.Lib.Hide
namespace Go.Proofs.YtfngaoicoecncaaGreatDoor
open Go.RowKit

/-! ### worlds -/

/-- Nothing that was there has turned. -/
def Ext (w w' : World) : Prop := Below w.heap.size w w'
theorem ext_refl (w : World) : Ext w w := Below.refl _ _
theorem ext_trans {a b c : World} (h : Ext a b) (k : Ext b c) : Ext a c := Below.trans h (Below.mono k h.size)
theorem ext_alloc {a b : World} (h : Ext a b) (o : Obj) : Ext a (b.alloc o) := Below.alloc h h.size o
theorem ext_drew {a b : World} (h : Ext a b) : Ext a b.drew := Below.drew h
theorem ext_set {a b : World} (h : Ext a b) {p : Addr} (hp : a.heap.size ≤ p.block) (v : Value) : Ext a (b.setCell p v) := Below.setCell h hp v
theorem Ext.sz {w w' : World} (h : Ext w w') : w.heap.size ≤ w'.heap.size := h.size
theorem lt_of_cell {w : World} {a : Addr} {v : Value} (h : w.cell? a = some v) : a.block < w.heap.size := World.block_lt_of_cell? w a h
theorem Ext.cell {w w' : World} (h : Ext w w') {a : Addr} {v : Value} (hc : w.cell? a = some v) : w'.cell? a = some v := (Below.cell h (lt_of_cell hc)).trans hc
theorem Ext.free {w w' : World} (h : Ext w w') {a : Addr} (hb : a.block < w.heap.size) (hc : w.frozen? a = false) : w'.frozen? a = false := (Below.frozen h hb).trans hc
theorem Ext.blk {w w' : World} (h : Ext w w') {b : Nat} {o : Obj} (hc : w.heap[b]? = some o) : w'.heap[b]? = some o := (h.block b (Array.getElem?_eq_some_iff.1 hc).1).trans hc

/-- The blocks of which S holds are as they were. -/
def Keeps (S : Nat → Prop) (w w' : World) : Prop := ∀ b, S b → b < w.heap.size → w'.heap[b]? = w.heap[b]?
theorem Ext.keeps {w w' : World} (h : Ext w w') (S : Nat → Prop) : Keeps S w w' := fun b _ hb => h.block b hb
theorem Keeps.cell {S : Nat → Prop} {w w' : World} (h : Keeps S w w') {a : Addr} {v : Value} (hs : S a.block) (hc : w.cell? a = some v) : w'.cell? a = some v :=
  (World.cell?_of_block (h a.block hs (lt_of_cell hc))).trans hc

theorem run_store_float (P : Program) (w : World) (a : Addr) (m : Mode) (k : FloatKind) (b : Nat) : (store a (.float k b) m).run P w = stored P w a (.float k b) m := run_store P w a _ m rfl
attribute [go_sem] run_store_float

/-! ### trees as data -/

inductive T where
  | mk (kind : Int) (text : ByteArray) (num : Nat) (yes : Bool) (keys : List ByteArray) (kids : List T)
namespace T
def kind : T → Int | mk k _ _ _ _ _ => k
def text : T → ByteArray | mk _ x _ _ _ _ => x
def num : T → Nat | mk _ _ x _ _ _ => x
def yes : T → Bool | mk _ _ _ x _ _ => x
def keys : T → List ByteArray | mk _ _ _ _ x _ => x
def kids : T → List T | mk _ _ _ _ _ x => x
end T

/-- The six cells of a tree. -/
structure El where
  k : Int
  x : ByteArray
  d : Nat
  y : Bool
  ka : Option Addr
  n : Nat
  kc : Nat
  ca : Option Addr
  m : Nat
  cc : Nat
def El.val (e : El) : Value := .agg #[.int .i64 e.k, .string e.x, .float .f64 e.d, .bool e.y, .slice e.ka e.n e.kc, .slice e.ca e.m e.cc]
def El.cells (e : El) : List Value := [.int .i64 e.k, .string e.x, .float .f64 e.d, .bool e.y, .slice e.ka e.n e.kc, .slice e.ca e.m e.cc]

/-- Six cells from an address on. -/
abbrev CellsAt (w : World) (b o : Nat) (e : El) : Prop :=
  w.cell? ⟨b, o, none⟩ = some (.int .i64 e.k) ∧ w.cell? ⟨b, o + 1, none⟩ = some (.string e.x) ∧ w.cell? ⟨b, o + 2, none⟩ = some (.float .f64 e.d) ∧
  w.cell? ⟨b, o + 3, none⟩ = some (.bool e.y) ∧ w.cell? ⟨b, o + 4, none⟩ = some (.slice e.ka e.n e.kc) ∧ w.cell? ⟨b, o + 5, none⟩ = some (.slice e.ca e.m e.cc)

/-- A list of strings. -/
def StrsAt (S : Nat → Prop) (w : World) (a : Option Addr) (n c : Nat) (ss : List ByteArray) : Prop :=
  ss.length = n ∧ n ≤ c ∧ c ≤ maxLen ∧ ∀ i s, ss[i]? = some s → ∃ b off, a = some ⟨b, off, none⟩ ∧ S b ∧ w.cell? ⟨b, off + i, none⟩ = some (.string s)

mutual
def TreeAt (S : Nat → Prop) (w : World) (e : El) : T → Prop
  | .mk k x d y keys kids => e.k = k ∧ e.x = x ∧ e.d = d ∧ e.y = y ∧ StrsAt S w e.ka e.n e.kc keys ∧ kids.length = e.m ∧ e.m ≤ e.cc ∧ e.cc ≤ maxLen ∧ RowAt S w e.ca 0 kids
def RowAt (S : Nat → Prop) (w : World) (a : Option Addr) (i : Nat) : List T → Prop
  | [] => True
  | t :: r => (∃ b off e, a = some ⟨b, off, none⟩ ∧ S b ∧ CellsAt w b (off + i * 6) e ∧ TreeAt S w e t) ∧ RowAt S w a (i + 1) r
end

/-- Six cells of a local variable. -/
abbrev Six (w : World) (b : Nat) (e : El) : Prop := w.cell? ⟨b, 0, none⟩ = some (.int .i64 e.k) ∧ w.cell? ⟨b, 1, none⟩ = some (.string e.x) ∧ w.cell? ⟨b, 2, none⟩ = some (.float .f64 e.d) ∧
  w.cell? ⟨b, 3, none⟩ = some (.bool e.y) ∧ w.cell? ⟨b, 4, none⟩ = some (.slice e.ka e.n e.kc) ∧ w.cell? ⟨b, 5, none⟩ = some (.slice e.ca e.m e.cc)

/-- A list of trees. -/
def KidsAt (S : Nat → Prop) (w : World) (a : Option Addr) (n c : Nat) (ts : List T) : Prop := ts.length = n ∧ n ≤ c ∧ c ≤ maxLen ∧ RowAt S w a 0 ts

/-- Seven cells: a name and a tree. -/
abbrev Cells7 (w : World) (b o : Nat) (s : ByteArray) (e : El) : Prop := w.cell? ⟨b, o, none⟩ = some (.string s) ∧ CellsAt w b (o + 1) e
/-- A list of names with trees: settings, pairs. -/
def PairsAt (S : Nat → Prop) (w : World) (a : Option Addr) (n c : Nat) (ps : List (ByteArray × T)) : Prop :=
  ps.length = n ∧ n ≤ c ∧ c ≤ maxLen ∧ ∀ i p, ps[i]? = some p → ∃ b off e, a = some ⟨b, off, none⟩ ∧ S b ∧ Cells7 w b (off + i * 7) p.1 e ∧ TreeAt S w e p.2

theorem CellsAt.keep {S : Nat → Prop} {w w' : World} {b o : Nat} {e : El} (k : Keeps S w w') (hs : S b) (h : CellsAt w b o e) : CellsAt w' b o e :=
  ⟨k.cell hs h.1, k.cell hs h.2.1, k.cell hs h.2.2.1, k.cell hs h.2.2.2.1, k.cell hs h.2.2.2.2.1, k.cell hs h.2.2.2.2.2⟩

theorem StrsAt.keep {S S' : Nat → Prop} {w w' : World} {a : Option Addr} {n c : Nat} {ss : List ByteArray} (hS : ∀ b, S b → b < w.heap.size → S' b) (k : Keeps S w w') (h : StrsAt S w a n c ss) : StrsAt S' w' a n c ss := by
  obtain ⟨h1, h2, h3, h4⟩ := h
  refine ⟨h1, h2, h3, fun i s hi => ?_⟩
  obtain ⟨b, off, ha, hb, hc⟩ := h4 i s hi
  exact ⟨b, off, ha, hS b hb (lt_of_cell hc), k.cell hb hc⟩

mutual
theorem TreeAt.keep {S S' : Nat → Prop} {w w' : World} (hS : ∀ b, S b → b < w.heap.size → S' b) (k : Keeps S w w') : ∀ (t : T) {e : El}, TreeAt S w e t → TreeAt S' w' e t
  | .mk _ _ _ _ _ kids, _, h => by
    simp only [TreeAt] at h ⊢
    obtain ⟨h1, h2, h3, h4, h5, h6, h7, h8, h9⟩ := h
    exact ⟨h1, h2, h3, h4, h5.keep hS k, h6, h7, h8, RowAt.keep hS k kids h9⟩
theorem RowAt.keep {S S' : Nat → Prop} {w w' : World} (hS : ∀ b, S b → b < w.heap.size → S' b) (k : Keeps S w w') : ∀ (ts : List T) {a : Option Addr} {i : Nat}, RowAt S w a i ts → RowAt S' w' a i ts
  | [], _, _, _ => by simp only [RowAt]
  | t :: r, _, _, h => by
    simp only [RowAt] at h ⊢
    obtain ⟨⟨b, off, e, ha, hb, hc, ht⟩, hr⟩ := h
    exact ⟨⟨b, off, e, ha, hS b hb (lt_of_cell hc.1), hc.keep k hb, TreeAt.keep hS k t ht⟩, RowAt.keep hS k r hr⟩
end

theorem KidsAt.keep {S S' : Nat → Prop} {w w' : World} {a : Option Addr} {n c : Nat} {ts : List T} (hS : ∀ b, S b → b < w.heap.size → S' b) (k : Keeps S w w') (h : KidsAt S w a n c ts) : KidsAt S' w' a n c ts :=
  ⟨h.1, h.2.1, h.2.2.1, RowAt.keep hS k ts h.2.2.2⟩
theorem PairsAt.keep {S S' : Nat → Prop} {w w' : World} {a : Option Addr} {n c : Nat} {ps : List (ByteArray × T)} (hS : ∀ b, S b → b < w.heap.size → S' b) (k : Keeps S w w') (h : PairsAt S w a n c ps) : PairsAt S' w' a n c ps := by
  obtain ⟨h1, h2, h3, h4⟩ := h
  refine ⟨h1, h2, h3, fun i p hi => ?_⟩
  obtain ⟨b, off, e, ha, hb, hc, ht⟩ := h4 i p hi
  exact ⟨b, off, e, ha, hS b hb (lt_of_cell hc.1), ⟨k.cell hb hc.1, hc.2.keep k hb⟩, TreeAt.keep hS k _ ht⟩

theorem TreeAt.ext {S : Nat → Prop} {w w' : World} (x : Ext w w') {t : T} {e : El} (h : TreeAt S w e t) : TreeAt S w' e t := TreeAt.keep (fun _ h _ => h) (x.keeps S) t h
theorem StrsAt.ext {S : Nat → Prop} {w w' : World} (x : Ext w w') {a : Option Addr} {n c : Nat} {ss : List ByteArray} (h : StrsAt S w a n c ss) : StrsAt S w' a n c ss := h.keep (fun _ h _ => h) (x.keeps S)
theorem KidsAt.ext {S : Nat → Prop} {w w' : World} (x : Ext w w') {a : Option Addr} {n c : Nat} {ts : List T} (h : KidsAt S w a n c ts) : KidsAt S w' a n c ts := h.keep (fun _ h _ => h) (x.keeps S)
theorem PairsAt.ext {S : Nat → Prop} {w w' : World} (x : Ext w w') {a : Option Addr} {n c : Nat} {ps : List (ByteArray × T)} (h : PairsAt S w a n c ps) : PairsAt S w' a n c ps := h.keep (fun _ h _ => h) (x.keeps S)

theorem Six.keep {S : Nat → Prop} {w w' : World} {b : Nat} {e : El} (k : Keeps S w w') (hs : S b) (h : Six w b e) : Six w' b e :=
  ⟨k.cell hs h.1, k.cell hs h.2.1, k.cell hs h.2.2.1, k.cell hs h.2.2.2.1, k.cell hs h.2.2.2.2.1, k.cell hs h.2.2.2.2.2⟩
theorem Six.ext {w w' : World} {b : Nat} {e : El} (x : Ext w w') (h : Six w b e) : Six w' b e := Six.keep (x.keeps fun _ => True) trivial h
theorem CellsAt.ext {w w' : World} {b o : Nat} {e : El} (x : Ext w w') (h : CellsAt w b o e) : CellsAt w' b o e := CellsAt.keep (x.keeps fun _ => True) trivial h
theorem Cells7.ext {w w' : World} {b o : Nat} {s : ByteArray} {e : El} (x : Ext w w') (h : Cells7 w b o s e) : Cells7 w' b o s e := ⟨x.cell h.1, CellsAt.ext x h.2⟩
theorem TreeAt.any {S : Nat → Prop} {w : World} {e : El} {t : T} (h : TreeAt S w e t) : TreeAt (fun _ => True) w e t := TreeAt.keep (fun _ _ _ => trivial) (fun _ _ _ => rfl) t h
theorem TreeAt.to {S S' : Nat → Prop} {w : World} {e : El} {t : T} (h : TreeAt S w e t) (hS : ∀ b, S b → b < w.heap.size → S' b) : TreeAt S' w e t := TreeAt.keep hS (fun _ _ _ => rfl) t h
theorem RowAt.get {S : Nat → Prop} {w : World} {a : Option Addr} : ∀ {ts : List T} {i : Nat} (_ : RowAt S w a i ts) {j : Nat} {t : T}, ts[j]? = some t →
    ∃ b off e, a = some ⟨b, off, none⟩ ∧ S b ∧ CellsAt w b (off + (i + j) * 6) e ∧ TreeAt S w e t
  | [], _, _, _, _, h => by cases h
  | t :: r, i, h, 0, u, hu => by
    simp only [RowAt] at h
    simp only [List.getElem?_cons_zero, Option.some.injEq] at hu
    subst hu
    exact h.1
  | t :: r, i, h, j + 1, u, hu => by
    simp only [RowAt] at h
    have := RowAt.get h.2 (j := j) (t := u) (by simpa using hu)
    rw [show i + 1 + j = i + (j + 1) by omega] at this
    exact this
theorem KidsAt.get {S : Nat → Prop} {w : World} {a : Option Addr} {n c : Nat} {ts : List T} (h : KidsAt S w a n c ts) {j : Nat} {t : T} (hj : ts[j]? = some t) :
    ∃ b off e, a = some ⟨b, off, none⟩ ∧ S b ∧ CellsAt w b (off + j * 6) e ∧ TreeAt S w e t := by
  have := RowAt.get h.2.2.2 hj
  simpa using this
theorem RowAt.of {S : Nat → Prop} {w : World} {a : Option Addr} : ∀ {ts : List T} {i : Nat}, (∀ j t, ts[j]? = some t → ∃ b off e, a = some ⟨b, off, none⟩ ∧ S b ∧ CellsAt w b (off + (i + j) * 6) e ∧ TreeAt S w e t) → RowAt S w a i ts
  | [], _, _ => by simp only [RowAt]
  | t :: r, i, h => by
    simp only [RowAt]
    refine ⟨h 0 t rfl, RowAt.of fun j u hu => ?_⟩
    have := h (j + 1) u (by simpa using hu)
    rw [show i + (j + 1) = i + 1 + j by omega] at this
    exact this
theorem KidsAt.of {S : Nat → Prop} {w : World} {a : Option Addr} {n c : Nat} {ts : List T} (h1 : ts.length = n) (h2 : n ≤ c) (h3 : c ≤ maxLen)
    (h : ∀ j t, ts[j]? = some t → ∃ b off e, a = some ⟨b, off, none⟩ ∧ S b ∧ CellsAt w b (off + j * 6) e ∧ TreeAt S w e t) : KidsAt S w a n c ts :=
  ⟨h1, h2, h3, RowAt.of (by simpa using h)⟩

/-- A tree's parts. -/
theorem TreeAt.parts {S : Nat → Prop} {w : World} {e : El} {t : T} (h : TreeAt S w e t) : e.k = t.kind ∧ e.x = t.text ∧ e.d = t.num ∧ e.y = t.yes ∧ StrsAt S w e.ka e.n e.kc t.keys ∧ KidsAt S w e.ca e.m e.cc t.kids := by
  cases t
  simp only [TreeAt] at h
  exact ⟨h.1, h.2.1, h.2.2.1, h.2.2.2.1, h.2.2.2.2.1, h.2.2.2.2.2⟩
theorem TreeAt.of {S : Nat → Prop} {w : World} {e : El} {t : T} (h1 : e.k = t.kind) (h2 : e.x = t.text) (h3 : e.d = t.num) (h4 : e.y = t.yes) (h5 : StrsAt S w e.ka e.n e.kc t.keys) (h6 : KidsAt S w e.ca e.m e.cc t.kids) : TreeAt S w e t := by
  cases t
  simp only [TreeAt]
  exact ⟨h1, h2, h3, h4, h5, h6⟩

/-- The cells of a list of trees, each with its tree. -/
theorem KidsAt.els {S : Nat → Prop} {w : World} {a : Option Addr} {n c : Nat} {ts : List T} (h : KidsAt S w a n c ts) :
    ∃ Z : List (El × T), Z.map Prod.snd = ts ∧ Z.length = n ∧ ∀ i z, Z[i]? = some z → ∃ b off, a = some ⟨b, off, none⟩ ∧ S b ∧ CellsAt w b (off + i * 6) z.1 ∧ TreeAt S w z.1 z.2 := by
  have key : ∀ (l : List T) (i : Nat), (∀ (j : Nat) (t : T), l[j]? = some t → ∃ b off e, a = some ⟨b, off, none⟩ ∧ S b ∧ CellsAt w b (off + (i + j) * 6) e ∧ TreeAt S w e t) →
      ∃ Z : List (El × T), Z.map Prod.snd = l ∧ ∀ (j : Nat) z, Z[j]? = some z → ∃ b off, a = some ⟨b, off, none⟩ ∧ S b ∧ CellsAt w b (off + (i + j) * 6) z.1 ∧ TreeAt S w z.1 z.2 := by
    intro l
    induction l with
    | nil => exact fun i _ => ⟨[], rfl, fun j z hz => by simp at hz⟩
    | cons t r ih =>
      intro i hi
      obtain ⟨b, off, e, h1, h2, h3, h4⟩ := hi 0 t rfl
      obtain ⟨Z, hZ, hz⟩ := ih (i + 1) fun j u hu => by
        have := hi (j + 1) u (by simpa using hu)
        rw [show i + (j + 1) = i + 1 + j by omega] at this
        exact this
      refine ⟨(e, t) :: Z, by simp [hZ], fun j z hz' => ?_⟩
      cases j with
      | zero => simp at hz'; subst hz'; exact ⟨b, off, h1, h2, h3, h4⟩
      | succ j =>
        have := hz j z (by simpa using hz')
        rw [show i + 1 + j = i + (j + 1) by omega] at this
        exact this
  obtain ⟨Z, hZ, hz⟩ := key ts 0 fun j t hj => by simpa using h.get hj
  exact ⟨Z, hZ, by rw [← h.1, ← hZ]; simp, by simpa using hz⟩

theorem ret_bool {a b : Bool} (h : a = b) : Ending.returned (.bool a) = .returned (.bool b) := by rw [h]
theorem ret_int {a b : Int} (h : a = b) : Ending.returned (.int .i64 a) = .returned (.int .i64 b) := by rw [h]
theorem some_of_lt {α : Type} {l : List α} {n i : Nat} (hl : l.length = n) (h : i < n) : ∃ x, l[i]? = some x := ⟨l[i]'(by omega), by simp⟩
end Go.Proofs.YtfngaoicoecncaaGreatDoor
