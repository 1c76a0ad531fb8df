/-
  What a builder hands over, as data: texts, numbers, yes or no, lists and maps; how it lies in memory; and what the reference makes of it.
-/
import Derived.Test.YtfngaoicoecncaaGreatDoorMaps
import Derived.Test.YtfngaoicoecncaaGreatDoorW5
namespace Go.Proofs.YtfngaoicoecncaaGreatDoor
open Go.RowKit Go.Maps

section
@[go_sem] theorem as_0_0 (v : Value) (w : World) : (Instr.typeAssert (.iface 9 v) 20 9 true).run Tryz.prog w = .ok (.tuple #[v, .bool true]) w := by kernel_rfl
@[go_sem] theorem as_1_0 (v : Value) (w : World) : (Instr.typeAssert (.iface 4 v) 20 9 true).run Tryz.prog w = .ok (.tuple #[.string ⟨#[]⟩, .bool false]) w := by kernel_rfl
@[go_sem] theorem as_1_1 (v : Value) (w : World) : (Instr.typeAssert (.iface 4 v) 20 4 true).run Tryz.prog w = .ok (.tuple #[v, .bool true]) w := by kernel_rfl
@[go_sem] theorem as_2_0 (v : Value) (w : World) : (Instr.typeAssert (.iface 3 v) 20 9 true).run Tryz.prog w = .ok (.tuple #[.string ⟨#[]⟩, .bool false]) w := by kernel_rfl
@[go_sem] theorem as_2_1 (v : Value) (w : World) : (Instr.typeAssert (.iface 3 v) 20 4 true).run Tryz.prog w = .ok (.tuple #[.bool false, .bool false]) w := by kernel_rfl
@[go_sem] theorem as_2_2 (v : Value) (w : World) : (Instr.typeAssert (.iface 3 v) 20 3 true).run Tryz.prog w = .ok (.tuple #[v, .bool true]) w := by kernel_rfl
@[go_sem] theorem as_3_0 (v : Value) (w : World) : (Instr.typeAssert (.iface 2 v) 20 9 true).run Tryz.prog w = .ok (.tuple #[.string ⟨#[]⟩, .bool false]) w := by kernel_rfl
@[go_sem] theorem as_3_1 (v : Value) (w : World) : (Instr.typeAssert (.iface 2 v) 20 4 true).run Tryz.prog w = .ok (.tuple #[.bool false, .bool false]) w := by kernel_rfl
@[go_sem] theorem as_3_2 (v : Value) (w : World) : (Instr.typeAssert (.iface 2 v) 20 3 true).run Tryz.prog w = .ok (.tuple #[.int .i64 0, .bool false]) w := by kernel_rfl
@[go_sem] theorem as_3_3 (v : Value) (w : World) : (Instr.typeAssert (.iface 2 v) 20 2 true).run Tryz.prog w = .ok (.tuple #[v, .bool true]) w := by kernel_rfl
@[go_sem] theorem as_4_0 (v : Value) (w : World) : (Instr.typeAssert (.iface 22 v) 20 9 true).run Tryz.prog w = .ok (.tuple #[.string ⟨#[]⟩, .bool false]) w := by kernel_rfl
@[go_sem] theorem as_4_1 (v : Value) (w : World) : (Instr.typeAssert (.iface 22 v) 20 4 true).run Tryz.prog w = .ok (.tuple #[.bool false, .bool false]) w := by kernel_rfl
@[go_sem] theorem as_4_2 (v : Value) (w : World) : (Instr.typeAssert (.iface 22 v) 20 3 true).run Tryz.prog w = .ok (.tuple #[.int .i64 0, .bool false]) w := by kernel_rfl
@[go_sem] theorem as_4_3 (v : Value) (w : World) : (Instr.typeAssert (.iface 22 v) 20 2 true).run Tryz.prog w = .ok (.tuple #[.int .i64 0, .bool false]) w := by kernel_rfl
@[go_sem] theorem as_4_4 (v : Value) (w : World) : (Instr.typeAssert (.iface 22 v) 20 22 true).run Tryz.prog w = .ok (.tuple #[v, .bool true]) w := by kernel_rfl
@[go_sem] theorem as_10_0 (v : Value) (w : World) : (Instr.typeAssert (.iface 23 v) 20 9 true).run Tryz.prog w = .ok (.tuple #[.string ⟨#[]⟩, .bool false]) w := by kernel_rfl
@[go_sem] theorem as_11_0 (v : Value) (w : World) : (Instr.typeAssert (.iface 148 v) 20 9 true).run Tryz.prog w = .ok (.tuple #[.string ⟨#[]⟩, .bool false]) w := by kernel_rfl
@[go_sem] theorem as_10_1 (v : Value) (w : World) : (Instr.typeAssert (.iface 23 v) 20 4 true).run Tryz.prog w = .ok (.tuple #[.bool false, .bool false]) w := by kernel_rfl
@[go_sem] theorem as_11_1 (v : Value) (w : World) : (Instr.typeAssert (.iface 148 v) 20 4 true).run Tryz.prog w = .ok (.tuple #[.bool false, .bool false]) w := by kernel_rfl
@[go_sem] theorem as_10_2 (v : Value) (w : World) : (Instr.typeAssert (.iface 23 v) 20 3 true).run Tryz.prog w = .ok (.tuple #[.int .i64 0, .bool false]) w := by kernel_rfl
@[go_sem] theorem as_11_2 (v : Value) (w : World) : (Instr.typeAssert (.iface 148 v) 20 3 true).run Tryz.prog w = .ok (.tuple #[.int .i64 0, .bool false]) w := by kernel_rfl
@[go_sem] theorem as_10_3 (v : Value) (w : World) : (Instr.typeAssert (.iface 23 v) 20 2 true).run Tryz.prog w = .ok (.tuple #[.int .i64 0, .bool false]) w := by kernel_rfl
@[go_sem] theorem as_11_3 (v : Value) (w : World) : (Instr.typeAssert (.iface 148 v) 20 2 true).run Tryz.prog w = .ok (.tuple #[.int .i64 0, .bool false]) w := by kernel_rfl
@[go_sem] theorem as_10_4 (v : Value) (w : World) : (Instr.typeAssert (.iface 23 v) 20 22 true).run Tryz.prog w = .ok (.tuple #[.float .f64 0, .bool false]) w := by kernel_rfl
@[go_sem] theorem as_11_4 (v : Value) (w : World) : (Instr.typeAssert (.iface 148 v) 20 22 true).run Tryz.prog w = .ok (.tuple #[.float .f64 0, .bool false]) w := by kernel_rfl
@[go_sem] theorem as_10_5 (v : Value) (w : World) : (Instr.typeAssert (.iface 23 v) 20 139 true).run Tryz.prog w = .ok (.tuple #[.pointer none, .bool false]) w := by kernel_rfl
@[go_sem] theorem as_11_5 (v : Value) (w : World) : (Instr.typeAssert (.iface 148 v) 20 139 true).run Tryz.prog w = .ok (.tuple #[.pointer none, .bool false]) w := by kernel_rfl
@[go_sem] theorem as_10_6 (v : Value) (w : World) : (Instr.typeAssert (.iface 23 v) 20 131 true).run Tryz.prog w = .ok (.tuple #[.pointer none, .bool false]) w := by kernel_rfl
@[go_sem] theorem as_11_6 (v : Value) (w : World) : (Instr.typeAssert (.iface 148 v) 20 131 true).run Tryz.prog w = .ok (.tuple #[.pointer none, .bool false]) w := by kernel_rfl
@[go_sem] theorem as_10_7 (v : Value) (w : World) : (Instr.typeAssert (.iface 23 v) 20 142 true).run Tryz.prog w = .ok (.tuple #[.pointer none, .bool false]) w := by kernel_rfl
@[go_sem] theorem as_11_7 (v : Value) (w : World) : (Instr.typeAssert (.iface 148 v) 20 142 true).run Tryz.prog w = .ok (.tuple #[.pointer none, .bool false]) w := by kernel_rfl
@[go_sem] theorem as_10_8 (v : Value) (w : World) : (Instr.typeAssert (.iface 23 v) 20 144 true).run Tryz.prog w = .ok (.tuple #[.pointer none, .bool false]) w := by kernel_rfl
@[go_sem] theorem as_11_8 (v : Value) (w : World) : (Instr.typeAssert (.iface 148 v) 20 144 true).run Tryz.prog w = .ok (.tuple #[.pointer none, .bool false]) w := by kernel_rfl
@[go_sem] theorem as_10_9 (v : Value) (w : World) : (Instr.typeAssert (.iface 23 v) 20 104 true).run Tryz.prog w = .ok (.tuple #[.pointer none, .bool false]) w := by kernel_rfl
@[go_sem] theorem as_11_9 (v : Value) (w : World) : (Instr.typeAssert (.iface 148 v) 20 104 true).run Tryz.prog w = .ok (.tuple #[.pointer none, .bool false]) w := by kernel_rfl
@[go_sem] theorem as_10_10 (v : Value) (w : World) : (Instr.typeAssert (.iface 23 v) 20 23 true).run Tryz.prog w = .ok (.tuple #[v, .bool true]) w := by kernel_rfl
@[go_sem] theorem as_11_10 (v : Value) (w : World) : (Instr.typeAssert (.iface 148 v) 20 23 true).run Tryz.prog w = .ok (.tuple #[.slice none 0 0, .bool false]) w := by kernel_rfl
@[go_sem] theorem as_11_11 (v : Value) (w : World) : (Instr.typeAssert (.iface 148 v) 20 148 true).run Tryz.prog w = .ok (.tuple #[v, .bool true]) w := by kernel_rfl
@[go_sem] theorem as_12_0 (v : Value) (w : World) : (Instr.typeAssert (.iface 107 v) 20 9 true).run Tryz.prog w = .ok (.tuple #[.string ⟨#[]⟩, .bool false]) w := by kernel_rfl
@[go_sem] theorem as_12_1 (v : Value) (w : World) : (Instr.typeAssert (.iface 107 v) 20 4 true).run Tryz.prog w = .ok (.tuple #[.bool false, .bool false]) w := by kernel_rfl
@[go_sem] theorem as_12_2 (v : Value) (w : World) : (Instr.typeAssert (.iface 107 v) 20 3 true).run Tryz.prog w = .ok (.tuple #[.int .i64 0, .bool false]) w := by kernel_rfl
@[go_sem] theorem as_12_3 (v : Value) (w : World) : (Instr.typeAssert (.iface 107 v) 20 2 true).run Tryz.prog w = .ok (.tuple #[.int .i64 0, .bool false]) w := by kernel_rfl
@[go_sem] theorem as_12_4 (v : Value) (w : World) : (Instr.typeAssert (.iface 107 v) 20 22 true).run Tryz.prog w = .ok (.tuple #[.float .f64 0, .bool false]) w := by kernel_rfl
@[go_sem] theorem as_12_5 (v : Value) (w : World) : (Instr.typeAssert (.iface 107 v) 20 139 true).run Tryz.prog w = .ok (.tuple #[.pointer none, .bool false]) w := by kernel_rfl
@[go_sem] theorem as_12_6 (v : Value) (w : World) : (Instr.typeAssert (.iface 107 v) 20 131 true).run Tryz.prog w = .ok (.tuple #[.pointer none, .bool false]) w := by kernel_rfl
@[go_sem] theorem as_12_7 (v : Value) (w : World) : (Instr.typeAssert (.iface 107 v) 20 142 true).run Tryz.prog w = .ok (.tuple #[.pointer none, .bool false]) w := by kernel_rfl
@[go_sem] theorem as_12_8 (v : Value) (w : World) : (Instr.typeAssert (.iface 107 v) 20 144 true).run Tryz.prog w = .ok (.tuple #[.pointer none, .bool false]) w := by kernel_rfl
@[go_sem] theorem as_12_9 (v : Value) (w : World) : (Instr.typeAssert (.iface 107 v) 20 104 true).run Tryz.prog w = .ok (.tuple #[.pointer none, .bool false]) w := by kernel_rfl
@[go_sem] theorem as_12_10 (v : Value) (w : World) : (Instr.typeAssert (.iface 107 v) 20 23 true).run Tryz.prog w = .ok (.tuple #[.slice none 0 0, .bool false]) w := by kernel_rfl
@[go_sem] theorem as_12_11 (v : Value) (w : World) : (Instr.typeAssert (.iface 107 v) 20 148 true).run Tryz.prog w = .ok (.tuple #[.slice none 0 0, .bool false]) w := by kernel_rfl
@[go_sem] theorem as_12_12 (v : Value) (w : World) : (Instr.typeAssert (.iface 107 v) 20 107 true).run Tryz.prog w = .ok (.tuple #[v, .bool true]) w := by kernel_rfl
@[go_sem] theorem as_14_0 (v : Value) (w : World) : (Instr.typeAssert (.iface 109 v) 20 9 true).run Tryz.prog w = .ok (.tuple #[.string ⟨#[]⟩, .bool false]) w := by kernel_rfl
@[go_sem] theorem as_14_1 (v : Value) (w : World) : (Instr.typeAssert (.iface 109 v) 20 4 true).run Tryz.prog w = .ok (.tuple #[.bool false, .bool false]) w := by kernel_rfl
@[go_sem] theorem as_14_2 (v : Value) (w : World) : (Instr.typeAssert (.iface 109 v) 20 3 true).run Tryz.prog w = .ok (.tuple #[.int .i64 0, .bool false]) w := by kernel_rfl
@[go_sem] theorem as_14_3 (v : Value) (w : World) : (Instr.typeAssert (.iface 109 v) 20 2 true).run Tryz.prog w = .ok (.tuple #[.int .i64 0, .bool false]) w := by kernel_rfl
@[go_sem] theorem as_14_4 (v : Value) (w : World) : (Instr.typeAssert (.iface 109 v) 20 22 true).run Tryz.prog w = .ok (.tuple #[.float .f64 0, .bool false]) w := by kernel_rfl
@[go_sem] theorem as_14_5 (v : Value) (w : World) : (Instr.typeAssert (.iface 109 v) 20 139 true).run Tryz.prog w = .ok (.tuple #[.pointer none, .bool false]) w := by kernel_rfl
@[go_sem] theorem as_14_6 (v : Value) (w : World) : (Instr.typeAssert (.iface 109 v) 20 131 true).run Tryz.prog w = .ok (.tuple #[.pointer none, .bool false]) w := by kernel_rfl
@[go_sem] theorem as_14_7 (v : Value) (w : World) : (Instr.typeAssert (.iface 109 v) 20 142 true).run Tryz.prog w = .ok (.tuple #[.pointer none, .bool false]) w := by kernel_rfl
@[go_sem] theorem as_14_8 (v : Value) (w : World) : (Instr.typeAssert (.iface 109 v) 20 144 true).run Tryz.prog w = .ok (.tuple #[.pointer none, .bool false]) w := by kernel_rfl
@[go_sem] theorem as_14_9 (v : Value) (w : World) : (Instr.typeAssert (.iface 109 v) 20 104 true).run Tryz.prog w = .ok (.tuple #[.pointer none, .bool false]) w := by kernel_rfl
@[go_sem] theorem as_14_10 (v : Value) (w : World) : (Instr.typeAssert (.iface 109 v) 20 23 true).run Tryz.prog w = .ok (.tuple #[.slice none 0 0, .bool false]) w := by kernel_rfl
@[go_sem] theorem as_14_11 (v : Value) (w : World) : (Instr.typeAssert (.iface 109 v) 20 148 true).run Tryz.prog w = .ok (.tuple #[.slice none 0 0, .bool false]) w := by kernel_rfl
@[go_sem] theorem as_14_12 (v : Value) (w : World) : (Instr.typeAssert (.iface 109 v) 20 107 true).run Tryz.prog w = .ok (.tuple #[.slice none 0 0, .bool false]) w := by kernel_rfl
@[go_sem] theorem as_14_13 (v : Value) (w : World) : (Instr.typeAssert (.iface 109 v) 20 151 true).run Tryz.prog w = .ok (.tuple #[.slice none 0 0, .bool false]) w := by kernel_rfl
@[go_sem] theorem as_14_14 (v : Value) (w : World) : (Instr.typeAssert (.iface 109 v) 20 109 true).run Tryz.prog w = .ok (.tuple #[v, .bool true]) w := by kernel_rfl
end

inductive J where
  | null
  | str (s : ByteArray)
  | yes (b : Bool)
  | num (x : Nat)
  | int (i : Int)
  | long (i : Int)
  | texts (l : List ByteArray)
  | nums (l : List Nat)
  | list (l : List J)
  | map (ks : List ByteArray) (js : List J)

def numT (x : Nat) : T := .mk 2 emptyS x false [] []
def yesT (b : Bool) : T := .mk 3 emptyS 0 b [] []
def nullT : T := .mk 0 emptyS 0 false [] []
mutual
def treeJ : J → T
  | .null => nullT
  | .str s => textT s
  | .yes b => yesT b
  | .num x => numT x
  | .int i => numT (floatOfInt .f64 i)
  | .long i => numT (floatOfInt .f64 i)
  | .texts l => listT (l.map textT)
  | .nums l => listT (l.map numT)
  | .list l => listT (treesJ l)
  | .map ks js => mapT (ks.zip (treesJ js))
def treesJ : List J → List T
  | [] => []
  | j :: r => treeJ j :: treesJ r
end

/-- Numbers that lie one behind the other. -/
def NumsAt (S : Nat → Prop) (w : World) (a : Option Addr) (n c : Nat) (l : List Nat) : Prop :=
  l.length = n ∧ n ≤ c ∧ c ≤ maxLen ∧ ∀ i x, l[i]? = some x → ∃ b off, a = some ⟨b, off, none⟩ ∧ S b ∧ w.cell? ⟨b, off + i, none⟩ = some (.float .f64 x)
theorem NumsAt.keep {S S' : Nat → Prop} {w w' : World} {a : Option Addr} {n c : Nat} {l : List Nat} (hS : ∀ b, S b → b < w.heap.size → S' b) (k : Keeps S w w') (h : NumsAt S w a n c l) : NumsAt S' w' a n c l := by
  obtain ⟨h1, h2, h3, h4⟩ := h
  refine ⟨h1, h2, h3, fun i x hi => ?_⟩
  obtain ⟨b, off, ha, hb, hc⟩ := h4 i x hi
  exact ⟨b, off, ha, hS b hb (lt_of_cell hc), k.cell hb hc⟩
theorem NumsAt.ext {S : Nat → Prop} {w w' : World} (x : Ext w w') {a : Option Addr} {n c : Nat} {l : List Nat} (h : NumsAt S w a n c l) : NumsAt S w' a n c l := h.keep (fun _ h _ => h) (x.keeps S)
mutual
def JAt (S : Nat → Prop) (w : World) (v : Value) : J → Prop
  | .null => v = .nilIface
  | .str s => v = .iface 9 (.string s)
  | .yes b => v = .iface 4 (.bool b)
  | .num x => v = .iface 22 (.float .f64 x)
  | .int i => v = .iface 3 (.int .i64 i)
  | .long i => v = .iface 2 (.int .i64 i)
  | .texts l => ∃ a n c, v = .iface 23 (.slice a n c) ∧ l.length ≤ 4294967296 ∧ StrsAt S w a n c l
  | .nums l => ∃ a n c, v = .iface 148 (.slice a n c) ∧ l.length ≤ 4294967296 ∧ NumsAt S w a n c l
  | .list l => ∃ a n c vs, v = .iface 107 (.slice a n c) ∧ l.length ≤ 4294967296 ∧ l.length = n ∧ n ≤ c ∧ c ≤ maxLen ∧ (∀ i u, vs[i]? = some u → ∃ b off, a = some ⟨b, off, none⟩ ∧ S b ∧ w.cell? ⟨b, off + i, none⟩ = some u) ∧ JsAt S w vs l
  | .map ks js => ∃ b vs, v = .iface 109 (.map (some b)) ∧ S b ∧ ks.length ≤ 4294967296 ∧ ks.length = js.length ∧ MapAt w b (ks.zip vs) ∧ JsAt S w vs js
def JsAt (S : Nat → Prop) (w : World) : List Value → List J → Prop
  | [], [] => True
  | v :: vs, j :: js => JAt S w v j ∧ JsAt S w vs js
  | _, _ => False
end

theorem JsAt.len {S : Nat → Prop} {w : World} : ∀ {vs : List Value} {js : List J}, JsAt S w vs js → vs.length = js.length
  | [], [], _ => rfl
  | v :: vs, j :: js, h => by simp only [JsAt] at h; simp [JsAt.len h.2]
  | [], _ :: _, h => by simp [JsAt] at h
  | _ :: _, [], h => by simp [JsAt] at h
theorem JsAt.get {S : Nat → Prop} {w : World} : ∀ {vs : List Value} {js : List J}, JsAt S w vs js → ∀ {i : Nat} {v : Value} {j : J}, vs[i]? = some v → js[i]? = some j → JAt S w v j
  | [], _, _, _, _, _, h, _ => by simp at h
  | v :: vs, [], h, _, _, _, _, _ => by simp [JsAt] at h
  | v :: vs, j :: js, h, 0, u, q, hu, hq => by simp at hu hq; subst hu; subst hq; simp only [JsAt] at h; exact h.1
  | v :: vs, j :: js, h, i + 1, u, q, hu, hq => by simp only [JsAt] at h; exact JsAt.get h.2 (by simpa using hu) (by simpa using hq)

mutual
theorem JAt.keep {S S' : Nat → Prop} {w w' : World} (hS : ∀ b, S b → b < w.heap.size → S' b) (k : Keeps S w w') : ∀ (j : J) {v : Value}, JAt S w v j → JAt S' w' v j
  | .null, _, h => by simpa [JAt] using h
  | .str _, _, h => by simpa [JAt] using h
  | .yes _, _, h => by simpa [JAt] using h
  | .num _, _, h => by simpa [JAt] using h
  | .int _, _, h => by simpa [JAt] using h
  | .long _, _, h => by simpa [JAt] using h
  | .texts l, _, h => by
    simp only [JAt] at h ⊢
    obtain ⟨a, n, c, h1, h2, h3⟩ := h
    exact ⟨a, n, c, h1, h2, h3.keep hS k⟩
  | .nums l, _, h => by
    simp only [JAt] at h ⊢
    obtain ⟨a, n, c, h1, h2, h3⟩ := h
    exact ⟨a, n, c, h1, h2, h3.keep hS k⟩
  | .list l, _, h => by
    simp only [JAt] at h ⊢
    obtain ⟨a, n, c, vs, h1, h2, h3, h4, h5, h6, h7⟩ := h
    refine ⟨a, n, c, vs, h1, h2, h3, h4, h5, fun i u hi => ?_, JsAt.keep hS k l h7⟩
    obtain ⟨b, off, ha, hb, hc⟩ := h6 i u hi
    exact ⟨b, off, ha, hS b hb (lt_of_cell hc), k.cell hb hc⟩
  | .map ks js, _, h => by
    simp only [JAt] at h ⊢
    obtain ⟨b, vs, h1, h2, h3, h4, h5, h6⟩ := h
    exact ⟨b, vs, h1, hS b h2 h5.lt, h3, h4, h5.keep (k b h2 h5.lt), JsAt.keep hS k js h6⟩
theorem JsAt.keep {S S' : Nat → Prop} {w w' : World} (hS : ∀ b, S b → b < w.heap.size → S' b) (k : Keeps S w w') : ∀ (js : List J) {vs : List Value}, JsAt S w vs js → JsAt S' w' vs js
  | [], [], _ => by simp [JsAt]
  | j :: js, v :: vs, h => by
    simp only [JsAt] at h ⊢
    exact ⟨JAt.keep hS k j h.1, JsAt.keep hS k js h.2⟩
  | [], _ :: _, h => by simp [JsAt] at h
  | _ :: _, [], h => by simp [JsAt] at h
end
theorem JAt.ext {S : Nat → Prop} {w w' : World} (x : Ext w w') {j : J} {v : Value} (h : JAt S w v j) : JAt S w' v j := JAt.keep (fun _ h _ => h) (x.keeps S) j h
theorem JAt.to {S S' : Nat → Prop} {w : World} {j : J} {v : Value} (h : JAt S w v j) (hS : ∀ b, S b → b < w.heap.size → S' b) : JAt S' w v j := JAt.keep hS (fun _ _ _ => rfl) j h
theorem JsAt.ext {S : Nat → Prop} {w w' : World} (x : Ext w w') {js : List J} {vs : List Value} (h : JsAt S w vs js) : JsAt S w' vs js := JsAt.keep (fun _ h _ => h) (x.keeps S) js h

/-- What a value handed over becomes as a tree. -/
def Told (j : J) : Prop := ∀ (S : Nat → Prop) (v : Value) (w : World), JAt S w v j → Calls Tryz.prog 75 #[v] w fun r w' => ∃ g : El, r = .returned g.val ∧ TreeAt (fun b => w.heap.size ≤ b) w' g (treeJ j) ∧ Ext w w'

set_option maxHeartbeats 1000000 in
theorem told_null : Told .null := by
  intro S v w h
  simp only [JAt] at h
  subst h
  go_enter Tryz.func75, Tryz.ntmps75
  go_wp2_with fail
  refine post_tree rfl rfl (Box.at rfl _ _) rfl ⟨⟨0, ⟨#[]⟩, 0, false, none, 0, 0, none, 0, 0⟩, rfl, TreeAt.of rfl rfl rfl rfl (strs_none _) (kids_none _), by (repeat (first | exact ext_refl _ | assumption | refine ext_alloc ?_ _ | refine ext_drew ?_ | refine ext_set ?_ (by simp) _ | refine ext_trans ?_ (by assumption)))⟩
set_option maxHeartbeats 1000000 in
theorem told_str (s : ByteArray) : Told (.str s) := by
  intro S v w h
  simp only [JAt] at h
  subst h
  go_enter Tryz.func75, Tryz.ntmps75
  go_wp2_with fail
  refine post_tree rfl rfl (Box.at rfl _ _) rfl ⟨⟨1, s, 0, false, none, 0, 0, none, 0, 0⟩, rfl, TreeAt.of rfl rfl rfl rfl (strs_none _) (kids_none _), by (repeat (first | exact ext_refl _ | assumption | refine ext_alloc ?_ _ | refine ext_drew ?_ | refine ext_set ?_ (by simp) _ | refine ext_trans ?_ (by assumption)))⟩
set_option maxHeartbeats 1000000 in
theorem told_yes (b : Bool) : Told (.yes b) := by
  intro S v w h
  simp only [JAt] at h
  subst h
  go_enter Tryz.func75, Tryz.ntmps75
  go_wp2_with fail
  refine post_tree rfl rfl (Box.at rfl _ _) rfl ⟨⟨3, ⟨#[]⟩, 0, b, none, 0, 0, none, 0, 0⟩, rfl, TreeAt.of rfl rfl rfl rfl (strs_none _) (kids_none _), by (repeat (first | exact ext_refl _ | assumption | refine ext_alloc ?_ _ | refine ext_drew ?_ | refine ext_set ?_ (by simp) _ | refine ext_trans ?_ (by assumption)))⟩
set_option maxHeartbeats 1000000 in
theorem told_num (x : Nat) : Told (.num x) := by
  intro S v w h
  simp only [JAt] at h
  subst h
  go_enter Tryz.func75, Tryz.ntmps75
  go_wp2_with fail
  refine post_tree rfl rfl (Box.at rfl _ _) rfl ⟨⟨2, ⟨#[]⟩, x, false, none, 0, 0, none, 0, 0⟩, rfl, TreeAt.of rfl rfl rfl rfl (strs_none _) (kids_none _), by (repeat (first | exact ext_refl _ | assumption | refine ext_alloc ?_ _ | refine ext_drew ?_ | refine ext_set ?_ (by simp) _ | refine ext_trans ?_ (by assumption)))⟩
set_option maxHeartbeats 1000000 in
theorem told_int (i : Int) : Told (.int i) := by
  intro S v w h
  simp only [JAt] at h
  subst h
  go_enter Tryz.func75, Tryz.ntmps75
  go_wp2_with fail
  refine post_tree rfl rfl (Box.at rfl _ _) rfl ⟨⟨2, ⟨#[]⟩, _, false, none, 0, 0, none, 0, 0⟩, rfl, TreeAt.of rfl rfl rfl rfl (strs_none _) (kids_none _), by (repeat (first | exact ext_refl _ | assumption | refine ext_alloc ?_ _ | refine ext_drew ?_ | refine ext_set ?_ (by simp) _ | refine ext_trans ?_ (by assumption)))⟩
set_option maxHeartbeats 1000000 in
theorem told_long (i : Int) : Told (.long i) := by
  intro S v w h
  simp only [JAt] at h
  subst h
  go_enter Tryz.func75, Tryz.ntmps75
  go_wp2_with fail
  refine post_tree rfl rfl (Box.at rfl _ _) rfl ⟨⟨2, ⟨#[]⟩, _, false, none, 0, 0, none, 0, 0⟩, rfl, TreeAt.of rfl rfl rfl rfl (strs_none _) (kids_none _), by (repeat (first | exact ext_refl _ | assumption | refine ext_alloc ?_ _ | refine ext_drew ?_ | refine ext_set ?_ (by simp) _ | refine ext_trans ?_ (by assumption)))⟩
end Go.Proofs.YtfngaoicoecncaaGreatDoor
