/-
  What a builder's fields hold behind settings: of each setting the last one.
-/
import Derived.Test.YtfngaoicoecncaaGreatDoorSrc
import Derived.Test.YtfngaoicoecncaaGreatDoorR2
namespace Go.Proofs.YtfngaoicoecncaaGreatDoor
open Go.RowKit

/-- A field that is a text: empty if it is not set. -/
def fT (o : Option T) : ByteArray := match o with | none => emptyS | some t => t.text
/-- A field that leads to a number, to yes or no, to a whole number. -/
def FN (S : Nat → Prop) (w : World) (v : Option Addr) : Option T → Prop
  | none => v = none
  | some t => ∃ c, v = some ⟨c, 0, none⟩ ∧ S c ∧ w.cell? ⟨c, 0, none⟩ = some (.float .f64 t.num)
def FY (S : Nat → Prop) (w : World) (v : Option Addr) : Option T → Prop
  | none => v = none
  | some t => ∃ c, v = some ⟨c, 0, none⟩ ∧ S c ∧ w.cell? ⟨c, 0, none⟩ = some (.bool t.yes)
def FW (S : Nat → Prop) (w : World) (v : Option Addr) : Option T → Prop
  | none => v = none
  | some t => ∃ c z, v = some ⟨c, 0, none⟩ ∧ S c ∧ w.cell? ⟨c, 0, none⟩ = some (.int .i64 z) ∧ floatToIntVal .f64 t.num .i64 = some z
theorem FN.keep {S S' : Nat → Prop} {w w' : World} {v : Option Addr} {o : Option T} (hS : ∀ b, S b → b < w.heap.size → S' b) (k : Keeps S w w') (h : FN S w v o) : FN S' w' v o := by
  cases o with
  | none => exact h
  | some t => obtain ⟨c, h1, h2, h3⟩ := h; exact ⟨c, h1, hS c h2 (lt_of_cell h3), k.cell h2 h3⟩
theorem FY.keep {S S' : Nat → Prop} {w w' : World} {v : Option Addr} {o : Option T} (hS : ∀ b, S b → b < w.heap.size → S' b) (k : Keeps S w w') (h : FY S w v o) : FY S' w' v o := by
  cases o with
  | none => exact h
  | some t => obtain ⟨c, h1, h2, h3⟩ := h; exact ⟨c, h1, hS c h2 (lt_of_cell h3), k.cell h2 h3⟩
theorem FW.keep {S S' : Nat → Prop} {w w' : World} {v : Option Addr} {o : Option T} (hS : ∀ b, S b → b < w.heap.size → S' b) (k : Keeps S w w') (h : FW S w v o) : FW S' w' v o := by
  cases o with
  | none => exact h
  | some t => obtain ⟨c, z, h1, h2, h3, h4⟩ := h; exact ⟨c, z, h1, hS c h2 (lt_of_cell h3), k.cell h2 h3, h4⟩
theorem FN.ext {S : Nat → Prop} {w w' : World} {v : Option Addr} {o : Option T} (x : Ext w w') (h : FN S w v o) : FN S w' v o := h.keep (fun _ h _ => h) (x.keeps S)
theorem FY.ext {S : Nat → Prop} {w w' : World} {v : Option Addr} {o : Option T} (x : Ext w w') (h : FY S w v o) : FY S w' v o := h.keep (fun _ h _ => h) (x.keeps S)
theorem FW.ext {S : Nat → Prop} {w w' : World} {v : Option Addr} {o : Option T} (x : Ext w w') (h : FW S w v o) : FW S w' v o := h.keep (fun _ h _ => h) (x.keeps S)

/-- One setting more. -/
theorem last_hit {ps : List (ByteArray × T)} {j : Nat} {p : ByteArray × T} (hp : ps[j]? = some p) {k : ByteArray} (h : seq p.1 k = true) : lastOf (ps.take (j + 1)) k = some p.2 := by
  rw [take_snoc hp, lastOf_snoc, h]; rfl
theorem last_miss {ps : List (ByteArray × T)} {j : Nat} {p : ByteArray × T} (hp : ps[j]? = some p) {k : ByteArray} (h : seq p.1 k = false) : lastOf (ps.take (j + 1)) k = lastOf (ps.take j) k := by
  rw [take_snoc hp, lastOf_snoc, h]; rfl
theorem last_other {ps : List (ByteArray × T)} {j : Nat} {p : ByteArray × T} (hp : ps[j]? = some p) {k k' : ByteArray} (h : seq p.1 k' = true) (hne : seq k' k = false) : lastOf (ps.take (j + 1)) k = lastOf (ps.take j) k :=
  last_miss hp (by rw [seq_iff.1 h]; exact hne)

def jW (k : ByteArray) : Option T → List (ByteArray × J)
  | none => []
  | some t => match floatToIntVal .f64 t.num .i64 with | some z => [(k, .int z)] | none => []
theorem jW_some {k : ByteArray} {t : T} {z : Int} (h : floatToIntVal .f64 t.num .i64 = some z) : jW k (some t) = [(k, .int z)] := by simp only [jW, h]
/-- Names with values, and what is handed over under them. -/
def PJ (S : Nat → Prop) (w : World) (rp : List (ByteArray × Value)) (pj : List (ByteArray × J)) : Prop := rp.map Prod.fst = pj.map Prod.fst ∧ JsAt S w (rp.map Prod.snd) (pj.map Prod.snd)
theorem PJ.nil (S : Nat → Prop) (w : World) : PJ S w [] [] := ⟨rfl, by simp [JsAt]⟩
theorem JsAt.snoc {S : Nat → Prop} {w : World} : ∀ {vs : List Value} {js : List J} {v : Value} {j : J}, JsAt S w vs js → JAt S w v j → JsAt S w (vs ++ [v]) (js ++ [j])
  | [], [], _, _, _, h => by simpa [JsAt] using h
  | v :: vs, q :: js, _, _, h, h2 => by simp only [JsAt, List.cons_append] at h ⊢; exact ⟨h.1, JsAt.snoc h.2 h2⟩
  | [], _ :: _, _, _, h, _ => by simp [JsAt] at h
  | _ :: _, [], _, _, h, _ => by simp [JsAt] at h
theorem PJ.snoc {S : Nat → Prop} {w : World} {rp : List (ByteArray × Value)} {pj : List (ByteArray × J)} (h : PJ S w rp pj) {k : ByteArray} {v : Value} {j : J} (hj : JAt S w v j) : PJ S w (rp ++ [(k, v)]) (pj ++ [(k, j)]) :=
  ⟨by simp [h.1], by simpa using JsAt.snoc h.2 hj⟩
theorem PJ.keep {S S' : Nat → Prop} {w w' : World} {rp : List (ByteArray × Value)} {pj : List (ByteArray × J)} (hS : ∀ b, S b → b < w.heap.size → S' b) (k : Keeps S w w') (h : PJ S w rp pj) : PJ S' w' rp pj := ⟨h.1, JsAt.keep hS k _ h.2⟩
theorem PJ.len {S : Nat → Prop} {w : World} {rp : List (ByteArray × Value)} {pj : List (ByteArray × J)} (h : PJ S w rp pj) : rp.length = pj.length := by simpa using congrArg List.length h.1
theorem zip_unzip {α : Type} : ∀ l : List (ByteArray × α), (l.map Prod.fst).zip (l.map Prod.snd) = l
  | [] => rfl
  | p :: r => by simp [zip_unzip r]
/-- Names with what is handed over under them, as a map. -/
def jMap (pj : List (ByteArray × J)) : J := .map (pj.map Prod.fst) (pj.map Prod.snd)
theorem PJ.map {S : Nat → Prop} {w : World} {b : Nat} {rp : List (ByteArray × Value)} {pj : List (ByteArray × J)} (h : PJ S w rp pj) (hM : MapAt w b rp) (hS : S b) (hl : pj.length ≤ 65536) : JAt S w (.iface 109 (.map (some b))) (jMap pj) := by
  unfold jMap
  simp only [JAt]
  refine ⟨b, rp.map Prod.snd, rfl, hS, by simp; omega, by simp, ?_, h.2⟩
  rw [← h.1, zip_unzip]
  exact hM
theorem treeJ_jMap (pj : List (ByteArray × J)) : treeJ (jMap pj) = mapT (pj.map fun p => (p.1, treeJ p.2)) := by
  unfold jMap
  simp only [treeJ]
  congr 1
  induction pj with
  | nil => rfl
  | cons p r ih => simp [treesJ, ih]

/-- What a text gives, if it is not empty; a number, if there is one .. -/
def jT (k : ByteArray) (o : Option T) : List (ByteArray × J) := if fT o = emptyS then [] else [(k, .str (fT o))]
def jN (k : ByteArray) : Option T → List (ByteArray × J)
  | none => []
  | some t => [(k, .num t.num)]
def jY (k : ByteArray) : Option T → List (ByteArray × J)
  | none => []
  | some t => [(k, .yes t.yes)]
theorem emptyS_list : emptyS.toList = [] := by rw [Lib.toList_data]
theorem jT_none {k : ByteArray} {v : ByteArray} {o : Option T} (h : v = fT o) (he : v.toList.isEmpty = true) : jT k o = [] := by
  have : fT o = emptyS := by rw [← h]; exact toList_inj (by rw [List.isEmpty_iff.1 he, emptyS_list])
  rw [jT, if_pos this]
theorem jT_some {k : ByteArray} {v : ByteArray} {o : Option T} (h : v = fT o) (he : v.toList.isEmpty = false) : jT k o = [(k, .str v)] := by
  have : ¬ fT o = emptyS := fun e => by
    rw [← h] at e
    rw [e, emptyS_list] at he
    cases he
  rw [jT, if_neg this, h]
theorem jT_len (k : ByteArray) (o : Option T) : (jT k o).length ≤ 1 := by unfold jT; split <;> simp
theorem jN_len (k : ByteArray) (o : Option T) : (jN k o).length ≤ 1 := by cases o <;> simp [jN]
theorem jY_len (k : ByteArray) (o : Option T) : (jY k o).length ≤ 1 := by cases o <;> simp [jY]
theorem PJ.no {S : Nat → Prop} {w : World} {rp : List (ByteArray × Value)} {pj : List (ByteArray × J)} (h : PJ (fun _ => False) w rp pj) : PJ S w rp pj := h.keep (fun _ h _ => h.elim) (fun _ h => h.elim)
theorem PJ.move {w w' : World} {rp : List (ByteArray × Value)} {pj : List (ByteArray × J)} (h : PJ (fun _ => False) w rp pj) : PJ (fun _ => False) w' rp pj := h.keep (fun _ h _ => h) (fun _ h => h.elim)
/-- A map with one name. -/
theorem jMap_one {S : Nat → Prop} {w : World} {b : Nat} {k : ByteArray} {v : Value} {j : J} (hM : MapAt w b [(k, v)]) (hS : S b) (hj : JAt S w v j) : JAt S w (.iface 109 (.map (some b))) (jMap [(k, j)]) :=
  PJ.map (rp := [(k, v)]) ⟨rfl, by simp only [List.map_cons, List.map_nil, JsAt]; exact ⟨hj, trivial⟩⟩ hM hS (by simp)
end Go.Proofs.YtfngaoicoecncaaGreatDoor
