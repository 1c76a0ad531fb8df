/-
  The settings of a builder that are one value, as they are set at last.
-/
import Derived.Test.YtfngaoicoecncaaDoorP2
namespace Go.Proofs.YtfngaoicoecncaaDoor
open Go.RowKit

/-- A list of two texts each. -/
def RowsAt (S : Nat → Prop) (w : World) (a : Option Addr) (n c : Nat) (rs : List (ByteArray × ByteArray)) : Prop :=
  rs.length = n ∧ n ≤ c ∧ c ≤ maxLen ∧ ∀ i r, rs[i]? = some r → ∃ b off, a = some ⟨b, off, none⟩ ∧ S b ∧ w.cell? ⟨b, off + i * 2, none⟩ = some (.string r.1) ∧ w.cell? ⟨b, off + i * 2 + 1, none⟩ = some (.string r.2)
theorem RowsAt.keep {S S' : Nat → Prop} {w w' : World} {a : Option Addr} {n c : Nat} {rs : List (ByteArray × ByteArray)} (hS : ∀ b, S b → b < w.heap.size → S' b) (k : Keeps S w w') (h : RowsAt S w a n c rs) : RowsAt S' w' a n c rs := by
  obtain ⟨h1, h2, h3, h4⟩ := h
  refine ⟨h1, h2, h3, fun i r hi => ?_⟩
  obtain ⟨b, off, ha, hb, hc, hd⟩ := h4 i r hi
  exact ⟨b, off, ha, hS b hb (lt_of_cell hc), k.cell hb hc, k.cell hb hd⟩
theorem RowsAt.ext {S : Nat → Prop} {w w' : World} (x : Ext w w') {a : Option Addr} {n c : Nat} {rs : List (ByteArray × ByteArray)} (h : RowsAt S w a n c rs) : RowsAt S w' a n c rs := h.keep (fun _ h _ => h) (x.keeps S)
theorem flat2_get : ∀ (rs : List (ByteArray × ByteArray)) (i : Nat) (r : ByteArray × ByteArray), rs[i]? = some r → (rs.flatMap fun r => [Value.string r.1, .string r.2])[i * 2]? = some (.string r.1) ∧ (rs.flatMap fun r => [Value.string r.1, .string r.2])[i * 2 + 1]? = some (.string r.2)
  | [], _, _, h => by cases h
  | r' :: l, 0, r, h => by simp at h; subst h; simp
  | r' :: l, i + 1, r, h => by
    have := flat2_get l i r (by simpa using h)
    rw [List.flatMap_cons, show (i + 1) * 2 = i * 2 + 2 by omega]
    exact ⟨by simpa using this.1, by simpa using this.2⟩
theorem Own2.rows {S : Nat → Prop} {w : World} {base : Nat} {v : Value} {rs : List (ByteArray × ByteArray)} (h : Own2 w base v rs) (hS : ∀ b, v.ownBlock = some b → S b) : ∃ a c, v = .slice a rs.length c ∧ RowsAt S w a rs.length c rs := by
  obtain ⟨h1, h2⟩ := id h
  rcases h2 with ⟨rfl, h0⟩ | ⟨g, cap, cur, rfl, hg, hh, h3, h4, h5, h6⟩
  · refine ⟨none, 0, by rw [h0], rfl, by omega, by simp [maxLen], fun i s hi => ?_⟩
    rw [List.length_eq_zero_iff.1 h0] at hi
    cases hi
  · refine ⟨_, _, rfl, rfl, h3, h4, fun i r hi => ⟨g, 0, rfl, hS g rfl, ?_, ?_⟩⟩
    · have := World.ownsRow.cells h (g := g) rfl (i * 2) (.string r.1) (flat2_get rs i r hi).1
      simpa [Addr.add_lit] using this
    · have := World.ownsRow.cells h (g := g) rfl (i * 2 + 1) (.string r.2) (flat2_get rs i r hi).2
      rw [Addr.add_lit] at this
      rw [show 0 + i * 2 + 1 = 0 + (i * 2 + 1) by omega]
      exact this

def plainK : List ByteArray := [⟨#[116]⟩, ⟨#[110]⟩, ⟨#[119]⟩, ⟨#[98]⟩, ⟨#[118]⟩]
def param (sets : List (ByteArray × T)) (r : ByteArray × ByteArray) : Option (ByteArray × T) := if hasS plainK r.2 then (lastOf sets r.1).map fun t => (r.1, t) else none
def paramsL (rs : List (ByteArray × ByteArray)) (sets : List (ByteArray × T)) : List (ByteArray × T) := rs.filterMap (param sets)
theorem params_snoc {rs : List (ByteArray × ByteArray)} {sets : List (ByteArray × T)} {j : Nat} {r : ByteArray × ByteArray} (h : rs[j]? = some r) : paramsL (rs.take (j + 1)) sets = paramsL (rs.take j) sets ++ (param sets r).toList := by
  unfold paramsL
  rw [take_snoc h, List.filterMap_append]
  simp [List.filterMap_cons]
  cases param sets r <;> rfl
theorem params_len (rs : List (ByteArray × ByteArray)) (sets : List (ByteArray × T)) : (paramsL rs sets).length ≤ rs.length := List.length_filterMap_le _ _

/-- Names with trees of which the trees lie elsewhere. -/
def Pk (S : Nat → Prop) (w : World) (es : List (ByteArray × El)) (ps : List (ByteArray × T)) : Prop := ps.length = es.length ∧ ∀ (i : Nat) (e : ByteArray × El) (p : ByteArray × T), es[i]? = some e → ps[i]? = some p → e.1 = p.1 ∧ TreeAt S w e.2 p.2
theorem Pk.keep {S S' : Nat → Prop} {w w' : World} {es : List (ByteArray × El)} {ps : List (ByteArray × T)} (hS : ∀ b, S b → b < w.heap.size → S' b) (k : Keeps S w w') (h : Pk S w es ps) : Pk S' w' es ps :=
  ⟨h.1, fun i e p h1 h2 => ⟨(h.2 i e p h1 h2).1, TreeAt.keep hS k _ (h.2 i e p h1 h2).2⟩⟩
theorem Pk.ext {S : Nat → Prop} {w w' : World} (x : Ext w w') {es : List (ByteArray × El)} {ps : List (ByteArray × T)} (h : Pk S w es ps) : Pk S w' es ps := h.keep (fun _ h _ => h) (x.keeps S)
theorem Pk.append {S : Nat → Prop} {w : World} {es fs : List (ByteArray × El)} {ps qs : List (ByteArray × T)} (h : Pk S w es ps) (k : Pk S w fs qs) : Pk S w (es ++ fs) (ps ++ qs) := by
  refine ⟨by simp [h.1, k.1], fun i e p h1 h2 => ?_⟩
  by_cases hi : i < es.length
  · rw [List.getElem?_append_left hi] at h1
    rw [List.getElem?_append_left (by rw [h.1]; exact hi)] at h2
    exact h.2 i e p h1 h2
  · rw [List.getElem?_append_right (by omega)] at h1
    rw [List.getElem?_append_right (by rw [h.1]; omega), h.1] at h2
    exact k.2 _ e p h1 h2
theorem Pk.one {S : Nat → Prop} {w : World} {k : ByteArray} {e : El} {t : T} (h : TreeAt S w e t) : Pk S w [(k, e)] [(k, t)] :=
  ⟨rfl, fun i e' p h1 h2 => by
    cases i with
    | zero => simp at h1 h2; subst h1; subst h2; exact ⟨rfl, h⟩
    | succ i => simp at h1⟩

theorem hasK (s : ByteArray) (w2 : World) (v : Nat) (hb : Box w2 v #[.string ⟨#[116]⟩, .string ⟨#[110]⟩, .string ⟨#[119]⟩, .string ⟨#[98]⟩, .string ⟨#[118]⟩] 9) :
    Calls Tryd.prog 37 #[.slice (some ⟨v, 0, none⟩) 5 5, .string s] w2 fun r w' => r = .returned (.bool (hasS plainK s)) ∧ w2 = w' :=
  has_any (S := fun _ => True) (some ⟨v, 0, none⟩) 5 5 plainK s w2 ⟨rfl, Nat.le_refl _, by simp [maxLen], fun i s hi => ⟨v, 0, rfl, trivial, by
    match i, hi with
    | 0, hi => simp [plainK] at hi; subst hi; exact hb.cell 0 _ rfl
    | 1, hi => simp [plainK] at hi; subst hi; exact hb.cell 1 _ rfl
    | 2, hi => simp [plainK] at hi; subst hi; exact hb.cell 2 _ rfl
    | 3, hi => simp [plainK] at hi; subst hi; exact hb.cell 3 _ rfl
    | 4, hi => simp [plainK] at hi; subst hi; exact hb.cell 4 _ rfl
    | i + 5, hi => simp [plainK] at hi⟩⟩

end Go.Proofs.YtfngaoicoecncaaDoor
