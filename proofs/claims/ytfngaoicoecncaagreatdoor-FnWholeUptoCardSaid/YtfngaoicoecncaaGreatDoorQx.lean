/-
  More on the fields of builders: values of any kind, whole numbers, lists.
-/
import Derived.Test.YtfngaoicoecncaaGreatDoorQ
import Derived.Test.YtfngaoicoecncaaGreatDoorLw
namespace Go.Proofs.YtfngaoicoecncaaGreatDoor
open Go.RowKit

theorem someNe {a b : Nat} (h : a ≠ b) : some a ≠ some b := fun e => h (Option.some.inj e)
theorem PJ.moveB {w W W' : World} {rp : List (ByteArray × Value)} {pj : List (ByteArray × J)} (h : PJ (fun b => b < w.heap.size) W rp pj) (x : Ext w W) (x' : Ext w W') : PJ (fun b => b < w.heap.size) W' rp pj :=
  h.keep (fun _ h _ => h) fun b hb _ => (x'.block b hb).trans (x.block b hb).symm
theorem PJ.wide {S : Nat → Prop} {w : World} {rp : List (ByteArray × Value)} {pj : List (ByteArray × J)} (h : PJ S w rp pj) : PJ (fun _ => True) w rp pj := h.keep (fun _ _ _ => trivial) (fun _ _ _ => rfl)
theorem JAt.no {S : Nat → Prop} {w w' : World} {j : J} {v : Value} (h : JAt (fun _ => False) w v j) : JAt S w' v j := JAt.keep (fun _ h _ => h.elim) (fun _ h => h.elim) j h
theorem op_put {o : Oper} {a : Act} {Q : Exit → Act → World → Prop} {K : Act → World → Prop} (w : World) (m x v : Operand) (t : TypeId) (hop : o.op = Op.mapUpdate t m x v) (e : TypeId) (ht : Tryz.prog.underlying t = some (.map 9 e)) (b : Nat) (ps : List (ByteArray × Value)) (hm : a.eval m = .map (some b)) (hM : MapAt w b ps) (hn : ps.length < maxLen)
    (key : ByteArray) (hx : a.eval x = .string key) (hk : key.size ≤ maxLen) (val : Value) (hv : a.eval v = val)
    (hK : ∀ w', MapAt w' b (ps ++ [(key, val)]) → w.grownBy w' (some b) → K (a.put o.dst undef) w') : o.wp Tryz.prog a w K Q := by
  obtain ⟨w', hrun, r1, r2⟩ := hM.update ht hn hk val
  unfold Oper.wp
  simp [execOp, hop, hm, hx, hv, hrun, Result.andThen]
  exact hK w' r1 r2
/-- A value alone where nothing is set, else a map with it and with what is set. -/
def jShort (v : J) (fix opts : List (ByteArray × J)) : J := if opts.isEmpty then v else jMap (fix ++ opts)
theorem jShort_some {v : J} {fix opts : List (ByteArray × J)} (h : opts ≠ []) : jShort v fix opts = jMap (fix ++ opts) := by
  unfold jShort
  rw [if_neg (by simpa using h)]
/-- The plain value of a scalar. -/
def jOf (t : T) : J := if t.kind = 1 then .str t.text else if t.kind = 2 then .num t.num else .yes t.yes
/-- A field that holds a value of any kind: nothing if it is not set. -/
def FV (v : Value) : Option T → Prop
  | none => v = .nilIface
  | some t => ∃ ty x, v = .iface ty x ∧ ∀ w, JAt (fun _ => False) w v (jOf t)
def jV (k : ByteArray) : Option T → List (ByteArray × J)
  | none => []
  | some t => [(k, jOf t)]
theorem jV_len (k : ByteArray) (o : Option T) : (jV k o).length ≤ 1 := by cases o <;> simp [jV]
theorem jW_len (k : ByteArray) (o : Option T) : (jW k o).length ≤ 1 := by
  cases o with
  | none => simp [jW]
  | some t => unfold jW; dsimp only; split <;> simp
theorem keys_W (k : ByteArray) (o : Option T) : KeysIn (jTree (jW k o)) [k] := fun p hp => by
  cases o with
  | none => simp [jW] at hp
  | some t =>
    unfold jW at hp
    dsimp only at hp
    split at hp
    · simp at hp; subst hp; simp
    · simp at hp
theorem keys_V (k : ByteArray) (o : Option T) : KeysIn (jTree (jV k o)) [k] := fun p hp => by
  cases o with
  | none => simp [jV] at hp
  | some t => simp [jV] at hp; subst hp; simp
theorem noNull_W (k : ByteArray) (o : Option T) : NoNull (jW k o) := fun p hp => by
  cases o with
  | none => simp [jW] at hp
  | some t =>
    unfold jW at hp
    dsimp only at hp
    split at hp
    · simp [treeJ, numT] at hp; subst hp; simp [T.kind]
    · simp at hp
theorem jOf_kind (t : T) : (treeJ (jOf t)).kind ≠ 0 := by
  unfold jOf
  split
  · simp [treeJ, textT, T.kind]
  · split <;> simp [treeJ, numT, yesT, T.kind]
theorem noNull_V (k : ByteArray) (o : Option T) : NoNull (jV k o) := fun p hp => by
  cases o with
  | none => simp [jV] at hp
  | some t => simp [jV] at hp; subst hp; exact jOf_kind t
theorem noNull_J (k : ByteArray) (j : J) (h : (treeJ j).kind ≠ 0) : NoNull [(k, j)] := fun p hp => by simp at hp; subst hp; exact h
theorem scalar_kind {t : T} (h : scalarT t = true) : t.kind = 1 ∨ t.kind = 2 ∨ t.kind = 3 := by
  unfold scalarT scalarF at h
  by_cases h1 : t.kind = 1
  · exact .inl h1
  · by_cases h2 : t.kind = 2
    · exact .inr (.inl h2)
    · refine .inr (.inr ?_)
      simp_all
theorem jOf_same {t : T} (h : scalarT t = true) : sameT (treeJ (jOf t)) t = true := by
  unfold jOf
  rcases scalar_kind h with hk | hk | hk
  · rw [if_pos hk]; exact (same_text hk h).1
  · rw [if_neg (by omega), if_pos hk]; exact same_num hk h
  · rw [if_neg (by omega), if_neg (by omega)]; exact same_yes hk h
theorem jV_same {rs : List (ByteArray × ByteArray)} {ps : List (ByteArray × T)} (hF : FitsP rs ps) (k : ByteArray) : SameL (jTree (jV k (lastOf ps k))) (param ps (k, ⟨#[118]⟩)).toList := by
  have hp : hasS plainK (⟨#[118]⟩ : ByteArray) = true := by simp [plainK, hasS, seq_self]
  cases ho : lastOf ps k with
  | none => simpa [param, ho, jV] using SameL.nil
  | some t => simpa [param, ho, hp, jV] using SameL.one k (jOf_same (fits_last hF ho).1)
theorem same_num2 {t : T} {a : Nat} (h1 : t.kind = 2) (h2 : scalarT t = true) (hq : orderB2 a t.num = true) : sameT (numT a) t = true := by
  obtain ⟨k, x, d, y, ks, xs⟩ := t
  simp only [T.kind] at h1
  subst h1
  simp only [scalarT, scalarF, T.kind, T.text, T.num, T.keys, T.kids] at h2
  have hk : ks = [] := by
    cases ks with
    | nil => rfl
    | cons => simp at h2
  subst hk
  have hx : xs = [] := by
    cases xs with
    | nil => rfl
    | cons => simp at h2
  subst hx
  simp only [T.num] at hq
  simp [numT, sameT, hq]
theorem jW_same {rs : List (ByteArray × ByteArray)} {ps : List (ByteArray × T)} (hF : FitsP rs ps) {k : ByteArray} (hk : kindL rs k = ⟨#[119]⟩) : SameL (jTree (jW k (lastOf ps k))) (param ps (k, ⟨#[119]⟩)).toList := by
  have hp : hasS plainK (⟨#[119]⟩ : ByteArray) = true := by simp [plainK, hasS, seq_self]
  cases ho : lastOf ps k with
  | none => simpa [param, ho, jW] using SameL.nil
  | some t =>
    have hf := fits_last hF ho
    rw [hk] at hf
    obtain ⟨hs, h | h | h | h | h⟩ := hf
    · exact absurd h.1 (by decide)
    · exact absurd h.1 (by decide)
    · obtain ⟨-, h2, z, hz, hq⟩ := h
      rw [jW_some hz]
      have := same_num2 h2 hs hq
      simpa [param, ho, hp, treeJ] using SameL.one k this
    · exact absurd h.1 (by decide)
    · exact absurd h (by decide)
/-- All settings of a name are whole numbers. -/
def WholeAt (ps : List (ByteArray × T)) (k : ByteArray) : Prop := ∀ p ∈ ps, seq p.1 k = true → wholeP p.2.num
theorem whole_of {rs : List (ByteArray × ByteArray)} {ps : List (ByteArray × T)} (hF : FitsP rs ps) {k : ByteArray} (hk : kindL rs k = ⟨#[119]⟩) : WholeAt ps k := fun p hp hs => by
  obtain ⟨i, hi⟩ := List.getElem?_of_mem hp
  have hf := hF i p hi
  rw [seq_iff.1 hs, hk] at hf
  obtain ⟨-, h | h | h | h | h⟩ := hf
  · exact absurd h.1 (by decide)
  · exact absurd h.1 (by decide)
  · exact h.2.2
  · exact absurd h.1 (by decide)
  · exact absurd h (by decide)
/-- All settings of a name are scalars. -/
def ScalarAt (ps : List (ByteArray × T)) (k : ByteArray) : Prop := ∀ p ∈ ps, seq p.1 k = true → scalarT p.2 = true
theorem scalar_of {rs : List (ByteArray × ByteArray)} {ps : List (ByteArray × T)} (hF : FitsP rs ps) (k : ByteArray) : ScalarAt ps k := fun p hp _ => by
  obtain ⟨i, hi⟩ := List.getElem?_of_mem hp
  exact (hF i p hi).1
end Go.Proofs.YtfngaoicoecncaaGreatDoor
