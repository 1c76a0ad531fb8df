/-
  Maps with texts for keys: what a block of memory that is a map holds, as a list of pairs of which the last one of a key counts.
-/
import Derived.Test.YtfngaoicoecncaaGreatDoorOwn
import Derived.Test.YtfngaoicoecncaaGreatDoorPlain
import Derived.Maps.RangeWalk
import Derived.Maps.OwnOps
import Derived.StringKeys
import Derived.Sort.KeysCollected
import Derived.Sort.OwnSorted
namespace Go.Proofs.YtfngaoicoecncaaGreatDoor
open Go.RowKit Go.Maps
attribute [go_sem] run_makeMap

abbrev hR : Value → Option (DataW Value × List MemPlace) := fun v => some (.held v, [])
theorem lawK : Keyed Tryz.prog 9 := Maps.string_keyed Tryz.underlying9
abbrev litK (k : ByteArray) : Lit := .string k.data.toList
theorem litK_inj {a b : ByteArray} (h : litK a = litK b) : a = b := by
  simp only [litK, Lit.string.injEq] at h
  exact ByteArray.ext (Array.toList_inj.1 h)
theorem isKey (k : ByteArray) : WideAt.IsKeyLit (litK k) := by simp [WideAt.IsKeyLit]

/-- Block b is a map that holds these pairs, the last one of a key counting. -/
def MapAt (w : World) (b : Nat) (ps : List (ByteArray × Value)) : Prop := ∃ D n, w.ownsMap Tryz.prog 9 hR b n D ∧ n ≤ ps.length ∧ (∀ k u, lastOf ps k = some u → ∀ z, D.atKey (litK k) z = .held u) ∧ (∀ k, lastOf ps k = none → has D (litK k) = false) ∧ ∀ p ∈ ps, p.1.size ≤ maxLen

section
variable {w w' : World} {b : Nat} {ps : List (ByteArray × Value)}
theorem MapAt.lt (h : MapAt w b ps) : b < w.heap.size := by obtain ⟨_, _, h, _⟩ := h; exact h.lt
theorem MapAt.keep (h : MapAt w b ps) (e : w'.heap[b]? = w.heap[b]?) : MapAt w' b ps := by
  obtain ⟨D, n, ⟨es, clock, hb, F⟩, h2⟩ := h
  exact ⟨D, n, ⟨es, clock, e.trans hb, F⟩, h2⟩
theorem MapAt.ext (h : MapAt w b ps) (x : Ext w w') : MapAt w' b ps := h.keep (x.block b h.lt)
theorem MapAt.grown {row : Option Nat} (h : MapAt w b ps) (g : w.grownBy w' row) (hne : some b ≠ row) : MapAt w' b ps := h.keep (g.block b h.lt hne)
theorem MapAt.made (w : World) : MapAt (w.alloc (.map #[] 0)) w.heap.size [] :=
  ⟨_, _, World.ownsMap_made w Tryz.prog 9 hR, Nat.le_refl _, fun k u h => by simp [lastOf] at h, fun k _ => rfl, fun p h => by simp at h⟩
theorem MapAt.set (h : MapAt w b ps) {p : Addr} (hne : b ≠ p.block) (v : Value) : MapAt (w.setCell p v) b ps := h.keep (Below.heap_setCell _ _ _ _ hne)
theorem MapAt.drew (h : MapAt w b ps) : MapAt w.drew b ps := h.keep rfl
theorem MapAt.alloc (h : MapAt w b ps) (o : Obj) : MapAt (w.alloc o) b ps := h.ext (ext_alloc (ext_refl _) o)

/-- 'm[key] = v'. -/
theorem MapAt.update (h : MapAt w b ps) {t e : TypeId} (ht : Tryz.prog.underlying t = some (.map 9 e)) (hn : ps.length < maxLen) {key : ByteArray} (hk : key.size ≤ maxLen) (v : Value) :
    ∃ w', (Instr.mapUpdate t (.map (some b)) (.string key) v).run Tryz.prog w = .ok () w' ∧ MapAt w' b (ps ++ [(key, v)]) ∧ w.grownBy w' (some b) := by
  obtain ⟨D, n, ho, hl, ha, hz, hs⟩ := h
  obtain ⟨w', h1, h2, h3⟩ := ho.update lawK ht (by omega) (WideMaps.keyOf_string_mk Tryz.underlying9 hk) (d := .held v) (ps := []) rfl
  have hm : IsMap D := ho.isMap
  refine ⟨w', h1, ⟨_, _, h2, by simp; omega, fun k u hu z => ?_, fun k hu => ?_, fun p hp => ?_⟩, h3⟩
  · rw [lastOf_snoc] at hu
    by_cases e : key = k
    · subst e
      rw [seq_self] at hu
      simp at hu
      subst hu
      exact atKey_put_same hm (isKey _) _ _
    · rw [seq_false.2 e] at hu
      rw [atKey_put_other (fun e1 => e (litK_inj e1).symm)]
      exact ha k u (by simpa using hu) z
  · rw [lastOf_snoc] at hu
    by_cases e : key = k
    · subst e
      rw [seq_self] at hu
      simp at hu
    · rw [seq_false.2 e] at hu
      rw [has_put_other (fun e1 => e (litK_inj e1).symm)]
      exact hz k (by simpa using hu)
  · rcases List.mem_append.1 hp with hp | hp
    · exact hs p hp
    · simp at hp
      subst hp
      exact hk

/-- 'm[key]' of a key that is there. -/
theorem MapAt.lookup (h : MapAt w b ps) {t e : TypeId} (ht : Tryz.prog.underlying t = some (.map 9 e)) {z : Value} (hz : (zeroValue e).run Tryz.prog w = .ok z w) {key : ByteArray} {v : Value} (hv : lastOf ps key = some v) :
    (Instr.lookup t (.map (some b)) (.string key) false).run Tryz.prog w = .ok v w := by
  obtain ⟨D, n, ho, hl, ha, _, hs⟩ := h
  have hk := hs _ (lastOf_mem hv)
  obtain ⟨u, qs, h1, h2⟩ := ho.lookup lawK ht hz (zd := .held z) (zp := []) rfl (WideMaps.keyOf_string_mk Tryz.underlying9 hk)
  have := ha key v hv (.held z)
  simp only [hR, Option.some.injEq, Prod.mk.injEq] at h2
  have h3 := h2.1.trans this
  simp only [DataW.held.injEq] at h3
  rw [h1, h3]
end

section
variable {ops : Array Oper} {rest : List Oper} {o : Oper} {a : Act} {Q : Exit → Act → World → Prop}
/-- 'm[key] = v', in a walk. -/
theorem wp_put (w : World) (hg : o.guard = none) (m x v : Operand) (t : TypeId) (hop : o.op = Op.mapUpdate t m x v) (e : TypeId) (ht : Tryz.prog.underlying t = some (.map 9 e)) (b : Nat) (ps : List (ByteArray × Value)) (hm : a.eval m = .map (some b)) (hM : MapAt w b ps) (hn : ps.length < maxLen)
    (key : ByteArray) (hx : a.eval x = .string key) (hk : key.size ≤ maxLen) (val : Value) (hv : a.eval v = val)
    (hK : ∀ w', MapAt w' b (ps ++ [(key, val)]) → w.grownBy w' (some b) → wpList Tryz.prog ops Q rest (a.put o.dst undef) w') : wpList Tryz.prog ops Q (o :: rest) a w := by
  refine wpList_plain hg fun K' hK' => ?_
  obtain ⟨w', hrun, r1, r2⟩ := hM.update ht hn hk val
  unfold Oper.wp
  simp [execOp, hop, hm, hx, hv, hrun, Result.andThen]
  exact hK' _ _ (hK w' r1 r2)
end
end Go.Proofs.YtfngaoicoecncaaGreatDoor
