/-
  The last value of a setting; lists of names with trees that a call makes.
-/
import Derived.Test.YtfngaoicoecncaaDoorP1
import Derived.Laws.OwnMore
namespace Go.Proofs.YtfngaoicoecncaaDoor
open Go.RowKit

theorem lastOf_none {α : Type} {ps : List (ByteArray × α)} {k : ByteArray} (h : ∀ (i : Nat) (p : ByteArray × α), ps[i]? = some p → p.1 ≠ k) : lastOf ps k = none := by
  cases hl : lastOf ps k with
  | none => rfl
  | some v =>
    obtain ⟨i, hi⟩ := List.getElem?_of_mem (lastOf_mem hl)
    exact absurd rfl (h i _ hi)
theorem lastOf_at {α : Type} : ∀ {ps : List (ByteArray × α)} {k : ByteArray} {i : Nat} {p : ByteArray × α}, ps[i]? = some p → p.1 = k → (∀ (q : Nat) (u : ByteArray × α), i < q → ps[q]? = some u → u.1 ≠ k) → lastOf ps k = some p.2
  | [], _, _, _, h, _, _ => by simp at h
  | p0 :: r, k, 0, p, h, hk, hq => by
    simp at h
    subst h
    rw [lastOf_cons, lastOf_none fun i u hu => hq (i + 1) u (by omega) (by simpa using hu)]
    simp [seq_iff.2 hk]
  | p0 :: r, k, i + 1, p, h, hk, hq => by
    rw [lastOf_cons, lastOf_at (ps := r) (i := i) (by simpa using h) hk fun q u h1 h2 => hq (q + 1) u (by omega) (by simpa using h2)]
    rfl

set_option maxHeartbeats 1000000 in
theorem last_any {S : Nat → Prop} (a : Option Addr) (n c : Nat) (ps : List (ByteArray × T)) (name : ByteArray) (w : World) (h : PairsAt S w a n c ps) :
    Calls Tryd.prog 11 #[.slice a n c, .string name] w fun r w' => ∃ g : El, r = .returned (.tuple #[g.val, .bool (lastOf ps name).isSome]) ∧ TreeAt S w' g ((lastOf ps name).getD nullT) ∧ Ext w w' := by
  obtain ⟨hl, hn, hm, hc⟩ := h
  unfold maxLen at hm
  have HL := Lib.hid hl
  clear hl
  go_enter Tryd.func11, Tryd.ntmps11
  go_wp2_with fail
  go_loopw [6] (fun i wr => wr = w.alloc (.cells (El.arr El0) 29) ∧ ∃ j : Nat, j ≤ n ∧ i = .int .i64 ((j : Int) - 1) ∧ ∀ q u, j ≤ q → ps[q]? = some u → u.1 ≠ name) (fun i _ => (intOf i + 1).toNat)
  case atStart =>
    exact ⟨rfl, n, Nat.le_refl _, rfl, fun q u h1 h2 => by have := (List.getElem?_eq_some_iff.1 h2).1; have := HL.out; omega⟩
  case round =>
    obtain ⟨rfl, j, hj, rfl, hq⟩ := hrel
    have HQ := Lib.hid hq
    clear hq
    have hb : Box (w.alloc (.cells (El.arr El0) 29)) w.heap.size (El.arr El0) 29 := Box.at rfl _ _
    obtain ⟨o0, o1, o2, o3, o4, o5⟩ := hb.six
    have f0 := hb.free 0
    have f1 := hb.free 1
    have f2 := hb.free 2
    have f3 := hb.free 3
    have f4 := hb.free 4
    have f5 := hb.free 5
    by_cases h0 : 0 < j
    · obtain ⟨p, hp⟩ := some_of_lt HL.out (show j - 1 < n by omega)
      obtain ⟨b, off, g, rfl, hSb, hc7, hT⟩ := hc (j - 1) p hp
      have HP := Lib.hid hp
      clear hp
      have hx : Ext w (w.alloc (.cells (El.arr El0) 29)) := ext_alloc (ext_refl _) _
      obtain ⟨z0, z1, z2, z3, z4, z5, z6⟩ := Cells7.ext hx hc7
      have hj1 : (0 : Int) ≤ (j : Int) - 1 := by omega
      have hj2 : ((j : Int) - 1).toNat = j - 1 := by omega
      have hj3 : (j : Int) - 1 < (n : Int) := by omega
      cases he : p.1.toList == name.toList
      · go_wp2_with fail
        go_roundw
        case rel =>
          refine ⟨trivial, j - 1, by omega, by go_num, fun q u h1 h2 => ?_⟩
          by_cases hqj : j ≤ q
          · exact HQ.out q u hqj h2
          · have hqe : q = j - 1 := by omega
            subst hqe
            rw [HP.out] at h2
            cases h2
            exact seq_false.1 he
        case measure => simp [intOf]; omega
      · go_wp2_with fail
        have hlast : lastOf ps name = some p.2 := lastOf_at HP.out (seq_iff.1 he) fun q u h1 h2 => HQ.out q u (by omega) h2
        refine post_tree2 rfl rfl (Box.at rfl _ _) rfl ⟨g, ?_, ?_, ext_alloc (ext_refl _) _⟩
        · rw [hlast]; rfl
        · rw [hlast]
          exact hT.ext (ext_alloc (ext_refl _) _)
    · have hj0 : j = 0 := by omega
      subst hj0
      have hx : Ext w (w.alloc (.cells (El.arr El0) 29)) := ext_alloc (ext_refl _) _
      go_wp2_with fail
      have hlast : lastOf ps name = none := lastOf_none fun q u h2 => HQ.out q u (Nat.zero_le _) h2
      refine post_tree2 rfl rfl (Box.at rfl _ _) rfl ⟨El0, ?_, ?_, ext_alloc (ext_refl _) _⟩
      · rw [hlast]; rfl
      · rw [hlast]
        exact TreeAt.of rfl rfl rfl rfl (strs_none _) (kids_none _)

/-! ### lists of names with trees -/
def cells7 (p : ByteArray × El) : List Value := .string p.1 :: p.2.cells
theorem flat7_get : ∀ (es : List (ByteArray × El)) (i : Nat) (e : ByteArray × El), es[i]? = some e → ∀ j v, (cells7 e)[j]? = some v → (es.flatMap cells7)[i * 7 + j]? = some v
  | [], _, _, h, _, _, _ => by cases h
  | e' :: r, 0, e, h, j, v, hv => by
    simp only [List.getElem?_cons_zero, Option.some.injEq] at h
    subst h
    simp only [List.flatMap_cons, Nat.zero_mul, Nat.zero_add]
    rw [List.getElem?_append_left (List.getElem?_eq_some_iff.1 hv).1]
    exact hv
  | e' :: r, i + 1, e, h, j, v, hv => by
    have hl : (cells7 e').length = 7 := rfl
    simp only [List.flatMap_cons]
    rw [List.getElem?_append_right (by omega), hl, show (i + 1) * 7 + j - 7 = i * 7 + j by omega]
    exact flat7_get r i e (by simpa using h) j v hv
end Go.Proofs.YtfngaoicoecncaaDoor
