/-
  What came in, as data: trees, lists of trees, settings.
-/
import Derived.Test.YtfngaoicoecncaaDoorGlue
namespace Go.Proofs.YtfngaoicoecncaaDoor
open Go.ChangeShapes Go.WideShapes Go.ChangeAt Go.RowKit

theorem choose_list {α : Type} (p : Nat → α → Prop) : ∀ n, (∀ i, i < n → ∃ x, p i x) → ∃ l : List α, l.length = n ∧ ∀ i x, l[i]? = some x → p i x
  | 0, _ => ⟨[], rfl, fun _ _ h => by simp at h⟩
  | n + 1, h => by
    obtain ⟨l, h1, h2⟩ := choose_list p n fun i hi => h i (by omega)
    obtain ⟨x, hx⟩ := h n (by omega)
    refine ⟨l ++ [x], by simp [h1], fun i y hy => ?_⟩
    by_cases hi : i < n
    · rw [List.getElem?_append_left (by omega)] at hy
      exact h2 i y hy
    · have hj := (List.getElem?_eq_some_iff.1 hy).1
      simp at hj
      have : i = n := by omega
      subst this
      rw [List.getElem?_append_right (by omega), h1] at hy
      simp at hy
      subst hy
      exact hx

section
variable {H : Type} {enc : TypeId × Value → H} {w : World} {base : Nat} {spare : Nat → Bool} {held : Bool}
theorem cells_int : Tryd.prog.cellsOf 3 = 1 := by kernel_rfl
theorem cells_string : Tryd.prog.cellsOf 9 = 1 := by kernel_rfl
theorem cells_float : Tryd.prog.cellsOf 25 = 1 := by kernel_rfl
theorem cells_bool : Tryd.prog.cellsOf 4 = 1 := by kernel_rfl
theorem cells_strings : Tryd.prog.cellsOf 26 = 1 := by kernel_rfl
theorem cells_trees : Tryd.prog.cellsOf 27 = 1 := by kernel_rfl
theorem cells_tree : Tryd.prog.cellsOf 29 = 6 := by kernel_rfl
theorem spot_none {a : Addr} {v : Value} (h : w.cell? a = some v) : a = ⟨a.block, a.off, none⟩ := by
  obtain ⟨b, o, s⟩ := a
  cases s with
  | none => rfl
  | some s =>
    simp only [World.cell?] at h
    split at h <;> simp at h
theorem trod_float {fuel : Nat} {t : TypeId} {k : FloatKind} {cs : List Value} {x : DataW H × List MemPlace} {P : Program} (ht : P.underlying t = some (.float k)) (h : DataW.trod enc P w base spare held fuel t cs = some x) : ∃ b, cs = [.float k b] := by
  cases fuel with
  | zero => simp [DataW.trod] at h
  | succ n =>
    unfold DataW.trod at h
    rw [ht] at h
    split at h <;> simp_all
theorem strs_of {fuel : Nat} {cs : List Value} {x : DataW H × List MemPlace} (h : DataW.trod enc Tryd.prog w base spare held fuel 26 cs = some x) :
    ∃ a n c ss, cs = [.slice a n c] ∧ StrsAt (fun _ => True) w a n c ss := by
  rcases DataW.trod_slice Tryd.underlying26 h with ⟨rfl, -⟩ | ⟨a, len, cap, elems, rest, n, -, rfl, -, -, hl, hm, hlen, hel, -, -⟩
  · exact ⟨none, 0, 0, [], rfl, rfl, Nat.le_refl _, by simp [maxLen], fun _ _ h => by simp at h⟩
  · rw [cells_string] at hel
    obtain ⟨ss, h1, h2⟩ := choose_list (fun i s => w.cell? (a.add i) = some (.string s)) len fun i hi => by
      have h1 := hel i hi
      obtain ⟨y, hy⟩ := some_of_lt hlen hi
      rw [hy, Option.bind_eq_some_iff] at h1
      obtain ⟨cs', hc, ht⟩ := h1
      obtain ⟨-, -, hat⟩ := World.cells?_some hc
      obtain ⟨s, rfl, -, -⟩ := DataW.trod_string Tryd.underlying9 ht
      have := hat 0 (by omega)
      exact ⟨s, by simpa [Addr.add_add] using this⟩
    refine ⟨some a, len, cap, ss, rfl, h1, hl, hm, fun i s hi => ?_⟩
    have hc := h2 i s hi
    have h0 : a = ⟨a.block, a.off, none⟩ := by
      obtain ⟨s0, hs0⟩ := some_of_lt h1 (show 0 < len by have := (List.getElem?_eq_some_iff.1 hi).1; omega)
      exact spot_none (by simpa [Addr.add] using h2 0 s0 hs0)
    rw [h0, Addr.add_lit] at hc
    exact ⟨a.block, a.off, by rw [← h0], trivial, hc⟩
set_option maxRecDepth 20000 in
theorem tree_of : ∀ (fuel : Nat) (cs : List Value) (x : DataW H × List MemPlace), DataW.trod enc Tryd.prog w base spare held fuel 29 cs = some x → ∃ (e : El) (t : T), cs = e.cells ∧ TreeAt (fun _ => True) w e t := by
  intro fuel
  induction fuel using Nat.strongRecOn with
  | ind fuel ih =>
    intro cs x h
    obtain ⟨xs, n, rfl, -, hcl, hxl, hf⟩ := DataW.trod_struct Tryd.underlying29 h
    rw [cells_tree] at hcl
    match cs, hcl with
    | [c0, c1, c2, c3, c4, c5], _ =>
      match xs, hxl with
      | [x0, x1, x2, x3, x4, x5], _ =>
        have f0 : DataW.trod enc Tryd.prog w base spare held n 3 (List.take (Tryd.prog.cellsOf 3) (List.drop 0 [c0, c1, c2, c3, c4, c5])) = some x0 := hf 0 _ rfl
        rw [cells_int] at f0
        have f0 : DataW.trod enc Tryd.prog w base spare held n 3 [c0] = some x0 := f0
        have f1 : DataW.trod enc Tryd.prog w base spare held n 9 (List.take (Tryd.prog.cellsOf 9) (List.drop 1 [c0, c1, c2, c3, c4, c5])) = some x1 := hf 1 _ rfl
        rw [cells_string] at f1
        have f1 : DataW.trod enc Tryd.prog w base spare held n 9 [c1] = some x1 := f1
        have f2 : DataW.trod enc Tryd.prog w base spare held n 25 (List.take (Tryd.prog.cellsOf 25) (List.drop 2 [c0, c1, c2, c3, c4, c5])) = some x2 := hf 2 _ rfl
        rw [cells_float] at f2
        have f2 : DataW.trod enc Tryd.prog w base spare held n 25 [c2] = some x2 := f2
        have f3 : DataW.trod enc Tryd.prog w base spare held n 4 (List.take (Tryd.prog.cellsOf 4) (List.drop 3 [c0, c1, c2, c3, c4, c5])) = some x3 := hf 3 _ rfl
        rw [cells_bool] at f3
        have f3 : DataW.trod enc Tryd.prog w base spare held n 4 [c3] = some x3 := f3
        have f4 : DataW.trod enc Tryd.prog w base spare held n 26 (List.take (Tryd.prog.cellsOf 26) (List.drop 4 [c0, c1, c2, c3, c4, c5])) = some x4 := hf 4 _ rfl
        rw [cells_strings] at f4
        have f4 : DataW.trod enc Tryd.prog w base spare held n 26 [c4] = some x4 := f4
        have f5 : DataW.trod enc Tryd.prog w base spare held n 27 (List.take (Tryd.prog.cellsOf 27) (List.drop 5 [c0, c1, c2, c3, c4, c5])) = some x5 := hf 5 _ rfl
        rw [cells_trees] at f5
        have f5 : DataW.trod enc Tryd.prog w base spare held n 27 [c5] = some x5 := f5
        obtain ⟨k, e0, -, -⟩ := DataW.trod_int Tryd.underlying3 f0
        obtain ⟨s, e1, -, -⟩ := DataW.trod_string Tryd.underlying9 f1
        obtain ⟨d, e2⟩ := trod_float Tryd.underlying25 f2
        obtain ⟨y, e3, -⟩ := DataW.trod_bool Tryd.underlying4 f3
        obtain ⟨ka, kn, kc, ss, e4, hss⟩ := strs_of f4
        simp only [List.cons.injEq, and_true] at e0 e1 e2 e3 e4
        subst e0 e1 e2 e3 e4
        rcases DataW.trod_slice Tryd.underlying27 f5 with ⟨e5, -⟩ | ⟨a, len, cap, elems, rest, n', rfl, e5, -, -, hl, hm, hlen, hel, -, -⟩
        · cases e5
          exact ⟨⟨k, s, d, y, ka, kn, kc, none, 0, 0⟩, .mk k s d y ss [], rfl, TreeAt.of rfl rfl rfl rfl hss (KidsAt.of rfl (Nat.le_refl _) (by simp [maxLen]) fun _ _ h => by simp [T.kids] at h)⟩
        · cases e5
          rw [cells_tree] at hel
          obtain ⟨Z, h1, h2⟩ := choose_list (fun i (z : El × T) => (∀ j v, z.1.cells[j]? = some v → w.cell? (a.add (i * 6 + j)) = some v) ∧ TreeAt (fun _ => True) w z.1 z.2) len fun i hi => by
            have h1 := hel i hi
            obtain ⟨q, hq⟩ := some_of_lt hlen hi
            rw [hq, Option.bind_eq_some_iff] at h1
            obtain ⟨cs', hc, ht⟩ := h1
            obtain ⟨-, hcl', hat⟩ := World.cells?_some hc
            obtain ⟨e, t, rfl, hT⟩ := ih n' (by omega) cs' _ ht
            refine ⟨(e, t), fun j v hj => ?_, hT⟩
            have hj6 : j < 6 := by have := (List.getElem?_eq_some_iff.1 hj).1; simpa [El.cells] using this
            rw [← Addr.add_add, hat j hj6]
            exact hj
          refine ⟨⟨k, s, d, y, ka, kn, kc, some a, len, cap⟩, .mk k s d y ss (Z.map Prod.snd), rfl, TreeAt.of rfl rfl rfl rfl hss (KidsAt.of (by simp [T.kids, h1]) hl hm fun i t hi => ?_)⟩
          simp only [T.kids, List.getElem?_map, Option.map_eq_some_iff] at hi
          obtain ⟨z, hz, rfl⟩ := hi
          obtain ⟨hc, hT⟩ := h2 i z hz
          have h0 : a = ⟨a.block, a.off, none⟩ := by
            obtain ⟨z0, hz0⟩ := some_of_lt h1 (show 0 < len by have := (List.getElem?_eq_some_iff.1 hz).1; omega)
            have := (h2 0 z0 hz0).1 0 _ rfl
            exact spot_none (by simpa [Addr.add] using this)
          rw [h0] at hc
          simp only [Addr.add_lit] at hc
          have ha : ∀ j, a.off + (i * 6 + j) = a.off + i * 6 + j := fun j => by omega
          simp only [ha] at hc
          exact ⟨a.block, a.off, z.1, by rw [← h0], trivial, ⟨hc 0 _ rfl, hc 1 _ rfl, hc 2 _ rfl, hc 3 _ rfl, hc 4 _ rfl, hc 5 _ rfl⟩, hT⟩
theorem cells_set : Tryd.prog.cellsOf 38 = 7 := by kernel_rfl
set_option maxRecDepth 20000 in
theorem set_of {fuel : Nat} {cs : List Value} {x : DataW H × List MemPlace} (h : DataW.trod enc Tryd.prog w base spare held fuel 38 cs = some x) :
    ∃ (s : ByteArray) (e : El) (t : T), cs = .string s :: e.cells ∧ TreeAt (fun _ => True) w e t := by
  obtain ⟨xs, n, rfl, -, hcl, hxl, hf⟩ := DataW.trod_struct Tryd.underlying38 h
  rw [cells_set] at hcl
  match cs, hcl with
  | c0 :: r, hcl =>
    match xs, hxl with
    | [x0, x1], _ =>
      have f0 : DataW.trod enc Tryd.prog w base spare held n 9 (List.take (Tryd.prog.cellsOf 9) (List.drop 0 (c0 :: r))) = some x0 := hf 0 _ rfl
      rw [cells_string] at f0
      have f0 : DataW.trod enc Tryd.prog w base spare held n 9 [c0] = some x0 := f0
      have f1 : DataW.trod enc Tryd.prog w base spare held n 29 (List.take (Tryd.prog.cellsOf 29) (List.drop 1 (c0 :: r))) = some x1 := hf 1 _ rfl
      rw [cells_tree, List.drop_succ_cons, List.drop_zero, List.take_of_length_le (by simp at hcl; omega)] at f1
      obtain ⟨s, e0, -, -⟩ := DataW.trod_string Tryd.underlying9 f0
      obtain ⟨e, t, rfl, hT⟩ := tree_of n _ _ f1
      cases e0
      exact ⟨s, e, t, rfl, hT⟩
theorem sets_of {fuel : Nat} {cs : List Value} {x : DataW H × List MemPlace} (h : DataW.trod enc Tryd.prog w base spare held fuel 22 cs = some x) :
    ∃ a n c ps, cs = [.slice a n c] ∧ PairsAt (fun _ => True) w a n c ps := by
  rcases DataW.trod_slice Tryd.underlying22 h with ⟨rfl, -⟩ | ⟨a, len, cap, elems, rest, n', -, rfl, -, -, hl, hm, hlen, hel, -, -⟩
  · exact ⟨none, 0, 0, [], rfl, rfl, Nat.le_refl _, by simp [maxLen], fun _ _ h => by simp at h⟩
  · rw [cells_set] at hel
    obtain ⟨Z, h1, h2⟩ := choose_list (fun i (z : ByteArray × El × T) => w.cell? (a.add (i * 7)) = some (.string z.1) ∧ (∀ j v, z.2.1.cells[j]? = some v → w.cell? (a.add (i * 7 + 1 + j)) = some v) ∧ TreeAt (fun _ => True) w z.2.1 z.2.2) len fun i hi => by
      have h1 := hel i hi
      obtain ⟨q, hq⟩ := some_of_lt hlen hi
      rw [hq, Option.bind_eq_some_iff] at h1
      obtain ⟨cs', hc, ht⟩ := h1
      obtain ⟨-, -, hat⟩ := World.cells?_some hc
      obtain ⟨s, e, t, rfl, hT⟩ := set_of ht
      refine ⟨(s, e, t), ?_, fun j v hj => ?_, hT⟩
      · have := hat 0 (by omega)
        simpa [Addr.add_add] using this
      · have hj6 : j < 6 := by have := (List.getElem?_eq_some_iff.1 hj).1; simpa [El.cells] using this
        have := hat (1 + j) (by omega)
        rw [Addr.add_add] at this
        rw [show i * 7 + 1 + j = i * 7 + (1 + j) by omega, this, show 1 + j = j + 1 by omega]
        simpa using hj
    refine ⟨some a, len, cap, Z.map fun z => (z.1, z.2.2), rfl, by simp [h1], hl, hm, fun i p hi => ?_⟩
    simp only [List.getElem?_map, Option.map_eq_some_iff] at hi
    obtain ⟨z, hz, rfl⟩ := hi
    obtain ⟨hs, hc, hT⟩ := h2 i z hz
    have h0 : a = ⟨a.block, a.off, none⟩ := by
      obtain ⟨z0, hz0⟩ := some_of_lt h1 (show 0 < len by have := (List.getElem?_eq_some_iff.1 hz).1; omega)
      have := (h2 0 z0 hz0).1
      exact spot_none (by simpa [Addr.add] using this)
    rw [h0] at hc hs
    simp only [Addr.add_lit] at hc hs
    have ha : ∀ j, a.off + (i * 7 + 1 + j) = a.off + i * 7 + 1 + j := fun j => by omega
    simp only [ha] at hc
    exact ⟨a.block, a.off, z.2.1, by rw [← h0], trivial, ⟨hs, hc 0 _ rfl, hc 1 _ rfl, hc 2 _ rfl, hc 3 _ rfl, hc 4 _ rfl, hc 5 _ rfl⟩, hT⟩
end
end Go.Proofs.YtfngaoicoecncaaDoor
