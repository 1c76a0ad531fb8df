/-
  A rule of intervals as it came in; what came in is bounded.
-/
import Derived.Test.YtdjojnlejkljdaaGreatOpen
import Derived.Lib.Strings
import Derived.Test.YtdjojnlejkljdaaGreatRows
import Derived.Test.YtdjojnlejkljdaaGreatPf
import Derived.Test.YtdjojnlejkljdaaGreatRl
namespace Go.Proofs.YtdjojnlejkljdaaGreat
open Go.ChangeShapes Go.WideShapes Go.ChangeAt Go.RowKit

theorem bulk_part {H : Type} {d : DataW H} {l : List (DataW H)} (h : d ∈ l) : Rows.uptoBulk d ≤ Rows.uptoBulkAll l := by
  induction l with
  | nil => cases h
  | cons x r ih =>
    simp only [Rows.uptoBulkAll]
    cases List.mem_cons.1 h with
    | inl e => subst e; omega
    | inr e => have := ih e; omega
section
variable {H : Type} {enc : TypeId × Value → H} {w : World} {base : Nat} {spare : Nat → Bool} {held : Bool}
set_option maxRecDepth 20000 in
theorem text_bulk {fuel : Nat} {e : El} {x : DataW H × List MemPlace} (h : DataW.trod enc Tryz.prog w base spare held fuel 35 e.cells = some x) : e.x.size ≤ Rows.uptoBulk x.1 := by
  obtain ⟨xs, n, rfl, rfl, hcl, hxl, hf⟩ := DataW.trod_struct Tryz.underlying35 h
  match xs, hxl with
  | [x0, x1, x2, x3, x4, x5], _ =>
    have f1 : DataW.trod enc Tryz.prog w base spare held n 9 (List.take (Tryz.prog.cellsOf 9) (List.drop 1 e.cells)) = some x1 := hf 1 _ rfl
    rw [cells_string] at f1
    have f1 : DataW.trod enc Tryz.prog w base spare held n 9 [.string e.x] = some x1 := f1
    obtain ⟨s, e1, e2, -⟩ := DataW.trod_string Tryz.underlying9 f1
    simp only [List.cons.injEq, Value.string.injEq, and_true] at e1
    subst e1
    subst e2
    have h1 : Rows.uptoBulk (DataW.lit (H := H) (.string e.x.data.toList)) = e.x.data.toList.length + 1 := by simp [Rows.uptoBulk]
    have h2 := Lib.size_eq e.x
    simp only [Rows.uptoBulk, List.map_cons, List.map_nil, Rows.uptoBulkAll] at h1 ⊢
    omega
set_option maxRecDepth 20000 in
theorem set_bulk {fuel : Nat} {s : ByteArray} {e : El} {x : DataW H × List MemPlace} (h : DataW.trod enc Tryz.prog w base spare held fuel 73 (.string s :: e.cells) = some x) : e.x.size ≤ Rows.uptoBulk x.1 := by
  obtain ⟨xs, n, rfl, rfl, hcl, hxl, hf⟩ := DataW.trod_struct Tryz.underlying73 h
  match xs, hxl with
  | [x0, x1], _ =>
    have f1 : DataW.trod enc Tryz.prog w base spare held n 35 (List.take (Tryz.prog.cellsOf 35) (List.drop 1 (.string s :: e.cells))) = some x1 := hf 1 _ rfl
    rw [cells_tree, List.drop_succ_cons, List.drop_zero, List.take_of_length_le (by simp [El.cells])] at f1
    have := text_bulk f1
    simp only [Rows.uptoBulk, List.map_cons, List.map_nil, Rows.uptoBulkAll]
    omega
theorem sets_bulk {S : Nat → Prop} {fuel : Nat} {a : Option Addr} {n c : Nat} {ps : List (ByteArray × T)} {x : DataW H × List MemPlace} (h : DataW.trod enc Tryz.prog w base spare held fuel 26 [.slice a n c] = some x) (hP : PairsAt S w a n c ps) : ∀ p ∈ ps, p.2.text.size ≤ Rows.uptoBulk x.1 := by
  intro p hp
  obtain ⟨i, hi⟩ := List.getElem?_of_mem hp
  have hlt : i < n := by rw [← hP.1]; exact (List.getElem?_eq_some_iff.1 hi).1
  obtain ⟨b, off, e, rfl, -, hc, hT⟩ := hP.2.2.2 i p hi
  rcases DataW.trod_slice Tryz.underlying26 h with ⟨h0, -⟩ | ⟨a, len, cap, elems, rest, n', -, h0, rfl, -, hl, hm, hlen, hel, -, -⟩
  · simp at h0
  · simp only [List.cons.injEq, Value.slice.injEq, Option.some.injEq, and_true] at h0
    obtain ⟨rfl, rfl, rfl⟩ := h0
    rw [cells_set] at hel
    have h1 := hel i hlt
    obtain ⟨q, hq⟩ := some_of_lt hlen hlt
    rw [hq, Option.bind_eq_some_iff] at h1
    obtain ⟨cs', hc', ht⟩ := h1
    obtain ⟨-, hl7, hat⟩ := World.cells?_some hc'
    obtain ⟨s', e', t', rfl, -⟩ := set_of ht
    have hx : e'.x = e.x := by
      have h2 := hat 2 (by omega)
      rw [Addr.add_add, Addr.add_lit, show off + (i * 7 + 2) = off + i * 7 + 1 + 1 by omega, hc.2.2.1] at h2
      simp [El.cells] at h2
      exact h2.symm
    have h3 := set_bulk ht
    have h4 : p.2.text = e.x := hT.parts.2.1.symm
    rw [h4, ← hx]
    refine Nat.le_trans h3 ?_
    have h5 : q.1 ∈ List.map (fun x => x.fst) elems := List.mem_map.2 ⟨q, List.mem_of_getElem? hq, rfl⟩
    have h6 := bulk_part h5
    simp only [Rows.uptoBulk]
    omega
end
end Go.Proofs.YtdjojnlejkljdaaGreat

namespace Go.Proofs.YtdjojnlejkljdaaGreat
open Go.ChangeShapes Go.WideShapes Go.ChangeAt Go.RowKit

section
variable {H : Type} {enc : TypeId × Value → H} {w : World} {base : Nat} {spare : Nat → Bool} {held : Bool}
set_option maxRecDepth 20000 in
theorem tree_val {fuel : Nat} {r : Reach} {b0 : Nat} {v : Value} {x : DataW H × List MemPlace} {W : World} (hv : Value.okWide Tryz.prog W r b0 35 v) (h : DataW.trod enc Tryz.prog w base spare held fuel 35 v.cells.toList = some x) :
    ∃ (e : El) (t : T), v = e.val ∧ TreeAt (fun _ => True) w e t := by
  obtain ⟨cs, rfl, -⟩ := okWide_struct Tryz.underlying35 hv
  obtain ⟨e, t, he, hT⟩ := tree_of fuel _ _ h
  refine ⟨e, t, ?_, hT⟩
  have he : cs.toList = e.cells := he
  have : cs = e.cells.toArray := by rw [← he]
  subst this
  rfl
set_option maxRecDepth 20000 in
theorem kids_of {fuel : Nat} {cs : List Value} {x : DataW H × List MemPlace} (h : DataW.trod enc Tryz.prog w base spare held fuel 33 cs = some x) :
    ∃ a n c ts, cs = [.slice a n c] ∧ KidsAt (fun _ => True) w a n c ts := by
  rcases DataW.trod_slice Tryz.underlying33 h with ⟨rfl, -⟩ | ⟨a, len, cap, elems, rest, n', -, rfl, -, -, hl, hm, hlen, hel, -, -⟩
  · exact ⟨none, 0, 0, [], rfl, KidsAt.of rfl (Nat.le_refl _) (by simp [maxLen]) fun _ _ h => by simp at h⟩
  · rw [cells_tree] at hel
    obtain ⟨Z, h1, h2⟩ := choose_list (fun i (z : El × T) => (∀ j v, z.1.cells[j]? = some v → w.cell? (a.add (i * 6 + j)) = some v) ∧ TreeAt (fun _ => True) w z.1 z.2) len fun i hi => by
      have h1 := hel i hi
      obtain ⟨q, hq⟩ := some_of_lt hlen hi
      rw [hq, Option.bind_eq_some_iff] at h1
      obtain ⟨cs', hc, ht⟩ := h1
      obtain ⟨-, hcl', hat⟩ := World.cells?_some hc
      obtain ⟨e, t, rfl, hT⟩ := tree_of n' cs' _ ht
      refine ⟨(e, t), fun j v hj => ?_, hT⟩
      have hj6 : j < 6 := by have := (List.getElem?_eq_some_iff.1 hj).1; simpa [El.cells] using this
      rw [← Addr.add_add, hat j hj6]
      exact hj
    refine ⟨some a, len, cap, Z.map Prod.snd, rfl, KidsAt.of (by simp [h1]) hl hm fun i t hi => ?_⟩
    simp only [List.getElem?_map, Option.map_eq_some_iff] at hi
    obtain ⟨z, hz, rfl⟩ := hi
    obtain ⟨hc, hT⟩ := h2 i z hz
    have h0 : a = ⟨a.block, a.off, none⟩ := by
      obtain ⟨z0, hz0⟩ := some_of_lt h1 (show 0 < len by have := (List.getElem?_eq_some_iff.1 hz).1; omega)
      have := (h2 0 z0 hz0).1 0 _ rfl
      exact spot_none (by simpa [Addr.add] using this)
    rw [h0] at hc
    simp only [Addr.add_lit] at hc
    have ha : ∀ j, a.off + (i * 6 + j) = a.off + i * 6 + j := fun j => by omega
    simp only [ha] at hc
    exact ⟨a.block, a.off, z.1, by rw [← h0], trivial, ⟨hc 0 _ rfl, hc 1 _ rfl, hc 2 _ rfl, hc 3 _ rfl, hc 4 _ rfl, hc 5 _ rfl⟩, hT⟩
end
end Go.Proofs.YtdjojnlejkljdaaGreat

namespace Go.Proofs.YtdjojnlejkljdaaGreat
open Go.ChangeShapes Go.WideShapes Go.ChangeAt Go.RowKit

section
variable {H : Type} {enc : TypeId × Value → H} {w : World} {base : Nat} {spare : Nat → Bool} {held : Bool}
theorem bulk_pos (d : DataW H) : 1 ≤ Rows.uptoBulk d := by
  cases d with
  | lit l => cases l <;> simp [Rows.uptoBulk]
  | _ => simp [Rows.uptoBulk]
theorem bulk_len : ∀ l : List (DataW H), l.length ≤ Rows.uptoBulkAll l
  | [] => by simp
  | d :: r => by
    have h1 := bulk_len r
    have h2 := bulk_pos d
    simp only [List.length_cons, Rows.uptoBulkAll]
    omega
theorem strs_small {fuel : Nat} {cs : List Value} {x : DataW H × List MemPlace} (h : DataW.trod enc Tryz.prog w base spare held fuel 22 cs = some x) :
    ∃ a n c ss, cs = [.slice a n c] ∧ StrsAt (fun _ => True) w a n c ss ∧ ss.length ≤ Rows.uptoBulk x.1 ∧ ∀ s ∈ ss, s.size ≤ Rows.uptoBulk x.1 := by
  rcases DataW.trod_slice Tryz.underlying22 h with ⟨rfl, -⟩ | ⟨a, len, cap, elems, rest, n, -, rfl, hxx, -, hl, hm, hlen, hel, -, -⟩
  · exact ⟨none, 0, 0, [], rfl, ⟨rfl, Nat.le_refl _, by simp [maxLen], fun _ _ h => by simp at h⟩, Nat.zero_le _, fun s hs => by cases hs⟩
  · rw [cells_string] at hel
    obtain ⟨ss, h1, h2⟩ := choose_list (fun i s => w.cell? (a.add i) = some (.string s) ∧ s.size ≤ Rows.uptoBulk x.1) len fun i hi => by
      have h1 := hel i hi
      obtain ⟨y, hy⟩ := some_of_lt hlen hi
      rw [hy, Option.bind_eq_some_iff] at h1
      obtain ⟨cs', hc, ht⟩ := h1
      obtain ⟨-, -, hat⟩ := World.cells?_some hc
      obtain ⟨s, rfl, hyy, -⟩ := DataW.trod_string Tryz.underlying9 ht
      have := hat 0 (by omega)
      refine ⟨s, by simpa [Addr.add_add] using this, ?_⟩
      have h5 : y.1 ∈ List.map (fun x => x.fst) elems := List.mem_map.2 ⟨y, List.mem_of_getElem? hy, rfl⟩
      have h6 := bulk_part h5
      have h7 : Rows.uptoBulk y.1 = s.data.toList.length + 1 := by rw [hyy]; simp [Rows.uptoBulk]
      have h8 := Lib.size_eq s
      subst hxx
      simp only [Rows.uptoBulk]
      omega
    refine ⟨some a, len, cap, ss, rfl, ⟨h1, hl, hm, fun i s hi => ?_⟩, ?_, fun s hs => ?_⟩
    rotate_left
    · have h5 := bulk_len (List.map (fun x => x.fst) elems)
      rw [List.length_map] at h5
      subst hxx
      simp only [Rows.uptoBulk]
      omega
    · obtain ⟨i, hi⟩ := List.getElem?_of_mem hs
      exact (h2 i s hi).2
    have hc := (h2 i s hi).1
    have h0 : a = ⟨a.block, a.off, none⟩ := by
      obtain ⟨s0, hs0⟩ := some_of_lt h1 (show 0 < len by have := (List.getElem?_eq_some_iff.1 hi).1; omega)
      exact spot_none (by simpa [Addr.add] using (h2 0 s0 hs0).1)
    rw [h0, Addr.add_lit] at hc
    exact ⟨a.block, a.off, by rw [← h0], trivial, hc⟩
set_option maxRecDepth 20000 in
theorem tree_small : ∀ (fuel : Nat) (cs : List Value) (x : DataW H × List MemPlace), DataW.trod enc Tryz.prog w base spare held fuel 35 cs = some x → ∃ (e : El) (t : T), cs = e.cells ∧ TreeAt (fun _ => True) w e t ∧ SmallT (Rows.uptoBulk x.1) t := by
  intro fuel
  induction fuel using Nat.strongRecOn with
  | ind fuel ih =>
    intro cs x h
    obtain ⟨xs, n, rfl, rfl, hcl, hxl, hf⟩ := DataW.trod_struct Tryz.underlying35 h
    rw [cells_tree] at hcl
    match cs, hcl with
    | [c0, c1, c2, c3, c4, c5], _ =>
      match xs, hxl with
      | [x0, x1, x2, x3, x4, x5], _ =>
        have f0 : DataW.trod enc Tryz.prog w base spare held n 3 (List.take (Tryz.prog.cellsOf 3) (List.drop 0 [c0, c1, c2, c3, c4, c5])) = some x0 := hf 0 _ rfl
        rw [cells_int] at f0
        have f0 : DataW.trod enc Tryz.prog w base spare held n 3 [c0] = some x0 := f0
        have f1 : DataW.trod enc Tryz.prog w base spare held n 9 (List.take (Tryz.prog.cellsOf 9) (List.drop 1 [c0, c1, c2, c3, c4, c5])) = some x1 := hf 1 _ rfl
        rw [cells_string] at f1
        have f1 : DataW.trod enc Tryz.prog w base spare held n 9 [c1] = some x1 := f1
        have f2 : DataW.trod enc Tryz.prog w base spare held n 32 (List.take (Tryz.prog.cellsOf 32) (List.drop 2 [c0, c1, c2, c3, c4, c5])) = some x2 := hf 2 _ rfl
        rw [cells_float] at f2
        have f2 : DataW.trod enc Tryz.prog w base spare held n 32 [c2] = some x2 := f2
        have f3 : DataW.trod enc Tryz.prog w base spare held n 4 (List.take (Tryz.prog.cellsOf 4) (List.drop 3 [c0, c1, c2, c3, c4, c5])) = some x3 := hf 3 _ rfl
        rw [cells_bool] at f3
        have f3 : DataW.trod enc Tryz.prog w base spare held n 4 [c3] = some x3 := f3
        have f4 : DataW.trod enc Tryz.prog w base spare held n 22 (List.take (Tryz.prog.cellsOf 22) (List.drop 4 [c0, c1, c2, c3, c4, c5])) = some x4 := hf 4 _ rfl
        rw [cells_strings] at f4
        have f4 : DataW.trod enc Tryz.prog w base spare held n 22 [c4] = some x4 := f4
        have f5 : DataW.trod enc Tryz.prog w base spare held n 33 (List.take (Tryz.prog.cellsOf 33) (List.drop 5 [c0, c1, c2, c3, c4, c5])) = some x5 := hf 5 _ rfl
        rw [cells_trees] at f5
        have f5 : DataW.trod enc Tryz.prog w base spare held n 33 [c5] = some x5 := f5
        obtain ⟨k, e0, -, -⟩ := DataW.trod_int Tryz.underlying3 f0
        obtain ⟨s, e1, hx1, -⟩ := DataW.trod_string Tryz.underlying9 f1
        obtain ⟨d, e2⟩ := trod_float Tryz.underlying32 f2
        obtain ⟨y, e3, -⟩ := DataW.trod_bool Tryz.underlying4 f3
        obtain ⟨ka, kn, kc, ss, e4, hss, hsl, hsz⟩ := strs_small f4
        simp only [List.cons.injEq, and_true] at e0 e1 e2 e3 e4
        subst e0 e1 e2 e3 e4
        have hs1 : Rows.uptoBulk x1.1 = s.data.toList.length + 1 := by rw [hx1]; simp [Rows.uptoBulk]
        have hs2 := Lib.size_eq s
        have hB : Rows.uptoBulk (DataW.agg (List.map (fun x => x.fst) [x0, x1, x2, x3, x4, x5])) = Rows.uptoBulk x0.1 + (Rows.uptoBulk x1.1 + (Rows.uptoBulk x2.1 + (Rows.uptoBulk x3.1 + (Rows.uptoBulk x4.1 + (Rows.uptoBulk x5.1 + 0))))) + 1 := by simp only [Rows.uptoBulk, List.map_cons, List.map_nil, Rows.uptoBulkAll]
        have hSm : ∀ kids : List T, kids.length ≤ Rows.uptoBulk x5.1 → SmallTs (Rows.uptoBulk x5.1) kids → SmallT (Rows.uptoBulk (DataW.agg (List.map (fun x => x.fst) [x0, x1, x2, x3, x4, x5]))) (.mk k s d y ss kids) := fun kids hk1 hk2 => by
          rw [SmallT, hB]
          exact ⟨by omega, by omega, fun z hz => by have := hsz z hz; omega, by omega, SmallTs.mono (by omega) hk2⟩
        clear hB hs1 hsl hsz
        rcases DataW.trod_slice Tryz.underlying33 f5 with ⟨e5, -⟩ | ⟨a, len, cap, elems, rest, n', rfl, e5, hxx, -, hl, hm, hlen, hel, -, -⟩
        · cases e5
          exact ⟨⟨k, s, d, y, ka, kn, kc, none, 0, 0⟩, .mk k s d y ss [], rfl, TreeAt.of rfl rfl rfl rfl hss (KidsAt.of rfl (Nat.le_refl _) (by simp [maxLen]) fun _ _ h => by simp [T.kids] at h), hSm [] (Nat.zero_le _) (by rw [SmallTs]; trivial)⟩
        · cases e5
          rw [cells_tree] at hel
          obtain ⟨Z, h1, h2⟩ := choose_list (fun i (z : El × T) => (∀ j v, z.1.cells[j]? = some v → w.cell? (a.add (i * 6 + j)) = some v) ∧ TreeAt (fun _ => True) w z.1 z.2 ∧ SmallT (Rows.uptoBulk x5.1) z.2) len fun i hi => by
            have h1 := hel i hi
            obtain ⟨q, hq⟩ := some_of_lt hlen hi
            rw [hq, Option.bind_eq_some_iff] at h1
            obtain ⟨cs', hc, ht⟩ := h1
            obtain ⟨-, hcl', hat⟩ := World.cells?_some hc
            obtain ⟨e, t, rfl, hT, hSt⟩ := ih n' (by omega) cs' _ ht
            have h5 : q.1 ∈ List.map (fun x => x.fst) elems := List.mem_map.2 ⟨q, List.mem_of_getElem? hq, rfl⟩
            have h6 := bulk_part h5
            refine ⟨(e, t), fun j v hj => ?_, hT, SmallT.mono (by rw [hxx]; simp only [Rows.uptoBulk]; omega) hSt⟩
            have hj6 : j < 6 := by have := (List.getElem?_eq_some_iff.1 hj).1; simpa [El.cells] using this
            rw [← Addr.add_add, hat j hj6]
            exact hj
          have hZl : (Z.map Prod.snd).length ≤ Rows.uptoBulk x5.1 := by
            have h5 := bulk_len (List.map (fun x => x.fst) elems)
            rw [List.length_map] at h5
            rw [List.length_map, h1, hxx]
            simp only [Rows.uptoBulk]
            omega
          have hZs : SmallTs (Rows.uptoBulk x5.1) (Z.map Prod.snd) := (smallTs_iff _ _).2 fun t ht => by
            obtain ⟨z, hz, rfl⟩ := List.mem_map.1 ht
            obtain ⟨i, hi⟩ := List.getElem?_of_mem hz
            exact (h2 i z hi).2.2
          suffices hKA : KidsAt (fun _ => True) w (some a) len cap (Z.map Prod.snd) from ⟨⟨k, s, d, y, ka, kn, kc, some a, len, cap⟩, .mk k s d y ss (Z.map Prod.snd), rfl, TreeAt.of rfl rfl rfl rfl hss hKA, hSm _ hZl hZs⟩
          refine KidsAt.of (by simp [h1]) hl hm fun i t hi => ?_
          simp only [List.getElem?_map, Option.map_eq_some_iff] at hi
          obtain ⟨z, hz, rfl⟩ := hi
          obtain ⟨hc, hT, -⟩ := h2 i z hz
          have h0 : a = ⟨a.block, a.off, none⟩ := by
            obtain ⟨z0, hz0⟩ := some_of_lt h1 (show 0 < len by have := (List.getElem?_eq_some_iff.1 hz).1; omega)
            have := (h2 0 z0 hz0).1 0 _ rfl
            exact spot_none (by simpa [Addr.add] using this)
          rw [h0] at hc
          simp only [Addr.add_lit] at hc
          have ha : ∀ j, a.off + (i * 6 + j) = a.off + i * 6 + j := fun j => by omega
          simp only [ha] at hc
          exact ⟨a.block, a.off, z.1, by rw [← h0], trivial, ⟨hc 0 _ rfl, hc 1 _ rfl, hc 2 _ rfl, hc 3 _ rfl, hc 4 _ rfl, hc 5 _ rfl⟩, hT⟩
set_option maxRecDepth 20000 in
theorem tree_valS {fuel : Nat} {r : Reach} {b0 : Nat} {v : Value} {x : DataW H × List MemPlace} {W : World} (hv : Value.okWide Tryz.prog W r b0 35 v) (h : DataW.trod enc Tryz.prog w base spare held fuel 35 v.cells.toList = some x) :
    ∃ (e : El) (t : T), v = e.val ∧ TreeAt (fun _ => True) w e t ∧ SmallT (Rows.uptoBulk x.1) t := by
  obtain ⟨cs, rfl, -⟩ := okWide_struct Tryz.underlying35 hv
  obtain ⟨e, t, he, hT, hSt⟩ := tree_small fuel _ _ h
  refine ⟨e, t, ?_, hT, hSt⟩
  have he : cs.toList = e.cells := he
  have : cs = e.cells.toArray := by rw [← he]
  subst this
  rfl
set_option maxRecDepth 20000 in
theorem kids_small {fuel : Nat} {cs : List Value} {x : DataW H × List MemPlace} (h : DataW.trod enc Tryz.prog w base spare held fuel 33 cs = some x) :
    ∃ a n c ts, cs = [.slice a n c] ∧ KidsAt (fun _ => True) w a n c ts ∧ ts.length ≤ Rows.uptoBulk x.1 ∧ SmallTs (Rows.uptoBulk x.1) ts := by
  rcases DataW.trod_slice Tryz.underlying33 h with ⟨rfl, -⟩ | ⟨a, len, cap, elems, rest, n', -, rfl, hxx, -, hl, hm, hlen, hel, -, -⟩
  · exact ⟨none, 0, 0, [], rfl, KidsAt.of rfl (Nat.le_refl _) (by simp [maxLen]) fun _ _ h => by simp at h, Nat.zero_le _, by rw [SmallTs]; trivial⟩
  · rw [cells_tree] at hel
    obtain ⟨Z, h1, h2⟩ := choose_list (fun i (z : El × T) => (∀ j v, z.1.cells[j]? = some v → w.cell? (a.add (i * 6 + j)) = some v) ∧ TreeAt (fun _ => True) w z.1 z.2 ∧ SmallT (Rows.uptoBulk x.1) z.2) len fun i hi => by
      have h1 := hel i hi
      obtain ⟨q, hq⟩ := some_of_lt hlen hi
      rw [hq, Option.bind_eq_some_iff] at h1
      obtain ⟨cs', hc, ht⟩ := h1
      obtain ⟨-, hcl', hat⟩ := World.cells?_some hc
      obtain ⟨e, t, rfl, hT, hSt⟩ := tree_small n' cs' _ ht
      have h5 : q.1 ∈ List.map (fun x => x.fst) elems := List.mem_map.2 ⟨q, List.mem_of_getElem? hq, rfl⟩
      have h6 := bulk_part h5
      refine ⟨(e, t), fun j v hj => ?_, hT, SmallT.mono (by rw [hxx]; simp only [Rows.uptoBulk]; omega) hSt⟩
      have hj6 : j < 6 := by have := (List.getElem?_eq_some_iff.1 hj).1; simpa [El.cells] using this
      rw [← Addr.add_add, hat j hj6]
      exact hj
    have hZl : (Z.map Prod.snd).length ≤ Rows.uptoBulk x.1 := by
      have h5 := bulk_len (List.map (fun x => x.fst) elems)
      rw [List.length_map] at h5
      rw [List.length_map, h1, hxx]
      simp only [Rows.uptoBulk]
      omega
    have hZs : SmallTs (Rows.uptoBulk x.1) (Z.map Prod.snd) := (smallTs_iff _ _).2 fun t ht => by
      obtain ⟨z, hz, rfl⟩ := List.mem_map.1 ht
      obtain ⟨i, hi⟩ := List.getElem?_of_mem hz
      exact (h2 i z hi).2.2
    suffices hKA : KidsAt (fun _ => True) w (some a) len cap (Z.map Prod.snd) from ⟨some a, len, cap, Z.map Prod.snd, rfl, hKA, hZl, hZs⟩
    refine KidsAt.of (by simp [h1]) hl hm fun i t hi => ?_
    simp only [List.getElem?_map, Option.map_eq_some_iff] at hi
    obtain ⟨z, hz, rfl⟩ := hi
    obtain ⟨hc, hT, -⟩ := h2 i z hz
    have h0 : a = ⟨a.block, a.off, none⟩ := by
      obtain ⟨z0, hz0⟩ := some_of_lt h1 (show 0 < len by have := (List.getElem?_eq_some_iff.1 hz).1; omega)
      have := (h2 0 z0 hz0).1 0 _ rfl
      exact spot_none (by simpa [Addr.add] using this)
    rw [h0] at hc
    simp only [Addr.add_lit] at hc
    have ha : ∀ j, a.off + (i * 6 + j) = a.off + i * 6 + j := fun j => by omega
    simp only [ha] at hc
    exact ⟨a.block, a.off, z.1, by rw [← h0], trivial, ⟨hc 0 _ rfl, hc 1 _ rfl, hc 2 _ rfl, hc 3 _ rfl, hc 4 _ rfl, hc 5 _ rfl⟩, hT⟩
end
end Go.Proofs.YtdjojnlejkljdaaGreat

namespace Go.Proofs.YtdjojnlejkljdaaGreat
open Go.ChangeShapes Go.WideShapes Go.ChangeAt Go.RowKit

section
variable {H : Type} {enc : TypeId × Value → H} {w : World} {base : Nat} {spare : Nat → Bool} {held : Bool}
theorem cells_sets : Tryz.prog.cellsOf 26 = 1 := by kernel_rfl
theorem cells_rules : Tryz.prog.cellsOf 27 = 1 := by kernel_rfl
theorem cells_sieves : Tryz.prog.cellsOf 24 = 1 := by kernel_rfl
theorem cells_rule : Tryz.prog.cellsOf 29 = 5 := by kernel_rfl
theorem cells_sieve : Tryz.prog.cellsOf 46 = 6 := by kernel_rfl
set_option maxRecDepth 20000 in
set_option maxHeartbeats 1000000 in
theorem rule_small : ∀ (fuel : Nat) (cs : List Value) (x : DataW H × List MemPlace), DataW.trod enc Tryz.prog w base spare held fuel 29 cs = some x → ∃ (e : Rv) (r : Rl), cs = e.cells ∧ RuleAt (fun _ => True) w e r ∧ SmallR (Rows.uptoBulk x.1) r := by
  intro fuel
  induction fuel using Nat.strongRecOn with
  | ind fuel ih =>
    intro cs x h
    obtain ⟨xs, n, rfl, rfl, hcl, hxl, hf⟩ := DataW.trod_struct Tryz.underlying29 h
    rw [cells_rule] at hcl
    match cs, hcl with
    | [c0, c1, c2, c3, c4], _ =>
      match xs, hxl with
      | [x0, x1, x2, x3, x4], _ =>
        have f0 : DataW.trod enc Tryz.prog w base spare held n 3 (List.take (Tryz.prog.cellsOf 3) (List.drop 0 [c0, c1, c2, c3, c4])) = some x0 := hf 0 _ rfl
        rw [cells_int] at f0
        have f0 : DataW.trod enc Tryz.prog w base spare held n 3 [c0] = some x0 := f0
        have f1 : DataW.trod enc Tryz.prog w base spare held n 9 (List.take (Tryz.prog.cellsOf 9) (List.drop 1 [c0, c1, c2, c3, c4])) = some x1 := hf 1 _ rfl
        rw [cells_string] at f1
        have f1 : DataW.trod enc Tryz.prog w base spare held n 9 [c1] = some x1 := f1
        have f2 : DataW.trod enc Tryz.prog w base spare held n 26 (List.take (Tryz.prog.cellsOf 26) (List.drop 2 [c0, c1, c2, c3, c4])) = some x2 := hf 2 _ rfl
        rw [cells_sets] at f2
        have f2 : DataW.trod enc Tryz.prog w base spare held n 26 [c2] = some x2 := f2
        have f3 : DataW.trod enc Tryz.prog w base spare held n 27 (List.take (Tryz.prog.cellsOf 27) (List.drop 3 [c0, c1, c2, c3, c4])) = some x3 := hf 3 _ rfl
        rw [cells_rules] at f3
        have f3 : DataW.trod enc Tryz.prog w base spare held n 27 [c3] = some x3 := f3
        have f4 : DataW.trod enc Tryz.prog w base spare held n 24 (List.take (Tryz.prog.cellsOf 24) (List.drop 4 [c0, c1, c2, c3, c4])) = some x4 := hf 4 _ rfl
        rw [cells_sieves] at f4
        have f4 : DataW.trod enc Tryz.prog w base spare held n 24 [c4] = some x4 := f4
        obtain ⟨k, e0, -, -⟩ := DataW.trod_int Tryz.underlying3 f0
        obtain ⟨s, e1, hx1, -⟩ := DataW.trod_string Tryz.underlying9 f1
        obtain ⟨sa, sn, sc, ps, e2, hps⟩ := sets_of f2
        simp only [List.cons.injEq, and_true] at e0 e1 e2
        subst e0 e1 e2
        have hB : Rows.uptoBulk (DataW.agg (List.map (fun x => x.fst) [x0, x1, x2, x3, x4])) = Rows.uptoBulk x0.1 + (Rows.uptoBulk x1.1 + (Rows.uptoBulk x2.1 + (Rows.uptoBulk x3.1 + (Rows.uptoBulk x4.1 + 0)))) + 1 := by simp only [Rows.uptoBulk, List.map_cons, List.map_nil, Rows.uptoBulkAll]
        have hK : ∃ ka kn kc ks, c3 = .slice ka kn kc ∧ RulesAt (fun _ => True) w ka kn kc ks ∧ ks.length ≤ Rows.uptoBulk x3.1 ∧ SmallRs (Rows.uptoBulk x3.1) ks := by
          rcases DataW.trod_slice Tryz.underlying27 f3 with ⟨e5, -⟩ | ⟨a, len, cap, elems, rest, n', rfl, e5, hxx, -, hl, hm, hlen, hel, -, -⟩
          · cases e5
            exact ⟨none, 0, 0, [], rfl, rules_none _, Nat.zero_le _, by simp [SmallRs]⟩
          · cases e5
            rw [cells_rule] at hel
            obtain ⟨Z, h1, h2⟩ := choose_list (fun i (z : Rv × Rl) => (∀ j v, z.1.cells[j]? = some v → w.cell? (a.add (i * 5 + j)) = some v) ∧ RuleAt (fun _ => True) w z.1 z.2 ∧ SmallR (Rows.uptoBulk x3.1) z.2) len fun i hi => by
              have h1 := hel i hi
              obtain ⟨q, hq⟩ := some_of_lt hlen hi
              rw [hq, Option.bind_eq_some_iff] at h1
              obtain ⟨cs', hc, ht⟩ := h1
              obtain ⟨-, hcl', hat⟩ := World.cells?_some hc
              obtain ⟨e, t, rfl, hT, hSt⟩ := ih n' (by omega) cs' _ ht
              have h5 : q.1 ∈ List.map (fun x => x.fst) elems := List.mem_map.2 ⟨q, List.mem_of_getElem? hq, rfl⟩
              have h6 := bulk_part h5
              refine ⟨(e, t), fun j v hj => ?_, hT, SmallR.mono (by rw [hxx]; simp only [Rows.uptoBulk]; omega) hSt⟩
              have hj6 : j < 5 := by have := (List.getElem?_eq_some_iff.1 hj).1; simpa [Rv.cells] using this
              rw [← Addr.add_add, hat j hj6]
              exact hj
            have hZl : (Z.map Prod.snd).length ≤ Rows.uptoBulk x3.1 := by
              have h5 := bulk_len (List.map (fun x => x.fst) elems)
              rw [List.length_map] at h5
              rw [List.length_map, h1, hxx]
              simp only [Rows.uptoBulk]
              omega
            have hZs : SmallRs (Rows.uptoBulk x3.1) (Z.map Prod.snd) := (smallRs_iff _ _).2 fun t ht => by
              obtain ⟨z, hz, rfl⟩ := List.mem_map.1 ht
              obtain ⟨i, hi⟩ := List.getElem?_of_mem hz
              exact (h2 i z hi).2.2
            refine ⟨some a, len, cap, Z.map Prod.snd, rfl, ⟨by simp [h1], hl, hm, RowR.of fun i t hi => ?_⟩, hZl, hZs⟩
            simp only [List.getElem?_map, Option.map_eq_some_iff] at hi
            obtain ⟨z, hz, rfl⟩ := hi
            obtain ⟨hc, hT, -⟩ := h2 i z hz
            have h0 : a = ⟨a.block, a.off, none⟩ := by
              obtain ⟨z0, hz0⟩ := some_of_lt h1 (show 0 < len by have := (List.getElem?_eq_some_iff.1 hz).1; omega)
              have := (h2 0 z0 hz0).1 0 _ rfl
              exact spot_none (by simpa [Addr.add] using this)
            rw [h0] at hc
            simp only [Addr.add_lit] at hc
            have ha : ∀ j, a.off + (i * 5 + j) = a.off + (0 + i) * 5 + 0 + j := fun j => by omega
            simp only [ha] at hc
            exact ⟨a.block, a.off, z.1, by rw [← h0], trivial, ⟨hc 0 _ rfl, hc 1 _ rfl, hc 2 _ rfl, hc 3 _ rfl, hc 4 _ rfl⟩, hT⟩
        have hV : ∃ va vn vc ns rs, c4 = .slice va vn vc ∧ SievesAt (fun _ => True) w va vn vc ns rs ∧ rs.length ≤ Rows.uptoBulk x4.1 ∧ SmallRs (Rows.uptoBulk x4.1) rs := by
          rcases DataW.trod_slice Tryz.underlying24 f4 with ⟨e5, -⟩ | ⟨a, len, cap, elems, rest, n', hn', e5, hxx, -, hl, hm, hlen, hel, -, -⟩
          · cases e5
            exact ⟨none, 0, 0, [], [], rfl, sieves_none _, Nat.zero_le _, by simp [SmallRs]⟩
          · cases e5
            rw [cells_sieve] at hel
            obtain ⟨Z, h1, h2⟩ := choose_list (fun i (z : ByteArray × Rv × Rl) => (∀ j v, (Value.string z.1 :: z.2.1.cells)[j]? = some v → w.cell? (a.add (i * 6 + j)) = some v) ∧ RuleAt (fun _ => True) w z.2.1 z.2.2 ∧ SmallR (Rows.uptoBulk x4.1) z.2.2) len fun i hi => by
              have h1 := hel i hi
              obtain ⟨q, hq⟩ := some_of_lt hlen hi
              rw [hq, Option.bind_eq_some_iff] at h1
              obtain ⟨cs', hc, ht⟩ := h1
              obtain ⟨-, hcl', hat⟩ := World.cells?_some hc
              obtain ⟨ys, m, hqe, hme, hcl2, hyl, hf2⟩ := DataW.trod_struct Tryz.underlying46 ht
              rw [cells_sieve] at hcl2
              match cs', hcl2 with
              | [d0, d1, d2, d3, d4, d5], _ =>
                match ys, hyl with
                | [y0, y1], _ =>
                  have g0 : DataW.trod enc Tryz.prog w base spare held m 9 (List.take (Tryz.prog.cellsOf 9) (List.drop 0 [d0, d1, d2, d3, d4, d5])) = some y0 := hf2 0 _ rfl
                  rw [cells_string] at g0
                  have g0 : DataW.trod enc Tryz.prog w base spare held m 9 [d0] = some y0 := g0
                  have g1 : DataW.trod enc Tryz.prog w base spare held m 29 (List.take (Tryz.prog.cellsOf 29) (List.drop 1 [d0, d1, d2, d3, d4, d5])) = some y1 := hf2 1 _ rfl
                  rw [cells_rule] at g1
                  have g1 : DataW.trod enc Tryz.prog w base spare held m 29 [d1, d2, d3, d4, d5] = some y1 := g1
                  obtain ⟨nm, e6, -, -⟩ := DataW.trod_string Tryz.underlying9 g0
                  simp only [List.cons.injEq, and_true] at e6
                  subst e6
                  obtain ⟨e, t, he, hT, hSt⟩ := ih m (by omega) _ _ g1
                  have h5 : q.1 ∈ List.map (fun x => x.fst) elems := List.mem_map.2 ⟨q, List.mem_of_getElem? hq, rfl⟩
                  have h6 := bulk_part h5
                  have h7 : Rows.uptoBulk y1.1 ≤ Rows.uptoBulk q.1 := by
                    rw [hme]
                    simp only [Rows.uptoBulk, List.map_cons, List.map_nil, Rows.uptoBulkAll]
                    omega
                  refine ⟨(nm, e, t), fun j v hj => ?_, hT, SmallR.mono (by rw [hxx]; simp only [Rows.uptoBulk]; omega) hSt⟩
                  have he : [d1, d2, d3, d4, d5] = e.cells := he
                  rw [he] at hat
                  have hj6 : j < 6 := by have := (List.getElem?_eq_some_iff.1 hj).1; simpa [Rv.cells] using this
                  rw [← Addr.add_add, hat j hj6]
                  exact hj
            have hZl : (Z.map fun z => z.2.2).length ≤ Rows.uptoBulk x4.1 := by
              have h5 := bulk_len (List.map (fun x => x.fst) elems)
              rw [List.length_map] at h5
              rw [List.length_map, h1, hxx]
              simp only [Rows.uptoBulk]
              omega
            have hZs : SmallRs (Rows.uptoBulk x4.1) (Z.map fun z => z.2.2) := (smallRs_iff _ _).2 fun t ht => by
              obtain ⟨z, hz, rfl⟩ := List.mem_map.1 ht
              obtain ⟨i, hi⟩ := List.getElem?_of_mem hz
              exact (h2 i z hi).2.2
            have h00 : ∀ i z, Z[i]? = some z → a = ⟨a.block, a.off, none⟩ := fun i z hz => by
              obtain ⟨z0, hz0⟩ := some_of_lt h1 (show 0 < len by have := (List.getElem?_eq_some_iff.1 hz).1; omega)
              have := (h2 0 z0 hz0).1 0 _ rfl
              exact spot_none (by simpa [Addr.add] using this)
            refine ⟨some a, len, cap, Z.map Prod.fst, Z.map fun z => z.2.2, rfl, ⟨by simp [h1], by simp [h1], hl, hm, fun i nm hi => ?_, RowR.of fun i t hi => ?_⟩, hZl, hZs⟩
            · simp only [List.getElem?_map, Option.map_eq_some_iff] at hi
              obtain ⟨z, hz, rfl⟩ := hi
              have hc := (h2 i z hz).1 0 _ rfl
              have h0 := h00 i z hz
              rw [h0, Addr.add_lit] at hc
              exact ⟨a.block, a.off, by rw [← h0], trivial, by simpa using hc⟩
            · simp only [List.getElem?_map, Option.map_eq_some_iff] at hi
              obtain ⟨z, hz, rfl⟩ := hi
              obtain ⟨hc, hT, -⟩ := h2 i z hz
              have h0 := h00 i z hz
              rw [h0] at hc
              simp only [Addr.add_lit] at hc
              have ha : ∀ j, a.off + (i * 6 + (j + 1)) = a.off + (0 + i) * 6 + 1 + j := fun j => by omega
              have hc2 : ∀ j v, z.2.1.cells[j]? = some v → w.cell? ⟨a.block, a.off + (0 + i) * 6 + 1 + j, none⟩ = some v := fun j v hj => by
                rw [← ha]
                exact hc (j + 1) v (by simpa using hj)
              exact ⟨a.block, a.off, z.2.1, by rw [← h0], trivial, ⟨hc2 0 _ rfl, hc2 1 _ rfl, hc2 2 _ rfl, hc2 3 _ rfl, hc2 4 _ rfl⟩, hT⟩
        obtain ⟨ka, kn, kc, ks, rfl, hR, hkl, hks⟩ := hK
        obtain ⟨va, vn, vc, ns, rs, rfl, hSv, hrl, hrs⟩ := hV
        refine ⟨⟨k, s, sa, sn, sc, ka, kn, kc, va, vn, vc⟩, .mk k s ps ks ns rs, rfl, RuleAt.of rfl rfl hps hR hSv, ?_⟩
        rw [SmallR, hB]
        exact ⟨by omega, by omega, SmallRs.mono (by omega) hks, SmallRs.mono (by omega) hrs⟩
set_option maxRecDepth 20000 in
theorem rule_valS {fuel : Nat} {r : Reach} {b0 : Nat} {v : Value} {x : DataW H × List MemPlace} {W : World} (hv : Value.okWide Tryz.prog W r b0 29 v) (h : DataW.trod enc Tryz.prog w base spare held fuel 29 v.cells.toList = some x) :
    ∃ (e : Rv) (t : Rl), v = e.val ∧ RuleAt (fun _ => True) w e t ∧ SmallR (Rows.uptoBulk x.1) t := by
  obtain ⟨cs, rfl, -⟩ := okWide_struct Tryz.underlying29 hv
  obtain ⟨e, t, he, hT, hSt⟩ := rule_small fuel _ _ h
  refine ⟨e, t, ?_, hT, hSt⟩
  have he : cs.toList = e.cells := he
  have : cs = e.cells.toArray := by rw [← he]
  subst this
  rfl
end
end Go.Proofs.YtdjojnlejkljdaaGreat

