/-
  What came in is bounded: so are all parts of a tree.
-/
import Derived.Test.YtpkkdmopcfcnkaaOl
import Derived.Test.YtpkkdmopcfcnkaaOpen2
import Derived.Test.YtpkkdmopcfcnkaaPf
namespace Go.Proofs.Ytpkkdmopcfcnkaa
open Go.ChangeShapes Go.WideShapes Go.ChangeAt Go.RowKit

section
variable {H : Type} {enc : TypeId × Value → H} {w : World} {base : Nat} {spare : Nat → Bool} {held : Bool}
theorem bulk_pos (d : DataW H) : 1 ≤ Rows.uptoBulk d := by
  cases d with
  | lit l => cases l <;> simp [Rows.uptoBulk]
  | _ => simp [Rows.uptoBulk]
theorem bulk_len : ∀ l : List (DataW H), l.length ≤ Rows.uptoBulkAll l
  | [] => by simp
  | d :: r => by
    have h1 := bulk_len r
    have h2 := bulk_pos d
    simp only [List.length_cons, Rows.uptoBulkAll]
    omega
theorem strs_small {fuel : Nat} {cs : List Value} {x : DataW H × List MemPlace} (h : DataW.trod enc Try.prog w base spare held fuel 23 cs = some x) :
    ∃ a n c ss, cs = [.slice a n c] ∧ StrsAt (fun _ => True) w a n c ss ∧ ss.length ≤ Rows.uptoBulk x.1 ∧ ∀ s ∈ ss, s.size ≤ Rows.uptoBulk x.1 := by
  rcases DataW.trod_slice Try.underlying23 h with ⟨rfl, -⟩ | ⟨a, len, cap, elems, rest, n, -, rfl, hxx, -, hl, hm, hlen, hel, -, -⟩
  · exact ⟨none, 0, 0, [], rfl, ⟨rfl, Nat.le_refl _, by simp [maxLen], fun _ _ h => by simp at h⟩, Nat.zero_le _, fun s hs => by cases hs⟩
  · rw [cells_string] at hel
    obtain ⟨ss, h1, h2⟩ := choose_list (fun i s => w.cell? (a.add i) = some (.string s) ∧ s.size ≤ Rows.uptoBulk x.1) len fun i hi => by
      have h1 := hel i hi
      obtain ⟨y, hy⟩ := some_of_lt hlen hi
      rw [hy, Option.bind_eq_some_iff] at h1
      obtain ⟨cs', hc, ht⟩ := h1
      obtain ⟨-, -, hat⟩ := World.cells?_some hc
      obtain ⟨s, rfl, hyy, -⟩ := DataW.trod_string Try.underlying9 ht
      have := hat 0 (by omega)
      refine ⟨s, by simpa [Addr.add_add] using this, ?_⟩
      have h5 : y.1 ∈ List.map (fun x => x.fst) elems := List.mem_map.2 ⟨y, List.mem_of_getElem? hy, rfl⟩
      have h6 := bulk_part h5
      have h7 : Rows.uptoBulk y.1 = s.data.toList.length + 1 := by rw [hyy]; simp [Rows.uptoBulk]
      have h8 := Lib.size_eq s
      subst hxx
      simp only [Rows.uptoBulk]
      omega
    refine ⟨some a, len, cap, ss, rfl, ⟨h1, hl, hm, fun i s hi => ?_⟩, ?_, fun s hs => ?_⟩
    rotate_left
    · have h5 := bulk_len (List.map (fun x => x.fst) elems)
      rw [List.length_map] at h5
      subst hxx
      simp only [Rows.uptoBulk]
      omega
    · obtain ⟨i, hi⟩ := List.getElem?_of_mem hs
      exact (h2 i s hi).2
    have hc := (h2 i s hi).1
    have h0 : a = ⟨a.block, a.off, none⟩ := by
      obtain ⟨s0, hs0⟩ := some_of_lt h1 (show 0 < len by have := (List.getElem?_eq_some_iff.1 hi).1; omega)
      exact spot_none (by simpa [Addr.add] using (h2 0 s0 hs0).1)
    rw [h0, Addr.add_lit] at hc
    exact ⟨a.block, a.off, by rw [← h0], trivial, hc⟩
set_option maxRecDepth 20000 in
theorem tree_small : ∀ (fuel : Nat) (cs : List Value) (x : DataW H × List MemPlace), DataW.trod enc Try.prog w base spare held fuel 26 cs = some x → ∃ (e : El) (t : T), cs = e.cells ∧ TreeAt (fun _ => True) w e t ∧ SmallT (Rows.uptoBulk x.1) t := by
  intro fuel
  induction fuel using Nat.strongRecOn with
  | ind fuel ih =>
    intro cs x h
    obtain ⟨xs, n, rfl, rfl, hcl, hxl, hf⟩ := DataW.trod_struct Try.underlying26 h
    rw [cells_tree] at hcl
    match cs, hcl with
    | [c0, c1, c2, c3, c4, c5], _ =>
      match xs, hxl with
      | [x0, x1, x2, x3, x4, x5], _ =>
        have f0 : DataW.trod enc Try.prog w base spare held n 3 (List.take (Try.prog.cellsOf 3) (List.drop 0 [c0, c1, c2, c3, c4, c5])) = some x0 := hf 0 _ rfl
        rw [cells_int] at f0
        have f0 : DataW.trod enc Try.prog w base spare held n 3 [c0] = some x0 := f0
        have f1 : DataW.trod enc Try.prog w base spare held n 9 (List.take (Try.prog.cellsOf 9) (List.drop 1 [c0, c1, c2, c3, c4, c5])) = some x1 := hf 1 _ rfl
        rw [cells_string] at f1
        have f1 : DataW.trod enc Try.prog w base spare held n 9 [c1] = some x1 := f1
        have f2 : DataW.trod enc Try.prog w base spare held n 22 (List.take (Try.prog.cellsOf 22) (List.drop 2 [c0, c1, c2, c3, c4, c5])) = some x2 := hf 2 _ rfl
        rw [cells_float] at f2
        have f2 : DataW.trod enc Try.prog w base spare held n 22 [c2] = some x2 := f2
        have f3 : DataW.trod enc Try.prog w base spare held n 4 (List.take (Try.prog.cellsOf 4) (List.drop 3 [c0, c1, c2, c3, c4, c5])) = some x3 := hf 3 _ rfl
        rw [cells_bool] at f3
        have f3 : DataW.trod enc Try.prog w base spare held n 4 [c3] = some x3 := f3
        have f4 : DataW.trod enc Try.prog w base spare held n 23 (List.take (Try.prog.cellsOf 23) (List.drop 4 [c0, c1, c2, c3, c4, c5])) = some x4 := hf 4 _ rfl
        rw [cells_strings] at f4
        have f4 : DataW.trod enc Try.prog w base spare held n 23 [c4] = some x4 := f4
        have f5 : DataW.trod enc Try.prog w base spare held n 24 (List.take (Try.prog.cellsOf 24) (List.drop 5 [c0, c1, c2, c3, c4, c5])) = some x5 := hf 5 _ rfl
        rw [cells_trees] at f5
        have f5 : DataW.trod enc Try.prog w base spare held n 24 [c5] = some x5 := f5
        obtain ⟨k, e0, -, -⟩ := DataW.trod_int Try.underlying3 f0
        obtain ⟨s, e1, hx1, -⟩ := DataW.trod_string Try.underlying9 f1
        obtain ⟨d, e2⟩ := trod_float Try.underlying22 f2
        obtain ⟨y, e3, -⟩ := DataW.trod_bool Try.underlying4 f3
        obtain ⟨ka, kn, kc, ss, e4, hss, hsl, hsz⟩ := strs_small f4
        simp only [List.cons.injEq, and_true] at e0 e1 e2 e3 e4
        subst e0 e1 e2 e3 e4
        have hs1 : Rows.uptoBulk x1.1 = s.data.toList.length + 1 := by rw [hx1]; simp [Rows.uptoBulk]
        have hs2 := Lib.size_eq s
        have hB : Rows.uptoBulk (DataW.agg (List.map (fun x => x.fst) [x0, x1, x2, x3, x4, x5])) = Rows.uptoBulk x0.1 + (Rows.uptoBulk x1.1 + (Rows.uptoBulk x2.1 + (Rows.uptoBulk x3.1 + (Rows.uptoBulk x4.1 + (Rows.uptoBulk x5.1 + 0))))) + 1 := by simp only [Rows.uptoBulk, List.map_cons, List.map_nil, Rows.uptoBulkAll]
        have hSm : ∀ kids : List T, kids.length ≤ Rows.uptoBulk x5.1 → SmallTs (Rows.uptoBulk x5.1) kids → SmallT (Rows.uptoBulk (DataW.agg (List.map (fun x => x.fst) [x0, x1, x2, x3, x4, x5]))) (.mk k s d y ss kids) := fun kids hk1 hk2 => by
          rw [SmallT, hB]
          exact ⟨by omega, by omega, fun z hz => by have := hsz z hz; omega, by omega, SmallTs.mono (by omega) hk2⟩
        clear hB hs1 hsl hsz
        rcases DataW.trod_slice Try.underlying24 f5 with ⟨e5, -⟩ | ⟨a, len, cap, elems, rest, n', rfl, e5, hxx, -, hl, hm, hlen, hel, -, -⟩
        · cases e5
          exact ⟨⟨k, s, d, y, ka, kn, kc, none, 0, 0⟩, .mk k s d y ss [], rfl, TreeAt.of rfl rfl rfl rfl hss (KidsAt.of rfl (Nat.le_refl _) (by simp [maxLen]) fun _ _ h => by simp [T.kids] at h), hSm [] (Nat.zero_le _) (by rw [SmallTs]; trivial)⟩
        · cases e5
          rw [cells_tree] at hel
          obtain ⟨Z, h1, h2⟩ := choose_list (fun i (z : El × T) => (∀ j v, z.1.cells[j]? = some v → w.cell? (a.add (i * 6 + j)) = some v) ∧ TreeAt (fun _ => True) w z.1 z.2 ∧ SmallT (Rows.uptoBulk x5.1) z.2) len fun i hi => by
            have h1 := hel i hi
            obtain ⟨q, hq⟩ := some_of_lt hlen hi
            rw [hq, Option.bind_eq_some_iff] at h1
            obtain ⟨cs', hc, ht⟩ := h1
            obtain ⟨-, hcl', hat⟩ := World.cells?_some hc
            obtain ⟨e, t, rfl, hT, hSt⟩ := ih n' (by omega) cs' _ ht
            have h5 : q.1 ∈ List.map (fun x => x.fst) elems := List.mem_map.2 ⟨q, List.mem_of_getElem? hq, rfl⟩
            have h6 := bulk_part h5
            refine ⟨(e, t), fun j v hj => ?_, hT, SmallT.mono (by rw [hxx]; simp only [Rows.uptoBulk]; omega) hSt⟩
            have hj6 : j < 6 := by have := (List.getElem?_eq_some_iff.1 hj).1; simpa [El.cells] using this
            rw [← Addr.add_add, hat j hj6]
            exact hj
          have hZl : (Z.map Prod.snd).length ≤ Rows.uptoBulk x5.1 := by
            have h5 := bulk_len (List.map (fun x => x.fst) elems)
            rw [List.length_map] at h5
            rw [List.length_map, h1, hxx]
            simp only [Rows.uptoBulk]
            omega
          have hZs : SmallTs (Rows.uptoBulk x5.1) (Z.map Prod.snd) := (smallTs_iff _ _).2 fun t ht => by
            obtain ⟨z, hz, rfl⟩ := List.mem_map.1 ht
            obtain ⟨i, hi⟩ := List.getElem?_of_mem hz
            exact (h2 i z hi).2.2
          suffices hKA : KidsAt (fun _ => True) w (some a) len cap (Z.map Prod.snd) from ⟨⟨k, s, d, y, ka, kn, kc, some a, len, cap⟩, .mk k s d y ss (Z.map Prod.snd), rfl, TreeAt.of rfl rfl rfl rfl hss hKA, hSm _ hZl hZs⟩
          refine KidsAt.of (by simp [h1]) hl hm fun i t hi => ?_
          simp only [List.getElem?_map, Option.map_eq_some_iff] at hi
          obtain ⟨z, hz, rfl⟩ := hi
          obtain ⟨hc, hT, -⟩ := h2 i z hz
          have h0 : a = ⟨a.block, a.off, none⟩ := by
            obtain ⟨z0, hz0⟩ := some_of_lt h1 (show 0 < len by have := (List.getElem?_eq_some_iff.1 hz).1; omega)
            have := (h2 0 z0 hz0).1 0 _ rfl
            exact spot_none (by simpa [Addr.add] using this)
          rw [h0] at hc
          simp only [Addr.add_lit] at hc
          have ha : ∀ j, a.off + (i * 6 + j) = a.off + i * 6 + j := fun j => by omega
          simp only [ha] at hc
          exact ⟨a.block, a.off, z.1, by rw [← h0], trivial, ⟨hc 0 _ rfl, hc 1 _ rfl, hc 2 _ rfl, hc 3 _ rfl, hc 4 _ rfl, hc 5 _ rfl⟩, hT⟩
set_option maxRecDepth 20000 in
theorem tree_valS {fuel : Nat} {r : Reach} {b0 : Nat} {v : Value} {x : DataW H × List MemPlace} {W : World} (hv : Value.okWide Try.prog W r b0 26 v) (h : DataW.trod enc Try.prog w base spare held fuel 26 v.cells.toList = some x) :
    ∃ (e : El) (t : T), v = e.val ∧ TreeAt (fun _ => True) w e t ∧ SmallT (Rows.uptoBulk x.1) t := by
  obtain ⟨cs, rfl, -⟩ := okWide_struct Try.underlying26 hv
  obtain ⟨e, t, he, hT, hSt⟩ := tree_small fuel _ _ h
  refine ⟨e, t, ?_, hT, hSt⟩
  have he : cs.toList = e.cells := he
  have : cs = e.cells.toArray := by rw [← he]
  subst this
  rfl
set_option maxRecDepth 20000 in
theorem kids_small {fuel : Nat} {cs : List Value} {x : DataW H × List MemPlace} (h : DataW.trod enc Try.prog w base spare held fuel 24 cs = some x) :
    ∃ a n c ts, cs = [.slice a n c] ∧ KidsAt (fun _ => True) w a n c ts ∧ ts.length ≤ Rows.uptoBulk x.1 ∧ SmallTs (Rows.uptoBulk x.1) ts := by
  rcases DataW.trod_slice Try.underlying24 h with ⟨rfl, -⟩ | ⟨a, len, cap, elems, rest, n', -, rfl, hxx, -, hl, hm, hlen, hel, -, -⟩
  · exact ⟨none, 0, 0, [], rfl, KidsAt.of rfl (Nat.le_refl _) (by simp [maxLen]) fun _ _ h => by simp at h, Nat.zero_le _, by rw [SmallTs]; trivial⟩
  · rw [cells_tree] at hel
    obtain ⟨Z, h1, h2⟩ := choose_list (fun i (z : El × T) => (∀ j v, z.1.cells[j]? = some v → w.cell? (a.add (i * 6 + j)) = some v) ∧ TreeAt (fun _ => True) w z.1 z.2 ∧ SmallT (Rows.uptoBulk x.1) z.2) len fun i hi => by
      have h1 := hel i hi
      obtain ⟨q, hq⟩ := some_of_lt hlen hi
      rw [hq, Option.bind_eq_some_iff] at h1
      obtain ⟨cs', hc, ht⟩ := h1
      obtain ⟨-, hcl', hat⟩ := World.cells?_some hc
      obtain ⟨e, t, rfl, hT, hSt⟩ := tree_small n' cs' _ ht
      have h5 : q.1 ∈ List.map (fun x => x.fst) elems := List.mem_map.2 ⟨q, List.mem_of_getElem? hq, rfl⟩
      have h6 := bulk_part h5
      refine ⟨(e, t), fun j v hj => ?_, hT, SmallT.mono (by rw [hxx]; simp only [Rows.uptoBulk]; omega) hSt⟩
      have hj6 : j < 6 := by have := (List.getElem?_eq_some_iff.1 hj).1; simpa [El.cells] using this
      rw [← Addr.add_add, hat j hj6]
      exact hj
    have hZl : (Z.map Prod.snd).length ≤ Rows.uptoBulk x.1 := by
      have h5 := bulk_len (List.map (fun x => x.fst) elems)
      rw [List.length_map] at h5
      rw [List.length_map, h1, hxx]
      simp only [Rows.uptoBulk]
      omega
    have hZs : SmallTs (Rows.uptoBulk x.1) (Z.map Prod.snd) := (smallTs_iff _ _).2 fun t ht => by
      obtain ⟨z, hz, rfl⟩ := List.mem_map.1 ht
      obtain ⟨i, hi⟩ := List.getElem?_of_mem hz
      exact (h2 i z hi).2.2
    suffices hKA : KidsAt (fun _ => True) w (some a) len cap (Z.map Prod.snd) from ⟨some a, len, cap, Z.map Prod.snd, rfl, hKA, hZl, hZs⟩
    refine KidsAt.of (by simp [h1]) hl hm fun i t hi => ?_
    simp only [List.getElem?_map, Option.map_eq_some_iff] at hi
    obtain ⟨z, hz, rfl⟩ := hi
    obtain ⟨hc, hT, -⟩ := h2 i z hz
    have h0 : a = ⟨a.block, a.off, none⟩ := by
      obtain ⟨z0, hz0⟩ := some_of_lt h1 (show 0 < len by have := (List.getElem?_eq_some_iff.1 hz).1; omega)
      have := (h2 0 z0 hz0).1 0 _ rfl
      exact spot_none (by simpa [Addr.add] using this)
    rw [h0] at hc
    simp only [Addr.add_lit] at hc
    have ha : ∀ j, a.off + (i * 6 + j) = a.off + i * 6 + j := fun j => by omega
    simp only [ha] at hc
    exact ⟨a.block, a.off, z.1, by rw [← h0], trivial, ⟨hc 0 _ rfl, hc 1 _ rfl, hc 2 _ rfl, hc 3 _ rfl, hc 4 _ rfl, hc 5 _ rfl⟩, hT⟩
end
end Go.Proofs.Ytpkkdmopcfcnkaa
