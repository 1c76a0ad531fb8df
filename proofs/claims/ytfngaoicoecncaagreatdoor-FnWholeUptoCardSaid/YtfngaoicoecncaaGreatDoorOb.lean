/-
  What came in is bounded: so are all parts of a tree.
-/
import Derived.Test.YtfngaoicoecncaaGreatDoorBase
import Derived.ProofKit
import Derived.OpenShut
import Derived.JoinedCond
import Derived.Carry
import Derived.ChangeMaps5
import Derived.Lib.Strings
import Derived.Test.YtfngaoicoecncaaGreatDoorRows
import Derived.Test.YtfngaoicoecncaaGreatDoorPf
namespace Go.Proofs.YtfngaoicoecncaaGreatDoor
open Go.ChangeShapes Go.WideShapes Go.ChangeAt Go.RowKit

section
variable {H : Type} {enc : TypeId × Value → H} {P : Program}
theorem trods_below (hl : laidOutB P = true) {W W' : World} (hb : Ext W W') : ∀ {ts : List TypeId} {vs : List Value} {ds : List (DataW H)} {ps : List MemPlace}, ts.all (fun t => P.readableRec t && decide (t < P.types.size)) = true →
    (∀ x ∈ ps, x.block < W.heap.size) → DataW.TrodAll enc P W 0 (fun _ => true) true ts vs ds ps → DataW.TrodAll enc P W' 0 (fun b => decide (b < W.heap.size)) true ts vs ds ps
  | [], vs, ds, ps, _, _, h => by
    obtain ⟨rfl, rfl, rfl⟩ := trodAll_nil h
    exact trodAll_mk0
  | t :: ts, vs, ds, ps, hall, hlt, h => by
    simp only [List.all_cons, Bool.and_eq_true, decide_eq_true_eq] at hall
    obtain ⟨v, vs', d, ds', p, q, rfl, rfl, rfl, h0, hr⟩ := trodAll_cons h
    exact trodAll_cons_mk (Below.trod hl hall.1.1 hall.1.2 h0 hb fun x hx => hlt x (by simp [hx])) (trods_below hl hb hall.2 (fun x hx => hlt x (by simp [hx])) hr)

/-- What a law's statement asks behind the call. -/
theorem post_law {f : Func} {s : ChangeSpec} (hl : laidOutB P = true) (hp : f.params.toList.all (fun t => P.readableRec t && decide (t < P.types.size)) = true) {tb : TypeId} (hr : f.resultTypes = #[tb]) (htb : P.underlying tb = some .bool) (hv : s.vars = [])
    {W W' : World} {args : Array Value} {ds gs : List (DataW H)} {before : List MemPlace} (hW : DataW.Whole enc P f.params.toList s.vars false W args.toList ds gs before) (hfn : s.fn H (ds ++ gs) = { results := [.lit (.bool true)], args := ds }) (hx : Ext W W') :
    s.post enc P f false true false false W args (.bool true) W' := by
  have hlt : ∀ p ∈ before, p.block < W.heap.size := fun p hp => hW.lt p hp
  have hW0 := hW
  obtain ⟨pa, pv, hA, hV, rfl, hz, hn⟩ := hW0
  rw [hv] at hV
  obtain ⟨rfl, rfl⟩ := trodVars_none hV
  refine ⟨ds, [], pa ++ [], [], pa, [], hW, ?_, ?_, ?_, World.keptBut_mono (fun p hp => ⟨hp, .inr (.inl (by simpa using hp))⟩) (Below.frame hx (· ∈ pa ++ [])), fun h => by cases h⟩
  · rw [hfn, hr]
    exact trodAll_cons_mk (shut_bool htb _) trodAll_mk0
  · rw [hfn]
    exact trods_below hl hx hp (fun x hx => hlt x (by simp [hx])) hA
  · rw [hfn, hv]
    exact rfl
end
theorem laidOut : laidOutB Tryz.prog = true := by kernel_rfl
theorem ownKnobs : ownKnob Tryz.prog.godebug = none := by kernel_rfl
end Go.Proofs.YtfngaoicoecncaaGreatDoor

namespace Go.Proofs.YtfngaoicoecncaaGreatDoor
open Go.ChangeShapes Go.WideShapes Go.ChangeAt Go.RowKit

theorem choose_list {α : Type} (p : Nat → α → Prop) : ∀ n, (∀ i, i < n → ∃ x, p i x) → ∃ l : List α, l.length = n ∧ ∀ i x, l[i]? = some x → p i x
  | 0, _ => ⟨[], rfl, fun _ _ h => by simp at h⟩
  | n + 1, h => by
    obtain ⟨l, h1, h2⟩ := choose_list p n fun i hi => h i (by omega)
    obtain ⟨x, hx⟩ := h n (by omega)
    refine ⟨l ++ [x], by simp [h1], fun i y hy => ?_⟩
    by_cases hi : i < n
    · rw [List.getElem?_append_left (by omega)] at hy
      exact h2 i y hy
    · have hj := (List.getElem?_eq_some_iff.1 hy).1
      simp at hj
      have : i = n := by omega
      subst this
      rw [List.getElem?_append_right (by omega), h1] at hy
      simp at hy
      subst hy
      exact hx

section
variable {H : Type} {enc : TypeId × Value → H} {w : World} {base : Nat} {spare : Nat → Bool} {held : Bool}
theorem cells_int : Tryz.prog.cellsOf 3 = 1 := by kernel_rfl
theorem cells_string : Tryz.prog.cellsOf 9 = 1 := by kernel_rfl
theorem cells_float : Tryz.prog.cellsOf 22 = 1 := by kernel_rfl
theorem cells_bool : Tryz.prog.cellsOf 4 = 1 := by kernel_rfl
theorem cells_strings : Tryz.prog.cellsOf 23 = 1 := by kernel_rfl
theorem cells_trees : Tryz.prog.cellsOf 24 = 1 := by kernel_rfl
theorem cells_tree : Tryz.prog.cellsOf 26 = 6 := by kernel_rfl
theorem spot_none {a : Addr} {v : Value} (h : w.cell? a = some v) : a = ⟨a.block, a.off, none⟩ := by
  obtain ⟨b, o, s⟩ := a
  cases s with
  | none => rfl
  | some s =>
    simp only [World.cell?] at h
    split at h <;> simp at h
theorem trod_float {fuel : Nat} {t : TypeId} {k : FloatKind} {cs : List Value} {x : DataW H × List MemPlace} {P : Program} (ht : P.underlying t = some (.float k)) (h : DataW.trod enc P w base spare held fuel t cs = some x) : ∃ b, cs = [.float k b] := by
  cases fuel with
  | zero => simp [DataW.trod] at h
  | succ n =>
    unfold DataW.trod at h
    rw [ht] at h
    split at h <;> simp_all
theorem strs_of {fuel : Nat} {cs : List Value} {x : DataW H × List MemPlace} (h : DataW.trod enc Tryz.prog w base spare held fuel 23 cs = some x) :
    ∃ a n c ss, cs = [.slice a n c] ∧ StrsAt (fun _ => True) w a n c ss := by
  rcases DataW.trod_slice Tryz.underlying23 h with ⟨rfl, -⟩ | ⟨a, len, cap, elems, rest, n, -, rfl, -, -, hl, hm, hlen, hel, -, -⟩
  · exact ⟨none, 0, 0, [], rfl, rfl, Nat.le_refl _, by simp [maxLen], fun _ _ h => by simp at h⟩
  · rw [cells_string] at hel
    obtain ⟨ss, h1, h2⟩ := choose_list (fun i s => w.cell? (a.add i) = some (.string s)) len fun i hi => by
      have h1 := hel i hi
      obtain ⟨y, hy⟩ := some_of_lt hlen hi
      rw [hy, Option.bind_eq_some_iff] at h1
      obtain ⟨cs', hc, ht⟩ := h1
      obtain ⟨-, -, hat⟩ := World.cells?_some hc
      obtain ⟨s, rfl, -, -⟩ := DataW.trod_string Tryz.underlying9 ht
      have := hat 0 (by omega)
      exact ⟨s, by simpa [Addr.add_add] using this⟩
    refine ⟨some a, len, cap, ss, rfl, h1, hl, hm, fun i s hi => ?_⟩
    have hc := h2 i s hi
    have h0 : a = ⟨a.block, a.off, none⟩ := by
      obtain ⟨s0, hs0⟩ := some_of_lt h1 (show 0 < len by have := (List.getElem?_eq_some_iff.1 hi).1; omega)
      exact spot_none (by simpa [Addr.add] using h2 0 s0 hs0)
    rw [h0, Addr.add_lit] at hc
    exact ⟨a.block, a.off, by rw [← h0], trivial, hc⟩
set_option maxRecDepth 20000 in
theorem tree_of : ∀ (fuel : Nat) (cs : List Value) (x : DataW H × List MemPlace), DataW.trod enc Tryz.prog w base spare held fuel 26 cs = some x → ∃ (e : El) (t : T), cs = e.cells ∧ TreeAt (fun _ => True) w e t := by
  intro fuel
  induction fuel using Nat.strongRecOn with
  | ind fuel ih =>
    intro cs x h
    obtain ⟨xs, n, rfl, -, hcl, hxl, hf⟩ := DataW.trod_struct Tryz.underlying26 h
    rw [cells_tree] at hcl
    match cs, hcl with
    | [c0, c1, c2, c3, c4, c5], _ =>
      match xs, hxl with
      | [x0, x1, x2, x3, x4, x5], _ =>
        have f0 : DataW.trod enc Tryz.prog w base spare held n 3 (List.take (Tryz.prog.cellsOf 3) (List.drop 0 [c0, c1, c2, c3, c4, c5])) = some x0 := hf 0 _ rfl
        rw [cells_int] at f0
        have f0 : DataW.trod enc Tryz.prog w base spare held n 3 [c0] = some x0 := f0
        have f1 : DataW.trod enc Tryz.prog w base spare held n 9 (List.take (Tryz.prog.cellsOf 9) (List.drop 1 [c0, c1, c2, c3, c4, c5])) = some x1 := hf 1 _ rfl
        rw [cells_string] at f1
        have f1 : DataW.trod enc Tryz.prog w base spare held n 9 [c1] = some x1 := f1
        have f2 : DataW.trod enc Tryz.prog w base spare held n 22 (List.take (Tryz.prog.cellsOf 22) (List.drop 2 [c0, c1, c2, c3, c4, c5])) = some x2 := hf 2 _ rfl
        rw [cells_float] at f2
        have f2 : DataW.trod enc Tryz.prog w base spare held n 22 [c2] = some x2 := f2
        have f3 : DataW.trod enc Tryz.prog w base spare held n 4 (List.take (Tryz.prog.cellsOf 4) (List.drop 3 [c0, c1, c2, c3, c4, c5])) = some x3 := hf 3 _ rfl
        rw [cells_bool] at f3
        have f3 : DataW.trod enc Tryz.prog w base spare held n 4 [c3] = some x3 := f3
        have f4 : DataW.trod enc Tryz.prog w base spare held n 23 (List.take (Tryz.prog.cellsOf 23) (List.drop 4 [c0, c1, c2, c3, c4, c5])) = some x4 := hf 4 _ rfl
        rw [cells_strings] at f4
        have f4 : DataW.trod enc Tryz.prog w base spare held n 23 [c4] = some x4 := f4
        have f5 : DataW.trod enc Tryz.prog w base spare held n 24 (List.take (Tryz.prog.cellsOf 24) (List.drop 5 [c0, c1, c2, c3, c4, c5])) = some x5 := hf 5 _ rfl
        rw [cells_trees] at f5
        have f5 : DataW.trod enc Tryz.prog w base spare held n 24 [c5] = some x5 := f5
        obtain ⟨k, e0, -, -⟩ := DataW.trod_int Tryz.underlying3 f0
        obtain ⟨s, e1, -, -⟩ := DataW.trod_string Tryz.underlying9 f1
        obtain ⟨d, e2⟩ := trod_float Tryz.underlying22 f2
        obtain ⟨y, e3, -⟩ := DataW.trod_bool Tryz.underlying4 f3
        obtain ⟨ka, kn, kc, ss, e4, hss⟩ := strs_of f4
        simp only [List.cons.injEq, and_true] at e0 e1 e2 e3 e4
        subst e0 e1 e2 e3 e4
        rcases DataW.trod_slice Tryz.underlying24 f5 with ⟨e5, -⟩ | ⟨a, len, cap, elems, rest, n', rfl, e5, -, -, hl, hm, hlen, hel, -, -⟩
        · cases e5
          exact ⟨⟨k, s, d, y, ka, kn, kc, none, 0, 0⟩, .mk k s d y ss [], rfl, TreeAt.of rfl rfl rfl rfl hss (KidsAt.of rfl (Nat.le_refl _) (by simp [maxLen]) fun _ _ h => by simp [T.kids] at h)⟩
        · cases e5
          rw [cells_tree] at hel
          obtain ⟨Z, h1, h2⟩ := choose_list (fun i (z : El × T) => (∀ j v, z.1.cells[j]? = some v → w.cell? (a.add (i * 6 + j)) = some v) ∧ TreeAt (fun _ => True) w z.1 z.2) len fun i hi => by
            have h1 := hel i hi
            obtain ⟨q, hq⟩ := some_of_lt hlen hi
            rw [hq, Option.bind_eq_some_iff] at h1
            obtain ⟨cs', hc, ht⟩ := h1
            obtain ⟨-, hcl', hat⟩ := World.cells?_some hc
            obtain ⟨e, t, rfl, hT⟩ := ih n' (by omega) cs' _ ht
            refine ⟨(e, t), fun j v hj => ?_, hT⟩
            have hj6 : j < 6 := by have := (List.getElem?_eq_some_iff.1 hj).1; simpa [El.cells] using this
            rw [← Addr.add_add, hat j hj6]
            exact hj
          refine ⟨⟨k, s, d, y, ka, kn, kc, some a, len, cap⟩, .mk k s d y ss (Z.map Prod.snd), rfl, TreeAt.of rfl rfl rfl rfl hss (KidsAt.of (by simp [T.kids, h1]) hl hm fun i t hi => ?_)⟩
          simp only [T.kids, List.getElem?_map, Option.map_eq_some_iff] at hi
          obtain ⟨z, hz, rfl⟩ := hi
          obtain ⟨hc, hT⟩ := h2 i z hz
          have h0 : a = ⟨a.block, a.off, none⟩ := by
            obtain ⟨z0, hz0⟩ := some_of_lt h1 (show 0 < len by have := (List.getElem?_eq_some_iff.1 hz).1; omega)
            have := (h2 0 z0 hz0).1 0 _ rfl
            exact spot_none (by simpa [Addr.add] using this)
          rw [h0] at hc
          simp only [Addr.add_lit] at hc
          have ha : ∀ j, a.off + (i * 6 + j) = a.off + i * 6 + j := fun j => by omega
          simp only [ha] at hc
          exact ⟨a.block, a.off, z.1, by rw [← h0], trivial, ⟨hc 0 _ rfl, hc 1 _ rfl, hc 2 _ rfl, hc 3 _ rfl, hc 4 _ rfl, hc 5 _ rfl⟩, hT⟩
theorem cells_set : Tryz.prog.cellsOf 57 = 7 := by kernel_rfl
set_option maxRecDepth 20000 in
theorem set_of {fuel : Nat} {cs : List Value} {x : DataW H × List MemPlace} (h : DataW.trod enc Tryz.prog w base spare held fuel 57 cs = some x) :
    ∃ (s : ByteArray) (e : El) (t : T), cs = .string s :: e.cells ∧ TreeAt (fun _ => True) w e t := by
  obtain ⟨xs, n, rfl, -, hcl, hxl, hf⟩ := DataW.trod_struct Tryz.underlying57 h
  rw [cells_set] at hcl
  match cs, hcl with
  | c0 :: r, hcl =>
    match xs, hxl with
    | [x0, x1], _ =>
      have f0 : DataW.trod enc Tryz.prog w base spare held n 9 (List.take (Tryz.prog.cellsOf 9) (List.drop 0 (c0 :: r))) = some x0 := hf 0 _ rfl
      rw [cells_string] at f0
      have f0 : DataW.trod enc Tryz.prog w base spare held n 9 [c0] = some x0 := f0
      have f1 : DataW.trod enc Tryz.prog w base spare held n 26 (List.take (Tryz.prog.cellsOf 26) (List.drop 1 (c0 :: r))) = some x1 := hf 1 _ rfl
      rw [cells_tree, List.drop_succ_cons, List.drop_zero, List.take_of_length_le (by simp at hcl; omega)] at f1
      obtain ⟨s, e0, -, -⟩ := DataW.trod_string Tryz.underlying9 f0
      obtain ⟨e, t, rfl, hT⟩ := tree_of n _ _ f1
      cases e0
      exact ⟨s, e, t, rfl, hT⟩
theorem sets_of {fuel : Nat} {cs : List Value} {x : DataW H × List MemPlace} (h : DataW.trod enc Tryz.prog w base spare held fuel 27 cs = some x) :
    ∃ a n c ps, cs = [.slice a n c] ∧ PairsAt (fun _ => True) w a n c ps := by
  rcases DataW.trod_slice Tryz.underlying27 h with ⟨rfl, -⟩ | ⟨a, len, cap, elems, rest, n', -, rfl, -, -, hl, hm, hlen, hel, -, -⟩
  · exact ⟨none, 0, 0, [], rfl, rfl, Nat.le_refl _, by simp [maxLen], fun _ _ h => by simp at h⟩
  · rw [cells_set] at hel
    obtain ⟨Z, h1, h2⟩ := choose_list (fun i (z : ByteArray × El × T) => w.cell? (a.add (i * 7)) = some (.string z.1) ∧ (∀ j v, z.2.1.cells[j]? = some v → w.cell? (a.add (i * 7 + 1 + j)) = some v) ∧ TreeAt (fun _ => True) w z.2.1 z.2.2) len fun i hi => by
      have h1 := hel i hi
      obtain ⟨q, hq⟩ := some_of_lt hlen hi
      rw [hq, Option.bind_eq_some_iff] at h1
      obtain ⟨cs', hc, ht⟩ := h1
      obtain ⟨-, -, hat⟩ := World.cells?_some hc
      obtain ⟨s, e, t, rfl, hT⟩ := set_of ht
      refine ⟨(s, e, t), ?_, fun j v hj => ?_, hT⟩
      · have := hat 0 (by omega)
        simpa [Addr.add_add] using this
      · have hj6 : j < 6 := by have := (List.getElem?_eq_some_iff.1 hj).1; simpa [El.cells] using this
        have := hat (1 + j) (by omega)
        rw [Addr.add_add] at this
        rw [show i * 7 + 1 + j = i * 7 + (1 + j) by omega, this, show 1 + j = j + 1 by omega]
        simpa using hj
    refine ⟨some a, len, cap, Z.map fun z => (z.1, z.2.2), rfl, by simp [h1], hl, hm, fun i p hi => ?_⟩
    simp only [List.getElem?_map, Option.map_eq_some_iff] at hi
    obtain ⟨z, hz, rfl⟩ := hi
    obtain ⟨hs, hc, hT⟩ := h2 i z hz
    have h0 : a = ⟨a.block, a.off, none⟩ := by
      obtain ⟨z0, hz0⟩ := some_of_lt h1 (show 0 < len by have := (List.getElem?_eq_some_iff.1 hz).1; omega)
      have := (h2 0 z0 hz0).1
      exact spot_none (by simpa [Addr.add] using this)
    rw [h0] at hc hs
    simp only [Addr.add_lit] at hc hs
    have ha : ∀ j, a.off + (i * 7 + 1 + j) = a.off + i * 7 + 1 + j := fun j => by omega
    simp only [ha] at hc
    exact ⟨a.block, a.off, z.2.1, by rw [← h0], trivial, ⟨hs, hc 0 _ rfl, hc 1 _ rfl, hc 2 _ rfl, hc 3 _ rfl, hc 4 _ rfl, hc 5 _ rfl⟩, hT⟩
end
end Go.Proofs.YtfngaoicoecncaaGreatDoor

namespace Go.Proofs.YtfngaoicoecncaaGreatDoor
open Go.ChangeShapes Go.WideShapes Go.ChangeAt Go.RowKit

theorem bulk_part {H : Type} {d : DataW H} {l : List (DataW H)} (h : d ∈ l) : Rows.uptoBulk d ≤ Rows.uptoBulkAll l := by
  induction l with
  | nil => cases h
  | cons x r ih =>
    simp only [Rows.uptoBulkAll]
    cases List.mem_cons.1 h with
    | inl e => subst e; omega
    | inr e => have := ih e; omega
section
variable {H : Type} {enc : TypeId × Value → H} {w : World} {base : Nat} {spare : Nat → Bool} {held : Bool}
set_option maxRecDepth 20000 in
theorem text_bulk {fuel : Nat} {e : El} {x : DataW H × List MemPlace} (h : DataW.trod enc Tryz.prog w base spare held fuel 26 e.cells = some x) : e.x.size ≤ Rows.uptoBulk x.1 := by
  obtain ⟨xs, n, rfl, rfl, hcl, hxl, hf⟩ := DataW.trod_struct Tryz.underlying26 h
  match xs, hxl with
  | [x0, x1, x2, x3, x4, x5], _ =>
    have f1 : DataW.trod enc Tryz.prog w base spare held n 9 (List.take (Tryz.prog.cellsOf 9) (List.drop 1 e.cells)) = some x1 := hf 1 _ rfl
    rw [cells_string] at f1
    have f1 : DataW.trod enc Tryz.prog w base spare held n 9 [.string e.x] = some x1 := f1
    obtain ⟨s, e1, e2, -⟩ := DataW.trod_string Tryz.underlying9 f1
    simp only [List.cons.injEq, Value.string.injEq, and_true] at e1
    subst e1
    subst e2
    have h1 : Rows.uptoBulk (DataW.lit (H := H) (.string e.x.data.toList)) = e.x.data.toList.length + 1 := by simp [Rows.uptoBulk]
    have h2 := Lib.size_eq e.x
    simp only [Rows.uptoBulk, List.map_cons, List.map_nil, Rows.uptoBulkAll] at h1 ⊢
    omega
set_option maxRecDepth 20000 in
theorem set_bulk {fuel : Nat} {s : ByteArray} {e : El} {x : DataW H × List MemPlace} (h : DataW.trod enc Tryz.prog w base spare held fuel 57 (.string s :: e.cells) = some x) : e.x.size ≤ Rows.uptoBulk x.1 := by
  obtain ⟨xs, n, rfl, rfl, hcl, hxl, hf⟩ := DataW.trod_struct Tryz.underlying57 h
  match xs, hxl with
  | [x0, x1], _ =>
    have f1 : DataW.trod enc Tryz.prog w base spare held n 26 (List.take (Tryz.prog.cellsOf 26) (List.drop 1 (.string s :: e.cells))) = some x1 := hf 1 _ rfl
    rw [cells_tree, List.drop_succ_cons, List.drop_zero, List.take_of_length_le (by simp [El.cells])] at f1
    have := text_bulk f1
    simp only [Rows.uptoBulk, List.map_cons, List.map_nil, Rows.uptoBulkAll]
    omega
theorem sets_bulk {S : Nat → Prop} {fuel : Nat} {a : Option Addr} {n c : Nat} {ps : List (ByteArray × T)} {x : DataW H × List MemPlace} (h : DataW.trod enc Tryz.prog w base spare held fuel 27 [.slice a n c] = some x) (hP : PairsAt S w a n c ps) : ∀ p ∈ ps, p.2.text.size ≤ Rows.uptoBulk x.1 := by
  intro p hp
  obtain ⟨i, hi⟩ := List.getElem?_of_mem hp
  have hlt : i < n := by rw [← hP.1]; exact (List.getElem?_eq_some_iff.1 hi).1
  obtain ⟨b, off, e, rfl, -, hc, hT⟩ := hP.2.2.2 i p hi
  rcases DataW.trod_slice Tryz.underlying27 h with ⟨h0, -⟩ | ⟨a, len, cap, elems, rest, n', -, h0, rfl, -, hl, hm, hlen, hel, -, -⟩
  · simp at h0
  · simp only [List.cons.injEq, Value.slice.injEq, Option.some.injEq, and_true] at h0
    obtain ⟨rfl, rfl, rfl⟩ := h0
    rw [cells_set] at hel
    have h1 := hel i hlt
    obtain ⟨q, hq⟩ := some_of_lt hlen hlt
    rw [hq, Option.bind_eq_some_iff] at h1
    obtain ⟨cs', hc', ht⟩ := h1
    obtain ⟨-, hl7, hat⟩ := World.cells?_some hc'
    obtain ⟨s', e', t', rfl, -⟩ := set_of ht
    have hx : e'.x = e.x := by
      have h2 := hat 2 (by omega)
      rw [Addr.add_add, Addr.add_lit, show off + (i * 7 + 2) = off + i * 7 + 1 + 1 by omega, hc.2.2.1] at h2
      simp [El.cells] at h2
      exact h2.symm
    have h3 := set_bulk ht
    have h4 : p.2.text = e.x := hT.parts.2.1.symm
    rw [h4, ← hx]
    refine Nat.le_trans h3 ?_
    have h5 : q.1 ∈ List.map (fun x => x.fst) elems := List.mem_map.2 ⟨q, List.mem_of_getElem? hq, rfl⟩
    have h6 := bulk_part h5
    simp only [Rows.uptoBulk]
    omega
end
end Go.Proofs.YtfngaoicoecncaaGreatDoor

namespace Go.Proofs.YtfngaoicoecncaaGreatDoor
open Go.ChangeShapes Go.WideShapes Go.ChangeAt Go.RowKit

section
variable {H : Type} {enc : TypeId × Value → H} {w : World} {base : Nat} {spare : Nat → Bool} {held : Bool}
set_option maxRecDepth 20000 in
theorem tree_val {fuel : Nat} {r : Reach} {b0 : Nat} {v : Value} {x : DataW H × List MemPlace} {W : World} (hv : Value.okWide Tryz.prog W r b0 26 v) (h : DataW.trod enc Tryz.prog w base spare held fuel 26 v.cells.toList = some x) :
    ∃ (e : El) (t : T), v = e.val ∧ TreeAt (fun _ => True) w e t := by
  obtain ⟨cs, rfl, -⟩ := okWide_struct Tryz.underlying26 hv
  obtain ⟨e, t, he, hT⟩ := tree_of fuel _ _ h
  refine ⟨e, t, ?_, hT⟩
  have he : cs.toList = e.cells := he
  have : cs = e.cells.toArray := by rw [← he]
  subst this
  rfl
set_option maxRecDepth 20000 in
theorem kids_of {fuel : Nat} {cs : List Value} {x : DataW H × List MemPlace} (h : DataW.trod enc Tryz.prog w base spare held fuel 24 cs = some x) :
    ∃ a n c ts, cs = [.slice a n c] ∧ KidsAt (fun _ => True) w a n c ts := by
  rcases DataW.trod_slice Tryz.underlying24 h with ⟨rfl, -⟩ | ⟨a, len, cap, elems, rest, n', -, rfl, -, -, hl, hm, hlen, hel, -, -⟩
  · exact ⟨none, 0, 0, [], rfl, KidsAt.of rfl (Nat.le_refl _) (by simp [maxLen]) fun _ _ h => by simp at h⟩
  · rw [cells_tree] at hel
    obtain ⟨Z, h1, h2⟩ := choose_list (fun i (z : El × T) => (∀ j v, z.1.cells[j]? = some v → w.cell? (a.add (i * 6 + j)) = some v) ∧ TreeAt (fun _ => True) w z.1 z.2) len fun i hi => by
      have h1 := hel i hi
      obtain ⟨q, hq⟩ := some_of_lt hlen hi
      rw [hq, Option.bind_eq_some_iff] at h1
      obtain ⟨cs', hc, ht⟩ := h1
      obtain ⟨-, hcl', hat⟩ := World.cells?_some hc
      obtain ⟨e, t, rfl, hT⟩ := tree_of n' cs' _ ht
      refine ⟨(e, t), fun j v hj => ?_, hT⟩
      have hj6 : j < 6 := by have := (List.getElem?_eq_some_iff.1 hj).1; simpa [El.cells] using this
      rw [← Addr.add_add, hat j hj6]
      exact hj
    refine ⟨some a, len, cap, Z.map Prod.snd, rfl, KidsAt.of (by simp [h1]) hl hm fun i t hi => ?_⟩
    simp only [List.getElem?_map, Option.map_eq_some_iff] at hi
    obtain ⟨z, hz, rfl⟩ := hi
    obtain ⟨hc, hT⟩ := h2 i z hz
    have h0 : a = ⟨a.block, a.off, none⟩ := by
      obtain ⟨z0, hz0⟩ := some_of_lt h1 (show 0 < len by have := (List.getElem?_eq_some_iff.1 hz).1; omega)
      have := (h2 0 z0 hz0).1 0 _ rfl
      exact spot_none (by simpa [Addr.add] using this)
    rw [h0] at hc
    simp only [Addr.add_lit] at hc
    have ha : ∀ j, a.off + (i * 6 + j) = a.off + i * 6 + j := fun j => by omega
    simp only [ha] at hc
    exact ⟨a.block, a.off, z.1, by rw [← h0], trivial, ⟨hc 0 _ rfl, hc 1 _ rfl, hc 2 _ rfl, hc 3 _ rfl, hc 4 _ rfl, hc 5 _ rfl⟩, hT⟩
end
end Go.Proofs.YtfngaoicoecncaaGreatDoor

namespace Go.Proofs.YtfngaoicoecncaaGreatDoor
open Go.ChangeShapes Go.WideShapes Go.ChangeAt Go.RowKit

section
variable {H : Type} {enc : TypeId × Value → H} {w : World} {base : Nat} {spare : Nat → Bool} {held : Bool}
theorem bulk_pos (d : DataW H) : 1 ≤ Rows.uptoBulk d := by
  cases d with
  | lit l => cases l <;> simp [Rows.uptoBulk]
  | _ => simp [Rows.uptoBulk]
theorem bulk_len : ∀ l : List (DataW H), l.length ≤ Rows.uptoBulkAll l
  | [] => by simp
  | d :: r => by
    have h1 := bulk_len r
    have h2 := bulk_pos d
    simp only [List.length_cons, Rows.uptoBulkAll]
    omega
theorem strs_small {fuel : Nat} {cs : List Value} {x : DataW H × List MemPlace} (h : DataW.trod enc Tryz.prog w base spare held fuel 23 cs = some x) :
    ∃ a n c ss, cs = [.slice a n c] ∧ StrsAt (fun _ => True) w a n c ss ∧ ss.length ≤ Rows.uptoBulk x.1 ∧ ∀ s ∈ ss, s.size ≤ Rows.uptoBulk x.1 := by
  rcases DataW.trod_slice Tryz.underlying23 h with ⟨rfl, -⟩ | ⟨a, len, cap, elems, rest, n, -, rfl, hxx, -, hl, hm, hlen, hel, -, -⟩
  · exact ⟨none, 0, 0, [], rfl, ⟨rfl, Nat.le_refl _, by simp [maxLen], fun _ _ h => by simp at h⟩, Nat.zero_le _, fun s hs => by cases hs⟩
  · rw [cells_string] at hel
    obtain ⟨ss, h1, h2⟩ := choose_list (fun i s => w.cell? (a.add i) = some (.string s) ∧ s.size ≤ Rows.uptoBulk x.1) len fun i hi => by
      have h1 := hel i hi
      obtain ⟨y, hy⟩ := some_of_lt hlen hi
      rw [hy, Option.bind_eq_some_iff] at h1
      obtain ⟨cs', hc, ht⟩ := h1
      obtain ⟨-, -, hat⟩ := World.cells?_some hc
      obtain ⟨s, rfl, hyy, -⟩ := DataW.trod_string Tryz.underlying9 ht
      have := hat 0 (by omega)
      refine ⟨s, by simpa [Addr.add_add] using this, ?_⟩
      have h5 : y.1 ∈ List.map (fun x => x.fst) elems := List.mem_map.2 ⟨y, List.mem_of_getElem? hy, rfl⟩
      have h6 := bulk_part h5
      have h7 : Rows.uptoBulk y.1 = s.data.toList.length + 1 := by rw [hyy]; simp [Rows.uptoBulk]
      have h8 := Lib.size_eq s
      subst hxx
      simp only [Rows.uptoBulk]
      omega
    refine ⟨some a, len, cap, ss, rfl, ⟨h1, hl, hm, fun i s hi => ?_⟩, ?_, fun s hs => ?_⟩
    rotate_left
    · have h5 := bulk_len (List.map (fun x => x.fst) elems)
      rw [List.length_map] at h5
      subst hxx
      simp only [Rows.uptoBulk]
      omega
    · obtain ⟨i, hi⟩ := List.getElem?_of_mem hs
      exact (h2 i s hi).2
    have hc := (h2 i s hi).1
    have h0 : a = ⟨a.block, a.off, none⟩ := by
      obtain ⟨s0, hs0⟩ := some_of_lt h1 (show 0 < len by have := (List.getElem?_eq_some_iff.1 hi).1; omega)
      exact spot_none (by simpa [Addr.add] using (h2 0 s0 hs0).1)
    rw [h0, Addr.add_lit] at hc
    exact ⟨a.block, a.off, by rw [← h0], trivial, hc⟩
set_option maxRecDepth 20000 in
theorem tree_small : ∀ (fuel : Nat) (cs : List Value) (x : DataW H × List MemPlace), DataW.trod enc Tryz.prog w base spare held fuel 26 cs = some x → ∃ (e : El) (t : T), cs = e.cells ∧ TreeAt (fun _ => True) w e t ∧ SmallT (Rows.uptoBulk x.1) t := by
  intro fuel
  induction fuel using Nat.strongRecOn with
  | ind fuel ih =>
    intro cs x h
    obtain ⟨xs, n, rfl, rfl, hcl, hxl, hf⟩ := DataW.trod_struct Tryz.underlying26 h
    rw [cells_tree] at hcl
    match cs, hcl with
    | [c0, c1, c2, c3, c4, c5], _ =>
      match xs, hxl with
      | [x0, x1, x2, x3, x4, x5], _ =>
        have f0 : DataW.trod enc Tryz.prog w base spare held n 3 (List.take (Tryz.prog.cellsOf 3) (List.drop 0 [c0, c1, c2, c3, c4, c5])) = some x0 := hf 0 _ rfl
        rw [cells_int] at f0
        have f0 : DataW.trod enc Tryz.prog w base spare held n 3 [c0] = some x0 := f0
        have f1 : DataW.trod enc Tryz.prog w base spare held n 9 (List.take (Tryz.prog.cellsOf 9) (List.drop 1 [c0, c1, c2, c3, c4, c5])) = some x1 := hf 1 _ rfl
        rw [cells_string] at f1
        have f1 : DataW.trod enc Tryz.prog w base spare held n 9 [c1] = some x1 := f1
        have f2 : DataW.trod enc Tryz.prog w base spare held n 22 (List.take (Tryz.prog.cellsOf 22) (List.drop 2 [c0, c1, c2, c3, c4, c5])) = some x2 := hf 2 _ rfl
        rw [cells_float] at f2
        have f2 : DataW.trod enc Tryz.prog w base spare held n 22 [c2] = some x2 := f2
        have f3 : DataW.trod enc Tryz.prog w base spare held n 4 (List.take (Tryz.prog.cellsOf 4) (List.drop 3 [c0, c1, c2, c3, c4, c5])) = some x3 := hf 3 _ rfl
        rw [cells_bool] at f3
        have f3 : DataW.trod enc Tryz.prog w base spare held n 4 [c3] = some x3 := f3
        have f4 : DataW.trod enc Tryz.prog w base spare held n 23 (List.take (Tryz.prog.cellsOf 23) (List.drop 4 [c0, c1, c2, c3, c4, c5])) = some x4 := hf 4 _ rfl
        rw [cells_strings] at f4
        have f4 : DataW.trod enc Tryz.prog w base spare held n 23 [c4] = some x4 := f4
        have f5 : DataW.trod enc Tryz.prog w base spare held n 24 (List.take (Tryz.prog.cellsOf 24) (List.drop 5 [c0, c1, c2, c3, c4, c5])) = some x5 := hf 5 _ rfl
        rw [cells_trees] at f5
        have f5 : DataW.trod enc Tryz.prog w base spare held n 24 [c5] = some x5 := f5
        obtain ⟨k, e0, -, -⟩ := DataW.trod_int Tryz.underlying3 f0
        obtain ⟨s, e1, hx1, -⟩ := DataW.trod_string Tryz.underlying9 f1
        obtain ⟨d, e2⟩ := trod_float Tryz.underlying22 f2
        obtain ⟨y, e3, -⟩ := DataW.trod_bool Tryz.underlying4 f3
        obtain ⟨ka, kn, kc, ss, e4, hss, hsl, hsz⟩ := strs_small f4
        simp only [List.cons.injEq, and_true] at e0 e1 e2 e3 e4
        subst e0 e1 e2 e3 e4
        have hs1 : Rows.uptoBulk x1.1 = s.data.toList.length + 1 := by rw [hx1]; simp [Rows.uptoBulk]
        have hs2 := Lib.size_eq s
        have hB : Rows.uptoBulk (DataW.agg (List.map (fun x => x.fst) [x0, x1, x2, x3, x4, x5])) = Rows.uptoBulk x0.1 + (Rows.uptoBulk x1.1 + (Rows.uptoBulk x2.1 + (Rows.uptoBulk x3.1 + (Rows.uptoBulk x4.1 + (Rows.uptoBulk x5.1 + 0))))) + 1 := by simp only [Rows.uptoBulk, List.map_cons, List.map_nil, Rows.uptoBulkAll]
        have hSm : ∀ kids : List T, kids.length ≤ Rows.uptoBulk x5.1 → SmallTs (Rows.uptoBulk x5.1) kids → SmallT (Rows.uptoBulk (DataW.agg (List.map (fun x => x.fst) [x0, x1, x2, x3, x4, x5]))) (.mk k s d y ss kids) := fun kids hk1 hk2 => by
          rw [SmallT, hB]
          exact ⟨by omega, by omega, fun z hz => by have := hsz z hz; omega, by omega, SmallTs.mono (by omega) hk2⟩
        clear hB hs1 hsl hsz
        rcases DataW.trod_slice Tryz.underlying24 f5 with ⟨e5, -⟩ | ⟨a, len, cap, elems, rest, n', rfl, e5, hxx, -, hl, hm, hlen, hel, -, -⟩
        · cases e5
          exact ⟨⟨k, s, d, y, ka, kn, kc, none, 0, 0⟩, .mk k s d y ss [], rfl, TreeAt.of rfl rfl rfl rfl hss (KidsAt.of rfl (Nat.le_refl _) (by simp [maxLen]) fun _ _ h => by simp [T.kids] at h), hSm [] (Nat.zero_le _) (by rw [SmallTs]; trivial)⟩
        · cases e5
          rw [cells_tree] at hel
          obtain ⟨Z, h1, h2⟩ := choose_list (fun i (z : El × T) => (∀ j v, z.1.cells[j]? = some v → w.cell? (a.add (i * 6 + j)) = some v) ∧ TreeAt (fun _ => True) w z.1 z.2 ∧ SmallT (Rows.uptoBulk x5.1) z.2) len fun i hi => by
            have h1 := hel i hi
            obtain ⟨q, hq⟩ := some_of_lt hlen hi
            rw [hq, Option.bind_eq_some_iff] at h1
            obtain ⟨cs', hc, ht⟩ := h1
            obtain ⟨-, hcl', hat⟩ := World.cells?_some hc
            obtain ⟨e, t, rfl, hT, hSt⟩ := ih n' (by omega) cs' _ ht
            have h5 : q.1 ∈ List.map (fun x => x.fst) elems := List.mem_map.2 ⟨q, List.mem_of_getElem? hq, rfl⟩
            have h6 := bulk_part h5
            refine ⟨(e, t), fun j v hj => ?_, hT, SmallT.mono (by rw [hxx]; simp only [Rows.uptoBulk]; omega) hSt⟩
            have hj6 : j < 6 := by have := (List.getElem?_eq_some_iff.1 hj).1; simpa [El.cells] using this
            rw [← Addr.add_add, hat j hj6]
            exact hj
          have hZl : (Z.map Prod.snd).length ≤ Rows.uptoBulk x5.1 := by
            have h5 := bulk_len (List.map (fun x => x.fst) elems)
            rw [List.length_map] at h5
            rw [List.length_map, h1, hxx]
            simp only [Rows.uptoBulk]
            omega
          have hZs : SmallTs (Rows.uptoBulk x5.1) (Z.map Prod.snd) := (smallTs_iff _ _).2 fun t ht => by
            obtain ⟨z, hz, rfl⟩ := List.mem_map.1 ht
            obtain ⟨i, hi⟩ := List.getElem?_of_mem hz
            exact (h2 i z hi).2.2
          suffices hKA : KidsAt (fun _ => True) w (some a) len cap (Z.map Prod.snd) from ⟨⟨k, s, d, y, ka, kn, kc, some a, len, cap⟩, .mk k s d y ss (Z.map Prod.snd), rfl, TreeAt.of rfl rfl rfl rfl hss hKA, hSm _ hZl hZs⟩
          refine KidsAt.of (by simp [h1]) hl hm fun i t hi => ?_
          simp only [List.getElem?_map, Option.map_eq_some_iff] at hi
          obtain ⟨z, hz, rfl⟩ := hi
          obtain ⟨hc, hT, -⟩ := h2 i z hz
          have h0 : a = ⟨a.block, a.off, none⟩ := by
            obtain ⟨z0, hz0⟩ := some_of_lt h1 (show 0 < len by have := (List.getElem?_eq_some_iff.1 hz).1; omega)
            have := (h2 0 z0 hz0).1 0 _ rfl
            exact spot_none (by simpa [Addr.add] using this)
          rw [h0] at hc
          simp only [Addr.add_lit] at hc
          have ha : ∀ j, a.off + (i * 6 + j) = a.off + i * 6 + j := fun j => by omega
          simp only [ha] at hc
          exact ⟨a.block, a.off, z.1, by rw [← h0], trivial, ⟨hc 0 _ rfl, hc 1 _ rfl, hc 2 _ rfl, hc 3 _ rfl, hc 4 _ rfl, hc 5 _ rfl⟩, hT⟩
set_option maxRecDepth 20000 in
theorem tree_valS {fuel : Nat} {r : Reach} {b0 : Nat} {v : Value} {x : DataW H × List MemPlace} {W : World} (hv : Value.okWide Tryz.prog W r b0 26 v) (h : DataW.trod enc Tryz.prog w base spare held fuel 26 v.cells.toList = some x) :
    ∃ (e : El) (t : T), v = e.val ∧ TreeAt (fun _ => True) w e t ∧ SmallT (Rows.uptoBulk x.1) t := by
  obtain ⟨cs, rfl, -⟩ := okWide_struct Tryz.underlying26 hv
  obtain ⟨e, t, he, hT, hSt⟩ := tree_small fuel _ _ h
  refine ⟨e, t, ?_, hT, hSt⟩
  have he : cs.toList = e.cells := he
  have : cs = e.cells.toArray := by rw [← he]
  subst this
  rfl
set_option maxRecDepth 20000 in
theorem kids_small {fuel : Nat} {cs : List Value} {x : DataW H × List MemPlace} (h : DataW.trod enc Tryz.prog w base spare held fuel 24 cs = some x) :
    ∃ a n c ts, cs = [.slice a n c] ∧ KidsAt (fun _ => True) w a n c ts ∧ ts.length ≤ Rows.uptoBulk x.1 ∧ SmallTs (Rows.uptoBulk x.1) ts := by
  rcases DataW.trod_slice Tryz.underlying24 h with ⟨rfl, -⟩ | ⟨a, len, cap, elems, rest, n', -, rfl, hxx, -, hl, hm, hlen, hel, -, -⟩
  · exact ⟨none, 0, 0, [], rfl, KidsAt.of rfl (Nat.le_refl _) (by simp [maxLen]) fun _ _ h => by simp at h, Nat.zero_le _, by rw [SmallTs]; trivial⟩
  · rw [cells_tree] at hel
    obtain ⟨Z, h1, h2⟩ := choose_list (fun i (z : El × T) => (∀ j v, z.1.cells[j]? = some v → w.cell? (a.add (i * 6 + j)) = some v) ∧ TreeAt (fun _ => True) w z.1 z.2 ∧ SmallT (Rows.uptoBulk x.1) z.2) len fun i hi => by
      have h1 := hel i hi
      obtain ⟨q, hq⟩ := some_of_lt hlen hi
      rw [hq, Option.bind_eq_some_iff] at h1
      obtain ⟨cs', hc, ht⟩ := h1
      obtain ⟨-, hcl', hat⟩ := World.cells?_some hc
      obtain ⟨e, t, rfl, hT, hSt⟩ := tree_small n' cs' _ ht
      have h5 : q.1 ∈ List.map (fun x => x.fst) elems := List.mem_map.2 ⟨q, List.mem_of_getElem? hq, rfl⟩
      have h6 := bulk_part h5
      refine ⟨(e, t), fun j v hj => ?_, hT, SmallT.mono (by rw [hxx]; simp only [Rows.uptoBulk]; omega) hSt⟩
      have hj6 : j < 6 := by have := (List.getElem?_eq_some_iff.1 hj).1; simpa [El.cells] using this
      rw [← Addr.add_add, hat j hj6]
      exact hj
    have hZl : (Z.map Prod.snd).length ≤ Rows.uptoBulk x.1 := by
      have h5 := bulk_len (List.map (fun x => x.fst) elems)
      rw [List.length_map] at h5
      rw [List.length_map, h1, hxx]
      simp only [Rows.uptoBulk]
      omega
    have hZs : SmallTs (Rows.uptoBulk x.1) (Z.map Prod.snd) := (smallTs_iff _ _).2 fun t ht => by
      obtain ⟨z, hz, rfl⟩ := List.mem_map.1 ht
      obtain ⟨i, hi⟩ := List.getElem?_of_mem hz
      exact (h2 i z hi).2.2
    suffices hKA : KidsAt (fun _ => True) w (some a) len cap (Z.map Prod.snd) from ⟨some a, len, cap, Z.map Prod.snd, rfl, hKA, hZl, hZs⟩
    refine KidsAt.of (by simp [h1]) hl hm fun i t hi => ?_
    simp only [List.getElem?_map, Option.map_eq_some_iff] at hi
    obtain ⟨z, hz, rfl⟩ := hi
    obtain ⟨hc, hT, -⟩ := h2 i z hz
    have h0 : a = ⟨a.block, a.off, none⟩ := by
      obtain ⟨z0, hz0⟩ := some_of_lt h1 (show 0 < len by have := (List.getElem?_eq_some_iff.1 hz).1; omega)
      have := (h2 0 z0 hz0).1 0 _ rfl
      exact spot_none (by simpa [Addr.add] using this)
    rw [h0] at hc
    simp only [Addr.add_lit] at hc
    have ha : ∀ j, a.off + (i * 6 + j) = a.off + i * 6 + j := fun j => by omega
    simp only [ha] at hc
    exact ⟨a.block, a.off, z.1, by rw [← h0], trivial, ⟨hc 0 _ rfl, hc 1 _ rfl, hc 2 _ rfl, hc 3 _ rfl, hc 4 _ rfl, hc 5 _ rfl⟩, hT⟩
end
end Go.Proofs.YtfngaoicoecncaaGreatDoor

