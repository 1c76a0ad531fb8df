/-
  The last value of a setting; lists of names with trees that a call makes.
-/
import Derived.Test.YtfngaoicoecncaaGreatDoorP1
import Derived.Laws.OwnMore
namespace Go.Proofs.YtfngaoicoecncaaGreatDoor
open Go.RowKit

theorem lastOf_none {α : Type} {ps : List (ByteArray × α)} {k : ByteArray} (h : ∀ (i : Nat) (p : ByteArray × α), ps[i]? = some p → p.1 ≠ k) : lastOf ps k = none := by
  cases hl : lastOf ps k with
  | none => rfl
  | some v =>
    obtain ⟨i, hi⟩ := List.getElem?_of_mem (lastOf_mem hl)
    exact absurd rfl (h i _ hi)
theorem lastOf_at {α : Type} : ∀ {ps : List (ByteArray × α)} {k : ByteArray} {i : Nat} {p : ByteArray × α}, ps[i]? = some p → p.1 = k → (∀ (q : Nat) (u : ByteArray × α), i < q → ps[q]? = some u → u.1 ≠ k) → lastOf ps k = some p.2
  | [], _, _, _, h, _, _ => by simp at h
  | p0 :: r, k, 0, p, h, hk, hq => by
    simp at h
    subst h
    rw [lastOf_cons, lastOf_none fun i u hu => hq (i + 1) u (by omega) (by simpa using hu)]
    simp [seq_iff.2 hk]
  | p0 :: r, k, i + 1, p, h, hk, hq => by
    rw [lastOf_cons, lastOf_at (ps := r) (i := i) (by simpa using h) hk fun q u h1 h2 => hq (q + 1) u (by omega) (by simpa using h2)]
    rfl

set_option maxHeartbeats 1000000 in
theorem last_any {S : Nat → Prop} (a : Option Addr) (n c : Nat) (ps : List (ByteArray × T)) (name : ByteArray) (w : World) (h : PairsAt S w a n c ps) :
    Calls Tryz.prog 49 #[.slice a n c, .string name] w fun r w' => ∃ g : El, r = .returned (.tuple #[g.val, .bool (lastOf ps name).isSome]) ∧ TreeAt S w' g ((lastOf ps name).getD nullT) ∧ Ext w w' := by
  obtain ⟨hl, hn, hm, hc⟩ := h
  unfold maxLen at hm
  have HL := Lib.hid hl
  clear hl
  go_enter Tryz.func49, Tryz.ntmps49
  go_wp2_with fail
  go_loopw [6] (fun i wr => wr = w.alloc (.cells (El.arr El0) 26) ∧ ∃ j : Nat, j ≤ n ∧ i = .int .i64 ((j : Int) - 1) ∧ ∀ q u, j ≤ q → ps[q]? = some u → u.1 ≠ name) (fun i _ => (intOf i + 1).toNat)
  case atStart =>
    exact ⟨rfl, n, Nat.le_refl _, rfl, fun q u h1 h2 => by have := (List.getElem?_eq_some_iff.1 h2).1; have := HL.out; omega⟩
  case round =>
    obtain ⟨rfl, j, hj, rfl, hq⟩ := hrel
    have HQ := Lib.hid hq
    clear hq
    have hb : Box (w.alloc (.cells (El.arr El0) 26)) w.heap.size (El.arr El0) 26 := Box.at rfl _ _
    obtain ⟨o0, o1, o2, o3, o4, o5⟩ := hb.six
    have f0 := hb.free 0
    have f1 := hb.free 1
    have f2 := hb.free 2
    have f3 := hb.free 3
    have f4 := hb.free 4
    have f5 := hb.free 5
    by_cases h0 : 0 < j
    · obtain ⟨p, hp⟩ := some_of_lt HL.out (show j - 1 < n by omega)
      obtain ⟨b, off, g, rfl, hSb, hc7, hT⟩ := hc (j - 1) p hp
      have HP := Lib.hid hp
      clear hp
      have hx : Ext w (w.alloc (.cells (El.arr El0) 26)) := ext_alloc (ext_refl _) _
      obtain ⟨z0, z1, z2, z3, z4, z5, z6⟩ := Cells7.ext hx hc7
      have hj1 : (0 : Int) ≤ (j : Int) - 1 := by omega
      have hj2 : ((j : Int) - 1).toNat = j - 1 := by omega
      have hj3 : (j : Int) - 1 < (n : Int) := by omega
      cases he : p.1.toList == name.toList
      · go_wp2_with fail
        go_roundw
        case rel =>
          refine ⟨trivial, j - 1, by omega, by go_num, fun q u h1 h2 => ?_⟩
          by_cases hqj : j ≤ q
          · exact HQ.out q u hqj h2
          · have hqe : q = j - 1 := by omega
            subst hqe
            rw [HP.out] at h2
            cases h2
            exact seq_false.1 he
        case measure => simp [intOf]; omega
      · go_wp2_with fail
        have hlast : lastOf ps name = some p.2 := lastOf_at HP.out (seq_iff.1 he) fun q u h1 h2 => HQ.out q u (by omega) h2
        refine post_tree2 rfl rfl (Box.at rfl _ _) rfl ⟨g, ?_, ?_, ext_alloc (ext_refl _) _⟩
        · rw [hlast]; rfl
        · rw [hlast]
          exact hT.ext (ext_alloc (ext_refl _) _)
    · have hj0 : j = 0 := by omega
      subst hj0
      have hx : Ext w (w.alloc (.cells (El.arr El0) 26)) := ext_alloc (ext_refl _) _
      go_wp2_with fail
      have hlast : lastOf ps name = none := lastOf_none fun q u h2 => HQ.out q u (Nat.zero_le _) h2
      refine post_tree2 rfl rfl (Box.at rfl _ _) rfl ⟨El0, ?_, ?_, ext_alloc (ext_refl _) _⟩
      · rw [hlast]; rfl
      · rw [hlast]
        exact TreeAt.of rfl rfl rfl rfl (strs_none _) (kids_none _)

/-! ### lists of names with trees -/
def cells7 (p : ByteArray × El) : List Value := .string p.1 :: p.2.cells
def OwnPairs (w : World) (base : Nat) (v : Value) (es : List (ByteArray × El)) : Prop := w.ownsRow base 72 7 v es.length (es.flatMap cells7)
theorem OwnPairs.ext {w w' : World} {base : Nat} {v : Value} {es : List (ByteArray × El)} (h : OwnPairs w base v es) (x : Ext w w') : OwnPairs w' base v es := World.ownsRow.kept h (grown_of_ext x none) (by cases v.ownBlock <;> simp)
theorem OwnPairs.grown {w w' : World} {base : Nat} {v : Value} {es : List (ByteArray × El)} (h : OwnPairs w base v es) {r : Option Nat} (g : w.grownBy w' r) (hne : v.ownBlock = none ∨ v.ownBlock ≠ r) : OwnPairs w' base v es := World.ownsRow.kept h g hne
theorem OwnPairs.block {w : World} {base : Nat} {v : Value} {es : List (ByteArray × El)} (h : OwnPairs w base v es) {g : Nat} (hg : v.ownBlock = some g) : base ≤ g ∧ g < w.heap.size := World.ownsRow.lt h g hg
theorem flat7_get : ∀ (es : List (ByteArray × El)) (i : Nat) (e : ByteArray × El), es[i]? = some e → ∀ j v, (cells7 e)[j]? = some v → (es.flatMap cells7)[i * 7 + j]? = some v
  | [], _, _, h, _, _, _ => by cases h
  | e' :: r, 0, e, h, j, v, hv => by
    simp only [List.getElem?_cons_zero, Option.some.injEq] at h
    subst h
    simp only [List.flatMap_cons, Nat.zero_mul, Nat.zero_add]
    rw [List.getElem?_append_left (List.getElem?_eq_some_iff.1 hv).1]
    exact hv
  | e' :: r, i + 1, e, h, j, v, hv => by
    have hl : (cells7 e').length = 7 := rfl
    simp only [List.flatMap_cons]
    rw [List.getElem?_append_right (by omega), hl, show (i + 1) * 7 + j - 7 = i * 7 + j by omega]
    exact flat7_get r i e (by simpa using h) j v hv
theorem OwnPairs.pairs {S : Nat → Prop} {w : World} {base : Nat} {v : Value} {es : List (ByteArray × El)} {ps : List (ByteArray × T)} (h : OwnPairs w base v es) (hl : ps.length = es.length) (hS : ∀ b, v.ownBlock = some b → S b)
    (ht : ∀ (i : Nat) (e : ByteArray × El) (p : ByteArray × T), es[i]? = some e → ps[i]? = some p → e.1 = p.1 ∧ TreeAt S w e.2 p.2) : ∃ a c, v = .slice a ps.length c ∧ PairsAt S w a ps.length c ps := by
  obtain ⟨h1, h2⟩ := id h
  rcases h2 with ⟨rfl, h0⟩ | ⟨g, cap, cur, rfl, hg, hh, h3, h4, h5, h6⟩
  · refine ⟨none, 0, by rw [hl, h0], rfl, by omega, by simp [maxLen], fun i s hi => ?_⟩
    rw [List.length_eq_zero_iff.1 (hl.trans h0)] at hi
    cases hi
  · refine ⟨_, _, by rw [hl], rfl, by omega, h4, fun i p hi => ?_⟩
    obtain ⟨e, he⟩ := some_of_lt (l := es) rfl (show i < es.length by have := (List.getElem?_eq_some_iff.1 hi).1; omega)
    obtain ⟨e1, e2⟩ := ht i e p he hi
    have hc : ∀ j v, (cells7 e)[j]? = some v → w.cell? ⟨g, 0 + i * 7 + j, none⟩ = some v := fun j v hv => by
      have := World.ownsRow.cells h (g := g) rfl (i * 7 + j) v (flat7_get es i e he j v hv)
      rw [Addr.add_lit] at this
      rw [show 0 + i * 7 + j = 0 + (i * 7 + j) by omega]
      exact this
    exact ⟨g, 0, e.2, rfl, hS g rfl, ⟨by rw [← e1]; exact hc 0 _ rfl, hc 1 _ rfl, hc 2 _ rfl, hc 3 _ rfl, hc 4 _ rfl, hc 5 _ rfl, hc 6 _ rfl⟩, e2⟩
theorem info_pair : (Tryz.prog.info? 72).map (fun i => (i.zero, i.size, i.bytes)) = some (some (.agg #[.string ⟨#[]⟩, .int .i64 0, .string ⟨#[]⟩, .float .f64 0, .bool false, .slice none 0 0, .slice none 0 0]), 7, 104) := by kernel_rfl

/-- Names with trees that lie one behind the other. -/
theorem wp_append_pairs {o : Oper} {a : Act} {Q : Exit → Act → World → Prop} (w : World) {K : Act → World → Prop} (s x : Operand) (ho : o.op = .call { callee := .builtin .append, args := #[s, x], argTypes := #[76, 76] })
    (base : Nat) (v : Value) (es : List (ByteArray × El)) (hs : a.eval s = v) (hown : OwnPairs w base v es) (b off cap : Nat) (fs : List (ByteArray × El)) (hf : 0 < fs.length) (hx : a.eval x = .slice (some ⟨b, off, none⟩) fs.length cap)
    (hc : ∀ i f, fs[i]? = some f → Cells7 w b (off + i * 7) f.1 f.2)
    (hb : (es.length + fs.length) * 104 ≤ 140737488355328) (hbase : base ≤ w.heap.size)
    (h : ∀ g cap w', OwnPairs w' base (.slice (some ⟨g, 0, none⟩) (es.length + fs.length) cap) (es ++ fs) → w.grownBy w' v.ownBlock → Lies w v g → g < w'.heap.size → K (a.put o.dst (.slice (some ⟨g, 0, none⟩) (es.length + fs.length) cap)) w') : o.wp Tryz.prog a w K Q := by
  obtain ⟨i, hi, hz, hsz, hby⟩ := info_parts info_pair
  have hlen : ∀ l : List (ByteArray × El), (l.flatMap cells7).length = l.length * 7 := fun l => by
    induction l with
    | nil => rfl
    | cons e r ih => rw [List.flatMap_cons, List.length_append, ih]; simp [cells7, El.cells]; omega
  refine wp_append_lies w s x 76 ho base 72 i _ 7 104 Tryz.underlying76 hi hz hsz hby rfl (by omega) v es.length _ hs hown ⟨b, off, none⟩ fs.length cap (fs.flatMap cells7) hx (hlen fs) ?_ ?_ hf (by unfold maxLen; omega) hb hbase _ rfl ?_
  · intro j u hu
    rw [Addr.add_lit]
    have hj := (List.getElem?_eq_some_iff.1 hu).1
    rw [hlen] at hj
    obtain ⟨f, hf'⟩ := some_of_lt (l := fs) rfl (show j / 7 < fs.length by omega)
    obtain ⟨c0, c1, c2, c3, c4, c5, c6⟩ := hc (j / 7) f hf'
    have hjm : j % 7 < 7 := Nat.mod_lt _ (by omega)
    have he : j = j / 7 * 7 + j % 7 := by omega
    have key : ∀ r u, (cells7 f)[r]? = some u → w.cell? ⟨b, off + (j / 7 * 7 + r), none⟩ = some u := fun r u hr => by
      have hr7 : off + (j / 7 * 7 + r) = off + j / 7 * 7 + r := by omega
      rw [hr7]
      match r, hr with
      | 0, hr => simp [cells7, El.cells] at hr; subst hr; simpa using c0
      | 1, hr => simp [cells7, El.cells] at hr; subst hr; simpa using c1
      | 2, hr => simp [cells7, El.cells] at hr; subst hr; simpa using c2
      | 3, hr => simp [cells7, El.cells] at hr; subst hr; simpa using c3
      | 4, hr => simp [cells7, El.cells] at hr; subst hr; simpa using c4
      | 5, hr => simp [cells7, El.cells] at hr; subst hr; simpa using c5
      | 6, hr => simp [cells7, El.cells] at hr; subst hr; simpa using c6
      | r + 7, hr => simp [cells7, El.cells] at hr
    obtain ⟨u', hu'⟩ := some_of_lt (l := cells7 f) (n := 7) rfl hjm
    have := flat7_get fs (j / 7) f hf' (j % 7) u' hu'
    rw [← he, hu] at this
    cases this
    rw [he]
    have h2 := key (j % 7) u hu'
    have h3 : (j / 7 * 7 + j % 7) / 7 = j / 7 := by omega
    exact h2
  · intro u hu
    obtain ⟨f, _, hf2⟩ := List.mem_flatMap.1 hu
    simp [cells7, El.cells] at hf2
    rcases hf2 with rfl | rfl | rfl | rfl | rfl | rfl | rfl <;> rfl
  · intro g cap w' hown' hg hl hlt
    refine h g cap w' ?_ hg hl hlt
    unfold OwnPairs
    rw [List.length_append, List.flatMap_append]
    exact hown'
/-- Nothing more. -/
theorem append_none {base : Nat} {v : Value} {es : List (ByteArray × El)} {w : World} (hown : OwnPairs w base v es) (ty : TypeId) : (Builtin.append_ #[76, 76] ty #[v, .slice none 0 0]).run Tryz.prog w = .ok v w := by
  obtain ⟨i, hi, hz, hsz, hby⟩ := info_parts info_pair
  exact run_append_owned_none w base _ _ 72 i 7 Tryz.underlying76 hi v es.length _ hown
end Go.Proofs.YtfngaoicoecncaaGreatDoor
