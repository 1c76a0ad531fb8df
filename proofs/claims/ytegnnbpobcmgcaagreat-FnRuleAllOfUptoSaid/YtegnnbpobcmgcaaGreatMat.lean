/-
  Rules that match texts, one behind the other.
-/
import Derived.Test.YtegnnbpobcmgcaaGreatLin
namespace Go.Proofs.YtegnnbpobcmgcaaGreat
open Go.RowKit Go.Maps

def matchR (s : ByteArray) : Rl := .mk 0 s [] [] [] []
abbrev mRv (s : ByteArray) : Rv := ⟨0, s, none, 0, 0, none, 0, 0, none, 0, 0⟩
theorem matchR_at (S : Nat → Prop) (w : World) (s : ByteArray) : RuleAt S w (mRv s) (matchR s) := by
  unfold matchR
  simp only [RuleAt, RowR]
  exact ⟨trivial, trivial, ⟨rfl, Nat.le_refl _, Nat.zero_le _, fun i p hp => by simp at hp⟩, ⟨rfl, Nat.le_refl _, Nat.zero_le _⟩, trivial, ⟨rfl, rfl, Nat.le_refl _, Nat.zero_le _⟩, fun i nm hi => by simp at hi, trivial⟩
theorem matchR_small (N : Nat) (s : ByteArray) : SmallR N (matchR s) := by simp [matchR, SmallR, SmallRs]
theorem RowR.of2 {S : Nat → Prop} {w : World} {a : Option Addr} {st sh : Nat} : ∀ {l : List Rl} {i : Nat} (_ : ∀ j r, l[j]? = some r → ∃ b off e, a = some ⟨b, off, none⟩ ∧ S b ∧ RCells w b (off + (i + j) * st + sh) e ∧ RuleAt S w e r), RowR S w a st sh i l
  | [], _, _ => by simp [RowR]
  | r :: rest, i, h => by
    simp only [RowR]
    refine ⟨by simpa using h 0 r rfl, RowR.of2 fun j q hq => ?_⟩
    have := h (j + 1) q (by simpa using hq)
    rw [show i + (j + 1) = i + 1 + j by omega] at this
    exact this
theorem info_rule : (Tryz.prog.info? 26).map (fun i => (i.zero, i.size, i.bytes)) = some (some (.agg #[.int .i64 0, .string ⟨#[]⟩, .slice none 0 0, .slice none 0 0, .slice none 0 0]), 5, 96) := by kernel_rfl
def mcells (s : ByteArray) : List Value := [.int .i64 0, .string s, .slice none 0 0, .slice none 0 0, .slice none 0 0]
theorem mcells_len : ∀ l : List ByteArray, (l.flatMap mcells).length = l.length * 5
  | [] => rfl
  | s :: l => by rw [List.flatMap_cons, List.length_append, mcells_len l]; simp [mcells]; omega
theorem mcells_get : ∀ (l : List ByteArray) (i : Nat) (s : ByteArray), l[i]? = some s → ∀ j u, (mcells s)[j]? = some u → (l.flatMap mcells)[i * 5 + j]? = some u
  | [], i, s, h, _, _, _ => by simp at h
  | q :: l, 0, s, h, j, u, hu => by
    simp only [List.getElem?_cons_zero, Option.some.injEq] at h
    subst h
    have hj := (List.getElem?_eq_some_iff.1 hu).1
    rw [List.flatMap_cons, Nat.zero_mul, Nat.zero_add, List.getElem?_append_left hj]
    exact hu
  | q :: l, i + 1, s, h, j, u, hu => by
    rw [List.flatMap_cons, List.getElem?_append_right (by simp [mcells]; omega)]
    rw [show (i + 1) * 5 + j - (mcells q).length = i * 5 + j by simp [mcells]; omega]
    exact mcells_get l i s (by simpa using h) j u hu
def OwnM (w : World) (base : Nat) (v : Value) (ts : List ByteArray) : Prop := w.ownsRow base 26 5 v ts.length (ts.flatMap mcells)
theorem OwnM.ext {w w' : World} {base : Nat} {v : Value} {es : List ByteArray} (h : OwnM w base v es) (x : Ext w w') : OwnM w' base v es := World.ownsRow.kept h (grown_of_ext x none) (by cases v.ownBlock <;> simp)
theorem OwnM.rules {w : World} {base : Nat} {v : Value} {ts : List ByteArray} (h : OwnM w base v ts) : ∃ a c, v = .slice a ts.length c ∧ RulesAt (fun b => base ≤ b) w a ts.length c (ts.map matchR) := by
  obtain ⟨h1, h2⟩ := id h
  rcases h2 with ⟨rfl, h0⟩ | ⟨g, cap, cur, rfl, hg, hh, h3, h4, h5, h6⟩
  · have h0' : ts = [] := List.length_eq_zero_iff.1 h0
    subst h0'
    exact ⟨none, 0, rfl, rfl, Nat.le_refl _, Nat.zero_le _, by simp [RowR]⟩
  · refine ⟨_, _, rfl, by simp, h3, h4, RowR.of2 fun j r hr => ?_⟩
    rw [List.getElem?_map] at hr
    obtain ⟨s, hs, rfl⟩ := Option.map_eq_some_iff.1 hr
    have key : ∀ k u, (mcells s)[k]? = some u → w.cell? ⟨g, 0 + (0 + j) * 5 + 0 + k, none⟩ = some u := fun k u hk => by
      have := World.ownsRow.cells h (g := g) rfl (j * 5 + k) u (mcells_get ts j s hs k u hk)
      rw [show 0 + (0 + j) * 5 + 0 + k = j * 5 + k by omega]
      simpa [Addr.add_lit] using this
    exact ⟨g, 0, mRv s, rfl, hg, ⟨key 0 _ rfl, key 1 _ rfl, key 2 _ rfl, key 3 _ rfl, key 4 _ rfl⟩, matchR_at _ _ _⟩
section
variable {ops : Array Oper} {o : Oper} {rest : List Oper} {a : Act} {Q : Exit → Act → World → Prop}
theorem list_append_match (w : World) (hgd : o.guard = none) (s x : Operand) (ho : o.op = .call { callee := .builtin .append, args := #[s, x], argTypes := #[23, 23] })
    (base : Nat) (v : Value) (ss : List ByteArray) (hs : a.eval s = v) (hown : OwnM w base v ss) (b cap : Nat) (t : ByteArray) (hx : a.eval x = .slice (some ⟨b, 0, none⟩) 1 cap)
    (hc : ∀ k u, (mcells t)[k]? = some u → w.cell? ⟨b, k, none⟩ = some u) (hb : (ss.length + 1) * 96 ≤ 140737488355328) (hbase : base ≤ w.heap.size)
    (h : ∀ g cap w', OwnM w' base (.slice (some ⟨g, 0, none⟩) (ss.length + 1) cap) (ss ++ [t]) → w.grownBy w' v.ownBlock → Lies w v g → g < w'.heap.size → wpList Tryz.prog ops Q rest (a.put o.dst (.slice (some ⟨g, 0, none⟩) (ss.length + 1) cap)) w') : wpList Tryz.prog ops Q (o :: rest) a w := by
  refine wpList_plain hgd fun K hK => ?_
  obtain ⟨i, hi, hz, hsz, hby⟩ := info_parts info_rule
  refine wp_append_lies w s x 23 ho base 26 i _ 5 96 Tryz.underlying23 hi hz hsz hby rfl (by omega) v ss.length _ hs hown ⟨b, 0, none⟩ 1 cap (mcells t) hx (by simp [mcells]) ?_ ?_ (by omega) (by unfold maxLen; omega) hb hbase _ rfl ?_
  · intro j u hu
    rw [Addr.add_lit, Nat.zero_add]
    exact hc j u hu
  · intro u hu
    simp [mcells] at hu
    rcases hu with rfl | rfl | rfl | rfl | rfl <;> rfl
  · intro g cap w' hown' hg hl hlt
    refine hK _ _ (h g cap w' ?_ hg hl hlt)
    unfold OwnM
    rw [List.length_append, List.flatMap_append]
    simpa using hown'
end
set_option maxRecDepth 20000 in
set_option maxHeartbeats 2000000 in
theorem matches_any {S : Nat → Prop} (ta : Option Addr) (n c : Nat) (ts : List ByteArray) (w : World) (h : StrsAt S w ta n c ts) (hb : n ≤ 1048576) :
    Calls Tryz.prog 19 #[.slice ta n c] w fun r w' => ∃ a2 c2, r = .returned (.slice a2 n c2) ∧ RulesAt (fun b => w.heap.size ≤ b) w' a2 n c2 (ts.map matchR) ∧ Ext w w' := by
  obtain ⟨hl, hn, hm, hcell⟩ := h
  have HL := Lib.hid hl
  have HC := Lib.hid hcell
  clear hl hcell
  go_enter Tryz.func19, Tryz.ntmps19
  go_wp2_with fail
  go_loopw [3, 4] (fun v i wr => Ext w wr ∧ ∃ (j : Nat) (vv : Value), vv = v ∧ j ≤ n ∧ i = .int .i64 j ∧ OwnM wr w.heap.size vv (ts.take j)) (fun _ i _ => n - (intOf i).toNat)
  case atStart =>
    exact ⟨by (repeat (first | exact ext_refl _ | assumption | refine ext_alloc ?_ _ | refine ext_drew ?_ | refine ext_set ?_ (by simp) _ | refine ext_trans ?_ (by assumption))), 0, _, rfl, Nat.zero_le _, rfl, ⟨rfl, .inr ⟨w.heap.size, 0, #[], rfl, Nat.le_refl _, Box.at rfl _ _, Nat.le_refl _, by simp [maxLen], rfl, rfl⟩⟩⟩
  case round =>
    obtain ⟨hx, j, vv, hvv, hj, rfl, hO⟩ := hrel
    subst hvv
    have HO := Lib.hid hO
    clear hO
    have hsz := hx.sz
    by_cases hlt : j < n
    · obtain ⟨s, hs⟩ := some_of_lt HL.out hlt
      obtain ⟨b, off, rfl, -, hc0⟩ := HC.out j s hs
      have hc1 := hx.cell hc0
      have HS := Lib.hid hs
      have hlen : (ts.take j).length = j := by rw [List.length_take]; have := HL.out; omega
      have HLE := Lib.hid hlen
      clear hs hc0 hlen
      have tokB := trivial
      have hxn : Ext wr (wr.alloc (.cells #[.int .i64 0, .string s, .slice none 0 0, .slice none 0 0, .slice none 0 0] 26)) := ext_alloc (ext_refl _) _
      have hbn : Box (wr.alloc (.cells #[.int .i64 0, .string s, .slice none 0 0, .slice none 0 0, .slice none 0 0] 26)) wr.heap.size #[.int .i64 0, .string s, .slice none 0 0, .slice none 0 0, .slice none 0 0] 26 := Box.at rfl _ _
      go_wp2_with (first
        | (at_builtin; have _t := tokB; clear _t tokB; refine list_append_match _ rfl _ _ rfl w.heap.size _ (ts.take j) rfl (HO.out.ext hxn) wr.heap.size 1 s rfl (fun k u hu => by
             match k, hu with
             | 0, hu => simp [mcells] at hu; subst hu; exact hbn.cell 0 _ rfl
             | 1, hu => simp [mcells] at hu; subst hu; exact hbn.cell 1 _ rfl
             | 2, hu => simp [mcells] at hu; subst hu; exact hbn.cell 2 _ rfl
             | 3, hu => simp [mcells] at hu; subst hu; exact hbn.cell 3 _ rfl
             | 4, hu => simp [mcells] at hu; subst hu; exact hbn.cell 4 _ rfl
             | k + 5, hu => simp [mcells] at hu) (by have := HLE.out; omega) (Nat.le_trans hsz hxn.sz) ?_; intro g cap w4 hown hgrow hlies hglt)
        | fail)
      have hx5 : Ext w w4 := ext_grown (ext_trans hx hxn) hgrow (fun k hk => (World.ownsRow.lt HO.out k hk).1)
      have hown2 := Lib.hid hown
      clear hown hgrow hlies
      go_roundw
      case rel => exact ⟨hx5, j + 1, _, rfl, by omega, by go_num, by rw [take_snoc HS.out]; have h2 := hown2.out; rw [List.length_take] at h2; exact h2⟩
      case measure => simp [intOf]; omega
    · have hjn : j = n := by omega
      have hfull : ts.take j = ts := List.take_of_length_le (by have := HL.out; omega)
      have hO := HO.out
      rw [hfull] at hO
      obtain ⟨a2, c2, rfl, hR⟩ := hO.rules
      rw [HL.out] at hR
      rw [HL.out]
      clear hjn
      go_wp2_with fail
      go_ret
      exact ⟨a2, c2, rfl, hR, hx⟩
end Go.Proofs.YtegnnbpobcmgcaaGreat
