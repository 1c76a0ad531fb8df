/-
  Sieves: names with rules that match texts.
-/
import Derived.Test.YtdjojnlejkljdaaGreatLin
namespace Go.Proofs.YtdjojnlejkljdaaGreat
open Go.RowKit Go.Maps

def matchR (s : ByteArray) : Rl := .mk 0 s [] [] [] []
abbrev mRv (s : ByteArray) : Rv := ⟨0, s, none, 0, 0, none, 0, 0, none, 0, 0⟩
theorem matchR_at (S : Nat → Prop) (w : World) (s : ByteArray) : RuleAt S w (mRv s) (matchR s) := by
  unfold matchR
  simp only [RuleAt, RowR]
  exact ⟨trivial, trivial, ⟨rfl, Nat.le_refl _, Nat.zero_le _, fun i p hp => by simp at hp⟩, ⟨rfl, Nat.le_refl _, Nat.zero_le _⟩, trivial, ⟨rfl, rfl, Nat.le_refl _, Nat.zero_le _⟩, fun i nm hi => by simp at hi, trivial⟩
theorem matchR_small (N : Nat) (s : ByteArray) : SmallR N (matchR s) := by simp [matchR, SmallR, SmallRs]
theorem RowR.of2 {S : Nat → Prop} {w : World} {a : Option Addr} {st sh : Nat} : ∀ {l : List Rl} {i : Nat} (_ : ∀ j r, l[j]? = some r → ∃ b off e, a = some ⟨b, off, none⟩ ∧ S b ∧ RCells w b (off + (i + j) * st + sh) e ∧ RuleAt S w e r), RowR S w a st sh i l
  | [], _, _ => by simp [RowR]
  | r :: rest, i, h => by
    simp only [RowR]
    refine ⟨by simpa using h 0 r rfl, RowR.of2 fun j q hq => ?_⟩
    have := h (j + 1) q (by simpa using hq)
    rw [show i + (j + 1) = i + 1 + j by omega] at this
    exact this
theorem info_rule : (Tryz.prog.info? 29).map (fun i => (i.zero, i.size, i.bytes)) = some (some (.agg #[.int .i64 0, .string ⟨#[]⟩, .slice none 0 0, .slice none 0 0, .slice none 0 0]), 5, 96) := by kernel_rfl
def mcells (s : ByteArray) : List Value := [.int .i64 0, .string s, .slice none 0 0, .slice none 0 0, .slice none 0 0]
theorem mcells_len : ∀ l : List ByteArray, (l.flatMap mcells).length = l.length * 5
  | [] => rfl
  | s :: l => by rw [List.flatMap_cons, List.length_append, mcells_len l]; simp [mcells]; omega
theorem mcells_get : ∀ (l : List ByteArray) (i : Nat) (s : ByteArray), l[i]? = some s → ∀ j u, (mcells s)[j]? = some u → (l.flatMap mcells)[i * 5 + j]? = some u
  | [], i, s, h, _, _, _ => by simp at h
  | q :: l, 0, s, h, j, u, hu => by
    simp only [List.getElem?_cons_zero, Option.some.injEq] at h
    subst h
    have hj := (List.getElem?_eq_some_iff.1 hu).1
    rw [List.flatMap_cons, Nat.zero_mul, Nat.zero_add, List.getElem?_append_left hj]
    exact hu
  | q :: l, i + 1, s, h, j, u, hu => by
    rw [List.flatMap_cons, List.getElem?_append_right (by simp [mcells]; omega)]
    rw [show (i + 1) * 5 + j - (mcells q).length = i * 5 + j by simp [mcells]; omega]
    exact mcells_get l i s (by simpa using h) j u hu
def OwnM (w : World) (base : Nat) (v : Value) (ts : List ByteArray) : Prop := w.ownsRow base 29 5 v ts.length (ts.flatMap mcells)
theorem OwnM.ext {w w' : World} {base : Nat} {v : Value} {es : List ByteArray} (h : OwnM w base v es) (x : Ext w w') : OwnM w' base v es := World.ownsRow.kept h (grown_of_ext x none) (by cases v.ownBlock <;> simp)
theorem OwnM.rules {w : World} {base : Nat} {v : Value} {ts : List ByteArray} (h : OwnM w base v ts) : ∃ a c, v = .slice a ts.length c ∧ RulesAt (fun b => base ≤ b) w a ts.length c (ts.map matchR) ∧ ∀ j s, ts[j]? = some s → ∃ b off, a = some ⟨b, off, none⟩ ∧ RCells w b (off + j * 5) (mRv s) := by
  obtain ⟨h1, h2⟩ := id h
  rcases h2 with ⟨rfl, h0⟩ | ⟨g, cap, cur, rfl, hg, hh, h3, h4, h5, h6⟩
  · have h0' : ts = [] := List.length_eq_zero_iff.1 h0
    subst h0'
    exact ⟨none, 0, rfl, ⟨rfl, Nat.le_refl _, Nat.zero_le _, by simp [RowR]⟩, fun _ _ hh => by simp at hh⟩
  · refine ⟨_, _, rfl, ⟨by simp, h3, h4, RowR.of2 fun j r hr => ?_⟩, fun j s hs => ?_⟩
    rotate_left
    · have key : ∀ k u, (mcells s)[k]? = some u → w.cell? ⟨g, 0 + j * 5 + k, none⟩ = some u := fun k u hk => by
        have := World.ownsRow.cells h (g := g) rfl (j * 5 + k) u (mcells_get ts j s hs k u hk)
        rw [show 0 + j * 5 + k = j * 5 + k by omega]
        simpa [Addr.add_lit] using this
      exact ⟨g, 0, rfl, ⟨key 0 _ rfl, key 1 _ rfl, key 2 _ rfl, key 3 _ rfl, key 4 _ rfl⟩⟩
    rw [List.getElem?_map] at hr
    obtain ⟨s, hs, rfl⟩ := Option.map_eq_some_iff.1 hr
    have key : ∀ k u, (mcells s)[k]? = some u → w.cell? ⟨g, 0 + (0 + j) * 5 + 0 + k, none⟩ = some u := fun k u hk => by
      have := World.ownsRow.cells h (g := g) rfl (j * 5 + k) u (mcells_get ts j s hs k u hk)
      rw [show 0 + (0 + j) * 5 + 0 + k = j * 5 + k by omega]
      simpa [Addr.add_lit] using this
    exact ⟨g, 0, mRv s, rfl, hg, ⟨key 0 _ rfl, key 1 _ rfl, key 2 _ rfl, key 3 _ rfl, key 4 _ rfl⟩, matchR_at _ _ _⟩
section
variable {ops : Array Oper} {o : Oper} {rest : List Oper} {a : Act} {Q : Exit → Act → World → Prop}
theorem list_append_match (w : World) (hgd : o.guard = none) (s x : Operand) (ho : o.op = .call { callee := .builtin .append, args := #[s, x], argTypes := #[27, 27] })
    (base : Nat) (v : Value) (ss : List ByteArray) (hs : a.eval s = v) (hown : OwnM w base v ss) (b cap : Nat) (t : ByteArray) (hx : a.eval x = .slice (some ⟨b, 0, none⟩) 1 cap)
    (hc : ∀ k u, (mcells t)[k]? = some u → w.cell? ⟨b, k, none⟩ = some u) (hb : (ss.length + 1) * 96 ≤ 140737488355328) (hbase : base ≤ w.heap.size)
    (h : ∀ g cap w', OwnM w' base (.slice (some ⟨g, 0, none⟩) (ss.length + 1) cap) (ss ++ [t]) → w.grownBy w' v.ownBlock → Lies w v g → g < w'.heap.size → wpList Tryz.prog ops Q rest (a.put o.dst (.slice (some ⟨g, 0, none⟩) (ss.length + 1) cap)) w') : wpList Tryz.prog ops Q (o :: rest) a w := by
  refine wpList_plain hgd fun K hK => ?_
  obtain ⟨i, hi, hz, hsz, hby⟩ := info_parts info_rule
  refine wp_append_lies w s x 27 ho base 29 i _ 5 96 Tryz.underlying27 hi hz hsz hby rfl (by omega) v ss.length _ hs hown ⟨b, 0, none⟩ 1 cap (mcells t) hx (by simp [mcells]) ?_ ?_ (by omega) (by unfold maxLen; omega) hb hbase _ rfl ?_
  · intro j u hu
    rw [Addr.add_lit, Nat.zero_add]
    exact hc j u hu
  · intro u hu
    simp [mcells] at hu
    rcases hu with rfl | rfl | rfl | rfl | rfl <;> rfl
  · intro g cap w' hown' hg hl hlt
    refine hK _ _ (h g cap w' ?_ hg hl hlt)
    unfold OwnM
    rw [List.length_append, List.flatMap_append]
    simpa using hown'
end
set_option maxRecDepth 20000 in
set_option maxHeartbeats 2000000 in
theorem matches_any {S : Nat → Prop} (ta : Option Addr) (n c : Nat) (ts : List ByteArray) (w : World) (h : StrsAt S w ta n c ts) (hb : n ≤ 1048576) :
    Calls Tryz.prog 13 #[.slice ta n c] w fun r w' => ∃ a2 c2, r = .returned (.slice a2 n c2) ∧ RulesAt (fun b => w.heap.size ≤ b) w' a2 n c2 (ts.map matchR) ∧ Ext w w' ∧ ∀ j s, ts[j]? = some s → ∃ b off, a2 = some ⟨b, off, none⟩ ∧ RCells w' b (off + j * 5) (mRv s) := by
  obtain ⟨hl, hn, hm, hcell⟩ := h
  have HL := Lib.hid hl
  have HC := Lib.hid hcell
  clear hl hcell
  go_enter Tryz.func13, Tryz.ntmps13
  go_wp2_with fail
  go_loopw [3, 4] (fun v i wr => Ext w wr ∧ ∃ (j : Nat) (vv : Value), vv = v ∧ j ≤ n ∧ i = .int .i64 j ∧ OwnM wr w.heap.size vv (ts.take j)) (fun _ i _ => n - (intOf i).toNat)
  case atStart =>
    exact ⟨by (repeat (first | exact ext_refl _ | assumption | refine ext_alloc ?_ _ | refine ext_drew ?_ | refine ext_set ?_ (by simp) _ | refine ext_trans ?_ (by assumption))), 0, _, rfl, Nat.zero_le _, rfl, ⟨rfl, .inr ⟨w.heap.size, 0, #[], rfl, Nat.le_refl _, Box.at rfl _ _, Nat.le_refl _, by simp [maxLen], rfl, rfl⟩⟩⟩
  case round =>
    obtain ⟨hx, j, vv, hvv, hj, rfl, hO⟩ := hrel
    subst hvv
    have HO := Lib.hid hO
    clear hO
    have hsz := hx.sz
    by_cases hlt : j < n
    · obtain ⟨s, hs⟩ := some_of_lt HL.out hlt
      obtain ⟨b, off, rfl, -, hc0⟩ := HC.out j s hs
      have hc1 := hx.cell hc0
      have HS := Lib.hid hs
      have hlen : (ts.take j).length = j := by rw [List.length_take]; have := HL.out; omega
      have HLE := Lib.hid hlen
      clear hs hc0 hlen
      have tokB := trivial
      have hxn : Ext wr (wr.alloc (.cells #[.int .i64 0, .string s, .slice none 0 0, .slice none 0 0, .slice none 0 0] 29)) := ext_alloc (ext_refl _) _
      have hbn : Box (wr.alloc (.cells #[.int .i64 0, .string s, .slice none 0 0, .slice none 0 0, .slice none 0 0] 29)) wr.heap.size #[.int .i64 0, .string s, .slice none 0 0, .slice none 0 0, .slice none 0 0] 29 := Box.at rfl _ _
      go_wp2_with (first
        | (at_builtin; have _t := tokB; clear _t tokB; refine list_append_match _ rfl _ _ rfl w.heap.size _ (ts.take j) rfl (HO.out.ext hxn) wr.heap.size 1 s rfl (fun k u hu => by
             match k, hu with
             | 0, hu => simp [mcells] at hu; subst hu; exact hbn.cell 0 _ rfl
             | 1, hu => simp [mcells] at hu; subst hu; exact hbn.cell 1 _ rfl
             | 2, hu => simp [mcells] at hu; subst hu; exact hbn.cell 2 _ rfl
             | 3, hu => simp [mcells] at hu; subst hu; exact hbn.cell 3 _ rfl
             | 4, hu => simp [mcells] at hu; subst hu; exact hbn.cell 4 _ rfl
             | k + 5, hu => simp [mcells] at hu) (by have := HLE.out; omega) (Nat.le_trans hsz hxn.sz) ?_; intro g cap w4 hown hgrow hlies hglt)
        | fail)
      have hx5 : Ext w w4 := ext_grown (ext_trans hx hxn) hgrow (fun k hk => (World.ownsRow.lt HO.out k hk).1)
      have hown2 := Lib.hid hown
      clear hown hgrow hlies
      go_roundw
      case rel => exact ⟨hx5, j + 1, _, rfl, by omega, by go_num, by rw [take_snoc HS.out]; have h2 := hown2.out; rw [List.length_take] at h2; exact h2⟩
      case measure => simp [intOf]; omega
    · have hjn : j = n := by omega
      have hfull : ts.take j = ts := List.take_of_length_le (by have := HL.out; omega)
      have hO := HO.out
      rw [hfull] at hO
      obtain ⟨a2, c2, rfl, hR, hR2⟩ := hO.rules
      rw [HL.out] at hR
      rw [HL.out]
      clear hjn
      go_wp2_with fail
      go_ret
      exact ⟨a2, c2, rfl, hR, hx, hR2⟩
end Go.Proofs.YtdjojnlejkljdaaGreat

namespace Go.Proofs.YtdjojnlejkljdaaGreat
open Go.RowKit Go.Maps

theorem info_sieve : (Tryz.prog.info? 46).map (fun i => (i.zero, i.size, i.bytes)) = some (some (.agg #[.string ⟨#[]⟩, .int .i64 0, .string ⟨#[]⟩, .slice none 0 0, .slice none 0 0, .slice none 0 0]), 6, 112) := by kernel_rfl
def scells (z : ByteArray × ByteArray) : List Value := [.string z.1, .int .i64 0, .string z.2, .slice none 0 0, .slice none 0 0, .slice none 0 0]
theorem scells_get : ∀ (l : List (ByteArray × ByteArray)) (i : Nat) (z : ByteArray × ByteArray), l[i]? = some z → ∀ j u, (scells z)[j]? = some u → (l.flatMap scells)[i * 6 + j]? = some u
  | [], i, s, h, _, _, _ => by simp at h
  | q :: l, 0, s, h, j, u, hu => by
    simp only [List.getElem?_cons_zero, Option.some.injEq] at h
    subst h
    have hj := (List.getElem?_eq_some_iff.1 hu).1
    rw [List.flatMap_cons, Nat.zero_mul, Nat.zero_add, List.getElem?_append_left hj]
    exact hu
  | q :: l, i + 1, s, h, j, u, hu => by
    rw [List.flatMap_cons, List.getElem?_append_right (by simp [scells]; omega)]
    rw [show (i + 1) * 6 + j - (scells q).length = i * 6 + j by simp [scells]; omega]
    exact scells_get l i s (by simpa using h) j u hu
def OwnZ (w : World) (base : Nat) (v : Value) (zs : List (ByteArray × ByteArray)) : Prop := w.ownsRow base 46 6 v zs.length (zs.flatMap scells)
theorem OwnZ.ext {w w' : World} {base : Nat} {v : Value} {es : List (ByteArray × ByteArray)} (h : OwnZ w base v es) (x : Ext w w') : OwnZ w' base v es := World.ownsRow.kept h (grown_of_ext x none) (by cases v.ownBlock <;> simp)
theorem OwnZ.sieves {w : World} {base : Nat} {v : Value} {zs : List (ByteArray × ByteArray)} (h : OwnZ w base v zs) : ∃ a c, v = .slice a zs.length c ∧ SievesAt (fun b => base ≤ b) w a zs.length c (zs.map Prod.fst) (zs.map fun z => matchR z.2) := by
  obtain ⟨h1, h2⟩ := id h
  rcases h2 with ⟨rfl, h0⟩ | ⟨g, cap, cur, rfl, hg, hh, h3, h4, h5, h6⟩
  · have h0' : zs = [] := List.length_eq_zero_iff.1 h0
    subst h0'
    exact ⟨none, 0, rfl, sieves_none w⟩
  · have key : ∀ j z k u, zs[j]? = some z → (scells z)[k]? = some u → w.cell? ⟨g, j * 6 + k, none⟩ = some u := fun j z k u hz hk => by
      have := World.ownsRow.cells h (g := g) rfl (j * 6 + k) u (scells_get zs j z hz k u hk)
      simpa [Addr.add_lit] using this
    refine ⟨_, _, rfl, by simp, by simp, h3, h4, fun i nm hi => ?_, RowR.of fun j r hr => ?_⟩
    · rw [List.getElem?_map] at hi
      obtain ⟨z, hz, rfl⟩ := Option.map_eq_some_iff.1 hi
      exact ⟨g, 0, rfl, hg, by rw [Nat.zero_add]; exact key i z 0 _ hz rfl⟩
    · rw [List.getElem?_map] at hr
      obtain ⟨z, hz, rfl⟩ := Option.map_eq_some_iff.1 hr
      have k2 : ∀ k u, (scells z)[k + 1]? = some u → w.cell? ⟨g, 0 + (0 + j) * 6 + 1 + k, none⟩ = some u := fun k u hk => by
        rw [show 0 + (0 + j) * 6 + 1 + k = j * 6 + (k + 1) by omega]
        exact key j z (k + 1) u hz hk
      exact ⟨g, 0, mRv z.2, rfl, hg, ⟨k2 0 _ rfl, k2 1 _ rfl, k2 2 _ rfl, k2 3 _ rfl, k2 4 _ rfl⟩, matchR_at _ _ _⟩
theorem wp_append_sieve {o : Oper} {a : Act} {Q : Exit → Act → World → Prop} (w : World) {K : Act → World → Prop} (s x : Operand) (ho : o.op = .call { callee := .builtin .append, args := #[s, x], argTypes := #[24, 24] })
    (base : Nat) (v : Value) (zs : List (ByteArray × ByteArray)) (hs : a.eval s = v) (hown : OwnZ w base v zs) (b cap : Nat) (z : ByteArray × ByteArray) (hx : a.eval x = .slice (some ⟨b, 0, none⟩) 1 cap)
    (hc : ∀ k u, (scells z)[k]? = some u → w.cell? ⟨b, k, none⟩ = some u) (hb : (zs.length + 1) * 112 ≤ 140737488355328) (hbase : base ≤ w.heap.size)
    (h : ∀ g cap w', OwnZ w' base (.slice (some ⟨g, 0, none⟩) (zs.length + 1) cap) (zs ++ [z]) → w.grownBy w' v.ownBlock → Lies w v g → g < w'.heap.size → K (a.put o.dst (.slice (some ⟨g, 0, none⟩) (zs.length + 1) cap)) w') : o.wp Tryz.prog a w K Q := by
  obtain ⟨i, hi, hz, hsz, hby⟩ := info_parts info_sieve
  refine wp_append_lies w s x 24 ho base 46 i _ 6 112 Tryz.underlying24 hi hz hsz hby rfl (by omega) v zs.length _ hs hown ⟨b, 0, none⟩ 1 cap (scells z) hx (by simp [scells]) ?_ ?_ (by omega) (by unfold maxLen; omega) hb hbase _ rfl ?_
  · intro j u hu
    rw [Addr.add_lit, Nat.zero_add]
    exact hc j u hu
  · intro u hu
    simp [scells] at hu
    rcases hu with rfl | rfl | rfl | rfl | rfl | rfl <;> rfl
  · intro g cap w' hown' hg hl hlt
    refine h g cap w' ?_ hg hl hlt
    unfold OwnZ
    rw [List.length_append, List.flatMap_append]
    simpa using hown'
set_option maxRecDepth 20000 in
set_option maxHeartbeats 4000000 in
theorem sieves_any {S : Nat → Prop} (na : Option Addr) (nn nc : Nat) (ns : List ByteArray) (ta : Option Addr) (tn tc : Nat) (ts : List ByteArray) (w : World) (hN : StrsAt S w na nn nc ns) (hT : StrsAt S w ta tn tc ts) (hnb : nn ≤ 1048576) (htb : tn ≤ 1048576) :
    Calls Tryz.prog 5 #[.slice na nn nc, .slice ta tn tc] w fun r w' => ∃ a2 c2, r = .returned (.slice a2 (ns.zip ts).length c2) ∧ SievesAt (fun b => w.heap.size ≤ b) w' a2 (ns.zip ts).length c2 ((ns.zip ts).map Prod.fst) ((ns.zip ts).map fun z => matchR z.2) ∧ Ext w w' := by
  have hM := Lib.hid fun w' (x : Ext w w') => matches_any ta tn tc ts w' (hT.ext x) htb
  have HN := Lib.hid hN.2.2.2
  have HNL := Lib.hid hN.1
  have HTL := Lib.hid hT.1
  have hnm := hN.2.2.1
  have htm := hT.2.2.1
  clear hN hT
  go_enter Tryz.func5, Tryz.ntmps5
  go_wp2_with (first
    | (go_at_call 13; refine (hM.out _ (by (repeat (first | exact ext_refl _ | assumption | refine ext_alloc ?_ _ | refine ext_drew ?_ | refine ext_set ?_ (by simp) _ | refine ext_trans ?_ (by assumption))))).mono ?_; rintro r wm ⟨ra, rc, rfl, hks, hxm, hks2⟩; have HK := Lib.hid hks; have HK2 := Lib.hid hks2; clear hks hks2)
    | fail)
  have hxw : Ext w wm := by (repeat (first | exact ext_refl _ | assumption | refine ext_alloc ?_ _ | refine ext_drew ?_ | refine ext_set ?_ (by simp) _ | refine ext_trans ?_ (by assumption)))
  have hK3 : ∀ j s, ts[j]? = some s → ∃ b off, ra = some ⟨b, off, none⟩ ∧ w.heap.size + 1 ≤ b ∧ b < wm.heap.size ∧ RCells wm b (off + j * 5) (mRv s) := fun j s hs => by
    obtain ⟨b, off, h1, h2⟩ := HK2.out j s hs
    obtain ⟨b', off', e', h3, h4, -, -⟩ := HK.out.2.2.2.get (j := j) (r := matchR s) (by rw [List.getElem?_map, hs]; rfl)
    refine ⟨b, off, h1, ?_, lt_of_cell h2.1, h2⟩
    rw [h1] at h3
    simp only [Option.some.injEq, Addr.mk.injEq] at h3
    rw [h3.1]
    simpa using h4
  have HK3 := Lib.hid hK3
  have hmsz := hxm.sz
  simp only [World.size_alloc] at hmsz
  clear hK3 HK HK2
  have hO0 : OwnZ (w.alloc (.cells #[] 46)) w.heap.size (.slice (some ⟨w.heap.size, 0, none⟩) 0 0) [] := ⟨rfl, .inr ⟨w.heap.size, 0, #[], rfl, Nat.le_refl _, Box.at rfl _ _, Nat.le_refl _, by simp [maxLen], rfl, rfl⟩⟩
  have hO1 := hO0.ext hxm
  go_loopw [5, 7] (fun v i wr => Ext w wr ∧ wm.heap.size ≤ wr.heap.size ∧ Keeps (fun b => w.heap.size + 1 ≤ b) wm wr ∧ ∃ (j : Nat) (vv : Value), vv = v ∧ j ≤ (ns.zip ts).length ∧ i = .int .i64 j ∧ (∀ q, vv.ownBlock = some q → q = w.heap.size ∨ wm.heap.size ≤ q) ∧ OwnZ wr w.heap.size vv ((ns.zip ts).take j)) (fun _ i _ => (ns.zip ts).length - (intOf i).toNat)
  case atStart => exact ⟨hxw, Nat.le_refl _, fun _ _ _ => rfl, 0, _, rfl, Nat.zero_le _, rfl, fun q hq => .inl (Option.some.inj hq).symm, hO1⟩
  case round =>
    obtain ⟨hx, hmr, hy, j, vv, hvv, hj, rfl, hqb, hO⟩ := hrel
    subst hvv
    have HO := Lib.hid hO
    clear hO
    have hsz := hx.sz
    have hzl : (ns.zip ts).length = min nn tn := by rw [List.length_zip, HNL.out, HTL.out]
    by_cases hlt : j < (ns.zip ts).length
    · have hl1 : j < nn := by omega
      have hl2 : j < tn := by omega
      obtain ⟨nm, hnm0⟩ := some_of_lt HNL.out hl1
      obtain ⟨s, hs0⟩ := some_of_lt HTL.out hl2
      obtain ⟨nb, noff, rfl, -, hcn⟩ := HN.out j nm hnm0
      obtain ⟨rb, roff, rfl, hrb0, hrb1, hrc⟩ := HK3.out j s hs0
      have z0 := hx.cell hcn
      have hrc := RCells.keep hy hrb0 hrc
      have HZ := Lib.hid (show (ns.zip ts)[j]? = some (nm, s) by rw [List.getElem?_zip_eq_some]; exact ⟨hnm0, hs0⟩)
      have hlen : ((ns.zip ts).take j).length = j := by rw [List.length_take]; omega
      have HLE := Lib.hid hlen
      have hnb2 : nb < wr.heap.size := lt_of_cell z0
      have hrb2 : rb < wr.heap.size := lt_of_cell hrc.1
      have hnw : nb < w.heap.size := lt_of_cell hcn
      clear hcn hnm0 hs0 hlen
      go_upto_region 5 with fail
      refine wp_region_order (fun (w' : World) => w'.cell? ⟨nb, noff + j, none⟩ = some (.string nm) ∧ RCells w' rb (roff + j * 5) (mRv s)) [0, 1, 2, 3, 4, 5, 6, 7, 8, 9] [0, 1, 2, 3, 4, 5, 6, 7, 8, 9, 10, 11, 12] (by kernel_rfl) (by kernel_rfl) (fun d _ _ _ _ h => by cases d <;> exact h) (by kernel_rfl) ?_
      have hS : (fun (w' : World) => w'.cell? ⟨nb, noff + j, none⟩ = some (.string nm) ∧ RCells w' rb (roff + j * 5) (mRv s)) _ := ⟨z0, hrc⟩
      (apply ord_held rfl rfl (by assumption) rfl; (focus ((intro w' hS'); go_simp; (try with_reducible rfl))); (try simp only [Act.put, List.setIfInBounds_toArray, List.set_cons_zero, List.set_cons_succ]))
      (apply ord_held rfl rfl (by assumption) rfl; (focus ((intro w' hS'); go_simp; (try with_reducible rfl))); (try simp only [Act.put, List.setIfInBounds_toArray, List.set_cons_zero, List.set_cons_succ]))
      (apply ord_held rfl rfl (by assumption) rfl; (focus ((intro w' hS'); go_simp; (try with_reducible rfl))); (try simp only [Act.put, List.setIfInBounds_toArray, List.set_cons_zero, List.set_cons_succ]))
      (apply ord_held rfl rfl (by assumption) rfl; (focus ((intro w' hS'); go_simp; (try with_reducible rfl))); (try simp only [Act.put, List.setIfInBounds_toArray, List.set_cons_zero, List.set_cons_succ]))
      (apply ord_held rfl rfl (by assumption) rfl; (focus ((intro w' hS'); go_simp; (try with_reducible rfl))); (try simp only [Act.put, List.setIfInBounds_toArray, List.set_cons_zero, List.set_cons_succ]))
      (apply ord_held rfl rfl (by assumption) rfl; (focus ((intro w' hS'); go_simp; (try with_reducible rfl))); (try simp only [Act.put, List.setIfInBounds_toArray, List.set_cons_zero, List.set_cons_succ]))
      (apply ord_held rfl rfl (by assumption) rfl; (focus ((intro w' hS'); go_simp; (try with_reducible rfl))); (try simp only [Act.put, List.setIfInBounds_toArray, List.set_cons_zero, List.set_cons_succ]))
      (apply ord_held rfl rfl (by assumption) rfl; (focus ((intro w' hS'); go_simp; (try with_reducible rfl))); (try simp only [Act.put, List.setIfInBounds_toArray, List.set_cons_zero, List.set_cons_succ]))
      (apply ord_held rfl rfl (by assumption) rfl; (focus ((intro w' hS'); go_simp; (try with_reducible rfl))); (try simp only [Act.put, List.setIfInBounds_toArray, List.set_cons_zero, List.set_cons_succ]))
      (apply ord_held rfl rfl (by assumption) rfl; (focus ((intro w' hS'); go_simp; (try with_reducible rfl))); (try simp only [Act.put, List.setIfInBounds_toArray, List.set_cons_zero, List.set_cons_succ]))
      (apply ord_loud rfl rfl rfl; intro K hK; go_simp)
      have x3 : Ext wr (wr.drew.alloc (.cells #[.string nm, .int .i64 0, .string s, .slice none 0 0, .slice none 0 0, .slice none 0 0] 46)) := ext_alloc (ext_drew (ext_refl _)) _
      have hbp : Box (wr.drew.alloc (.cells #[.string nm, .int .i64 0, .string s, .slice none 0 0, .slice none 0 0, .slice none 0 0] 46)) wr.heap.size #[.string nm, .int .i64 0, .string s, .slice none 0 0, .slice none 0 0, .slice none 0 0] 46 := Box.at rfl _ _
      have hS3 : (fun (w' : World) => w'.cell? ⟨nb, noff + j, none⟩ = some (.string nm) ∧ RCells w' rb (roff + j * 5) (mRv s)) (wr.drew.alloc (.cells #[.string nm, .int .i64 0, .string s, .slice none 0 0, .slice none 0 0, .slice none 0 0] 46)) := ⟨x3.cell z0, RCells.ext x3 hrc⟩
      refine hK _ _ (fun _ => hS3) ?_
      clear hK K
      (try simp only [Act.put, List.setIfInBounds_toArray, List.set_cons_zero, List.set_cons_succ])
      apply ord_loud rfl rfl rfl
      intro K hK
      refine wp_append_sieve _ _ _ rfl w.heap.size _ ((ns.zip ts).take j) rfl (HO.out.ext x3) wr.heap.size 1 (nm, s) rfl (fun k u hu => by
        match k, hu with
        | 0, hu => simp [scells] at hu; subst hu; exact hbp.cell 0 _ rfl
        | 1, hu => simp [scells] at hu; subst hu; exact hbp.cell 1 _ rfl
        | 2, hu => simp [scells] at hu; subst hu; exact hbp.cell 2 _ rfl
        | 3, hu => simp [scells] at hu; subst hu; exact hbp.cell 3 _ rfl
        | 4, hu => simp [scells] at hu; subst hu; exact hbp.cell 4 _ rfl
        | 5, hu => simp [scells] at hu; subst hu; exact hbp.cell 5 _ rfl
        | k + 6, hu => simp [scells] at hu) (by have := HLE.out; omega) (Nat.le_trans hsz x3.sz) ?_
      intro g cap w4 hown hgrow hlies hglt
      have hgrow : (wr.drew.alloc (.cells #[.string nm, .int .i64 0, .string s, .slice none 0 0, .slice none 0 0, .slice none 0 0] 46)).grownBy w4 vv.ownBlock := hgrow
      have hlies : Lies (wr.drew.alloc (.cells #[.string nm, .int .i64 0, .string s, .slice none 0 0, .slice none 0 0, .slice none 0 0] 46)) vv g := hlies
      have hbw : ∀ q, vv.ownBlock = some q → w.heap.size ≤ q ∧ q < wr.heap.size := fun q hq => World.ownsRow.lt HO.out q hq
      have hqr : ∀ q, vv.ownBlock = some q → q ≠ rb := fun q hq e => by have := hqb q hq; omega
      have hS4 : (fun (w' : World) => w'.cell? ⟨nb, noff + j, none⟩ = some (.string nm) ∧ RCells w' rb (roff + j * 5) (mRv s)) w4 := ⟨hgrow.cell (x3.cell z0) (fun e => by have := hbw _ e.symm; simp at this; omega), ?_⟩
      rotate_left
      · obtain ⟨c0, c1, c2, c3, c4⟩ := hrc
        have hq : ∀ (p : Addr) (u : Value), p.block = rb → wr.cell? p = some u → w4.cell? p = some u := fun p u hp hc => hgrow.cell (x3.cell hc) (fun e => hqr _ e.symm hp)
        exact ⟨hq _ _ rfl c0, hq _ _ rfl c1, hq _ _ rfl c2, hq _ _ rfl c3, hq _ _ rfl c4⟩
      refine hK _ _ (fun _ => hS4) ?_
      clear hK K
      (try simp only [Act.put, List.setIfInBounds_toArray, List.set_cons_zero, List.set_cons_succ])
      (apply ord_last rfl rfl rfl (by kernel_rfl); intro K hK; go_simp; refine hK _ _ ?_; clear hK K; (try simp only [Act.put, List.setIfInBounds_toArray, List.set_cons_zero, List.set_cons_succ]))
      refine ord_end ?_
      have hx5 : Ext w w4 := ext_grown (ext_trans hx x3) hgrow (fun k hk => (hbw k hk).1)
      have hs3 := x3.sz
      have hs4 := hgrow.size
      have hy5 : Keeps (fun b => w.heap.size + 1 ≤ b) wm w4 := fun q hq hl => (hgrow.block q (Nat.lt_of_lt_of_le (Nat.lt_of_lt_of_le hl hmr) x3.sz) (fun e => by have := hqb _ e.symm; omega)).trans ((x3.block q (by omega)).trans (hy q hq hl))
      have hqb5 : ∀ q, (Value.slice (some ⟨g, 0, none⟩) (((ns.zip ts).take j).length + 1) cap).ownBlock = some q → q = w.heap.size ∨ wm.heap.size ≤ q := fun q hq => by
        simp only [Value.ownBlock, Option.some.injEq] at hq
        rcases hlies with hl | hl
        · exact hqb q (by rw [hl, hq])
        · right
          have h9 : wr.heap.size ≤ g := by rw [hl]; exact x3.sz
          omega
      have hown2 := Lib.hid hown
      clear hown hgrow hlies hS4 hS3 hS hbp z0 hrc hqr
      go_wp2_with fail
      go_roundw
      case rel => exact ⟨hx5, by omega, hy5, j + 1, _, rfl, by omega, by go_num, hqb5, by rw [take_snoc HZ.out]; have h2 := hown2.out; rw [List.length_take, List.length_zip, HNL.out, HTL.out] at h2; exact h2⟩
      case measure => have h1 := HNL.out; have h2 := HTL.out; simp [intOf]; omega
    · have hjn : j = (ns.zip ts).length := by omega
      have hfull : (ns.zip ts).take j = ns.zip ts := List.take_of_length_le (by omega)
      have hO := HO.out
      rw [hfull] at hO
      obtain ⟨a2, c2, rfl, hR⟩ := hO.sieves
      have hnlt : ¬ (j < nn ∧ j < tn) := by omega
      clear hO HO hjn
      by_cases h1 : j < nn
      · have h2 : ¬ j < tn := by omega
        go_wp2_with fail
        go_ret
        exact ⟨a2, c2, rfl, hR, hx⟩
      · go_wp2_with fail
        go_ret
        exact ⟨a2, c2, rfl, hR, hx⟩
end Go.Proofs.YtdjojnlejkljdaaGreat

