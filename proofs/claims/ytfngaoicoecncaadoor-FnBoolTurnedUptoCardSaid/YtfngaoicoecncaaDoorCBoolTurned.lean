/-
  Two settings of a bool query with different names may change places: the tied card of the statement FnBoolTurned in its second form: where what comes in is of bulk at most 1048576.
-/
import Derived.Test.YtfngaoicoecncaaDoorTr
import Derived.Test.YtfngaoicoecncaaDoorQs
import Derived.Test.YtfngaoicoecncaaDoorNm2
import Derived.Test.YtfngaoicoecncaaDoorLq
import Derived.Test.YtfngaoicoecncaaDoorPq
import Derived.Test.YtfngaoicoecncaaDoorF2
import Derived.Lib.ItoaNum
import Derived.Lib.AppendIntMem
import Derived.Test.YtfngaoicoecncaaDoorShelf2
import Derived.Test.YtfngaoicoecncaaDoorBk
import Derived.Test.YtfngaoicoecncaaDoorOpen
import Derived.Test.YtfngaoicoecncaaDoorZz
import Derived.Lib.Strings
import Derived.Test.YtfngaoicoecncaaDoorRows
import Derived.Test.YtfngaoicoecncaaDoorPf
import Derived.Test.YtfngaoicoecncaaDoorCards
import Derived.Test.YtfngaoicoecncaaDoorTie
import Derived.Lay
import Derived.LaidMore
import Derived.LaidSub
import Derived.Lib.LaidTab
import Derived.SevenTiedAt
import Derived.ProofKit
import Derived.OpenShut
import Derived.Stop.Joined
import Derived.Stop.LaidErr
import Derived.Deep.DeepHandedRow
namespace Go.Proofs.YtfngaoicoecncaaDoor
open Go.RowKit Go.Maps

section
variable {P : Program} {ops : Array Oper} {Q : Exit → Act → World → Prop}
def rdy4 (b0 b1 b2 b3 : Bool) : List Nat := (bif b0 then [] else [0]) ++ (bif b1 then [] else [1]) ++ (bif b2 then [] else [2]) ++ (bif b3 then [] else [3])
def cnt4 (b0 b1 b2 b3 : Bool) : Nat := (!b0).toNat + (!b1).toNat + (!b2).toNat + (!b3).toNat
/-- Four operations that may come up in any order, each of which keeps what is told of those that came up. -/
theorem wpAny_four (J : Bool → Bool → Bool → Bool → Act → World → Prop)
    (r : ∀ b0 b1 b2 b3, (b0 && b1 && b2 && b3) = false → Region.ready .any ops #[b0, b1, b2, b3, false, false, false] = rdy4 b0 b1 b2 b3)
    (s0 : ∀ b1 b2 b3 a w, J false b1 b2 b3 a w → wpOp P ops Q 0 (fun a' w' => J true b1 b2 b3 a' w') a w)
    (s1 : ∀ b0 b2 b3 a w, J b0 false b2 b3 a w → wpOp P ops Q 1 (fun a' w' => J b0 true b2 b3 a' w') a w)
    (s2 : ∀ b0 b1 b3 a w, J b0 b1 false b3 a w → wpOp P ops Q 2 (fun a' w' => J b0 b1 true b3 a' w') a w)
    (s3 : ∀ b0 b1 b2 a w, J b0 b1 b2 false a w → wpOp P ops Q 3 (fun a' w' => J b0 b1 b2 true a' w') a w)
    (fin : ∀ a w, J true true true true a w → wpAny P .any ops Q 3 #[true, true, true, true, false, false, false] a w) :
    ∀ (n : Nat) (b0 b1 b2 b3 : Bool), n = cnt4 b0 b1 b2 b3 → ∀ a w, J b0 b1 b2 b3 a w → wpAny P .any ops Q (n + 3) #[b0, b1, b2, b3, false, false, false] a w := by
  intro n
  induction n with
  | zero =>
    intro b0 b1 b2 b3 hn a w h
    cases b0 <;> cases b1 <;> cases b2 <;> cases b3 <;> first
      | exact fin a w h
      | exact absurd hn (by decide)
  | succ n ih =>
    intro b0 b1 b2 b3 hn a w h
    have hb : (b0 && b1 && b2 && b3) = false := by
      cases b0 <;> cases b1 <;> cases b2 <;> cases b3 <;> first
        | rfl
        | (simp [cnt4] at hn)
    have hr := r b0 b1 b2 b3 hb
    refine ⟨fun h0 => ?_, fun i hi => ?_⟩
    · rw [hr] at h0
      cases b0 <;> cases b1 <;> cases b2 <;> cases b3 <;> simp [rdy4] at h0 hb
    · rw [hr] at hi
      have h4 : (i = 0 ∧ b0 = false) ∨ (i = 1 ∧ b1 = false) ∨ (i = 2 ∧ b2 = false) ∨ (i = 3 ∧ b3 = false) := by
        cases b0 <;> cases b1 <;> cases b2 <;> cases b3 <;> simp [rdy4] at hi ⊢ <;> omega
      rcases h4 with ⟨rfl, rfl⟩ | ⟨rfl, rfl⟩ | ⟨rfl, rfl⟩ | ⟨rfl, rfl⟩
      · exact wpOp_mono (fun a' w' h' => ih true b1 b2 b3 (by simp [cnt4] at hn ⊢; omega) a' w' h') (s0 b1 b2 b3 a w h)
      · exact wpOp_mono (fun a' w' h' => ih b0 true b2 b3 (by simp [cnt4] at hn ⊢; omega) a' w' h') (s1 b0 b2 b3 a w h)
      · exact wpOp_mono (fun a' w' h' => ih b0 b1 true b3 (by simp [cnt4] at hn ⊢; omega) a' w' h') (s2 b0 b1 b3 a w h)
      · exact wpOp_mono (fun a' w' h' => ih b0 b1 b2 true (by simp [cnt4] at hn ⊢; omega) a' w' h') (s3 b0 b1 b2 a w h)
end
end Go.Proofs.YtfngaoicoecncaaDoor

namespace Go.Proofs.YtfngaoicoecncaaDoor
open Go.RowKit Go.Maps

theorem QsAt.addr {S : Nat → Prop} {w : World} {a : Option Addr} {n c : Nat} {js : List J} (h : QsAt S w a n c js) (hp : 0 < n) : ∃ b off vs, a = some ⟨b, off, none⟩ ∧ S b ∧ vs.length = n ∧ (∀ i u, vs[i]? = some u → w.cell? ⟨b, off + i, none⟩ = some u) ∧ GivesL S w vs js := by
  obtain ⟨vs, h1, h2, h3, h4, h5⟩ := h
  obtain ⟨u, hu⟩ := some_of_lt h1 hp
  obtain ⟨b, off, e, hS, -⟩ := h4 0 u hu
  refine ⟨b, off, vs, e, hS, h1, fun i v hv => ?_, h5⟩
  obtain ⟨b', off', e', -, hc⟩ := h4 i v hv
  rw [e] at e'
  cases e'
  exact hc
end Go.Proofs.YtfngaoicoecncaaDoor

namespace Go.Proofs.YtfngaoicoecncaaDoor
open Go.RowKit Go.Maps

set_option maxRecDepth 20000 in
set_option maxHeartbeats 2000000 in
theorem givensB_any {S : Nat → Prop} (a : Option Addr) (n c : Nat) (ts : List T) (w : World) (h : KidsAt S w a n c ts) (hF : ∀ t ∈ ts, FullT t) (hb : n ≤ 2147483647) :
    Calls Tryd.prog 31 #[.slice a n c] w fun r w' => ∃ g cap vs, r = .returned (.slice (some ⟨g, 0, none⟩) n cap) ∧ vs.length = n ∧ (∀ i u, vs[i]? = some u → w'.cell? ⟨g, 0 + i, none⟩ = some u) ∧ GivesL (fun b => S b ∧ b < w.heap.size) w' vs (ts.map jFull) ∧ Ext w w' := by
  have HK := Lib.hid h
  obtain ⟨hl, hn, hm, -⟩ := h
  unfold maxLen at hm
  have HL := Lib.hid hl
  have HF := Lib.hid hF
  clear hl hF
  go_enter Tryd.func31, Tryd.ntmps31
  go_wp2_with fail
  go_loopw [3, 9] (fun v i wr => Ext w wr ∧ ∃ (j : Nat) (vs : List Value) (g cap : Nat), j ≤ n ∧ i = .int .i64 j ∧ v = .slice (some ⟨g, 0, none⟩) j cap ∧ vs.length = j ∧ OwnV 62 wr w.heap.size (.slice (some ⟨g, 0, none⟩) j cap) vs ∧ GivesL (fun b => S b ∧ b < w.heap.size) wr vs ((ts.take j).map jFull)) (fun _ i _ => n - (intOf i).toNat)
  case atStart =>
    exact ⟨by (repeat (first | exact ext_refl _ | assumption | refine ext_alloc ?_ _ | refine ext_drew ?_ | refine ext_set ?_ (by simp) _ | refine ext_trans ?_ (by assumption))), 0, [], w.heap.size, 0, Nat.zero_le _, rfl, rfl, rfl, ⟨rfl, .inr ⟨w.heap.size, 0, #[], rfl, Nat.le_refl _, Box.at rfl _ _, Nat.le_refl _, by simp [maxLen], rfl, rfl⟩⟩, GivesL.nil _ _⟩
  case round =>
    obtain ⟨hx, j, vs, g0, cap0, hj, rfl, rfl, hvl, hO, hV⟩ := hrel
    have HO := Lib.hid hO
    have HV := Lib.hid hV
    have HVL := Lib.hid hvl
    have hg0 : w.heap.size ≤ g0 ∧ g0 < wr.heap.size := World.ownsRow.lt hO g0 rfl
    clear hO hV hvl
    by_cases hlt : j < n
    · obtain ⟨t, ht⟩ := some_of_lt HL.out hlt
      obtain ⟨b, off, ⟨k, x, d, y, ka, kn, kc, ca, m, cc⟩, rfl, -, hcell, hT⟩ := HK.out.get ht
      have hcell := CellsAt.ext hx hcell
      have hSc := Lib.hid (HF.out t (List.mem_of_getElem? ht))
      have HT := Lib.hid ht
      clear ht
      obtain ⟨c0, c1, c2, c3, c4, c5⟩ := hcell
      have hG := Lib.hid (given_gives (hT.to (S' := fun b => S b ∧ b < w.heap.size) (fun b h1 hb => ⟨h1, hb⟩)) hSc.out)
      clear hT
      have hsz := hx.sz
      have tokB := trivial
      go_wp2_with (first
        | (at_builtin; have _t := tokB; clear _t tokB; refine list_append_query _ rfl _ _ rfl w.heap.size (.slice (some ⟨g0, 0, none⟩) j cap0) vs rfl ((HO.out.ext (ext_alloc (ext_refl _) _)).ext (ext_alloc (ext_refl _) _)) (wr.heap.size + 1) 0 1 1 [.iface 69 (⟨k, x, d, y, ka, kn, kc, ca, m, cc⟩ : El).val] (by simp) rfl (fun u hu => by simp at hu; subst hu; rfl) rfl (fun i f hf => by
             cases i with
             | zero => simp at hf; subst hf; exact (Box.at (by simp) _ _).cell 0 _ rfl
             | succ i => simp at hf) (by have := HVL.out; simp; omega) (by simp; omega) ?_; intro g cap w4 hown hgrow hlies hglt)
        | fail)
      have hx5 : Ext w w4 := ext_grown (ext_alloc (ext_alloc hx _) _) hgrow (fun k hk => by simp only [Value.ownBlock, Option.some.injEq] at hk; omega)
      have hkp : Keeps (fun b => S b ∧ b < w.heap.size) wr w4 := fun q hq _ => (hx5.block q hq.2).trans (hx.block q hq.2).symm
      have hs4 : wr.heap.size ≤ w4.heap.size := by have := hgrow.size; simp at this; omega
      have hV5 := Lib.hid (GivesL.append (HV.out.keep (fun _ h _ => h) hkp hs4) (GivesL.one (hG.out.keep (fun _ h _ => h) (hx5.keeps _) hx5.sz)))
      have hown2 := Lib.hid hown
      clear hown hgrow hlies hkp
      go_roundw
      case rel =>
        refine ⟨hx5, j + 1, vs ++ [.iface 69 (⟨k, x, d, y, ka, kn, kc, ca, m, cc⟩ : El).val], g, cap, by omega, by go_num, by have := HVL.out; simp [this], by simp [HVL.out], by have := HVL.out; simpa [this] using hown2.out, ?_⟩
        rw [take_snoc HT.out, List.map_append]
        exact hV5.out
      case measure => simp [intOf]; omega
    · have hjn : j = n := by omega
      subst hjn
      have hfull : ts.take j = ts := List.take_of_length_le (by have := HL.out; omega)
      have hV := HV.out
      rw [hfull] at hV
      go_wp2_with fail
      go_ret
      have hcel : ∀ i u, vs[i]? = some u → wr.cell? ⟨g0, 0 + i, none⟩ = some u := fun i u hi => by
        obtain ⟨a, c, he, q1, q2, q3⟩ := HO.out.cells (S := fun _ => True) (fun _ _ => trivial)
        cases he
        obtain ⟨b, off, e, -, hc⟩ := q3 i u hi
        cases e
        exact hc
      exact ⟨g0, _, vs, rfl, HVL.out, hcel, hV, hx⟩
/-- The clauses that a value tells. -/
def clT (t : T) : List T := if t.kind = 4 then t.kids else [t]
set_option maxRecDepth 20000 in
set_option maxHeartbeats 2000000 in
theorem clauses_any {S : Nat → Prop} (e : El) (t : T) (w : World) (h : TreeAt S w e t) (hF : ∀ k ∈ clT t, FullT k) (hb : (clT t).length ≤ 2147483647) (hp : 0 < (clT t).length) :
    Calls Tryd.prog 14 #[e.val] w fun r w' => ∃ g n cap vs, r = .returned (.slice (some ⟨g, 0, none⟩) n cap) ∧ n = (clT t).length ∧ 0 < n ∧ vs.length = n ∧ (∀ i u, vs[i]? = some u → w'.cell? ⟨g, 0 + i, none⟩ = some u) ∧ GivesL (fun b => S b ∧ b < w.heap.size) w' vs ((clT t).map jFull) ∧ Ext w w' := by
  have hk := h.parts.1
  have hkids := h.parts.2.2.2.2.2
  have HT := Lib.hid h
  obtain ⟨k, x, d, y, ka, n, kc, ca, m, cc⟩ := e
  simp only at hk
  by_cases hk4 : t.kind = 4
  · have hcl : clT t = t.kids := if_pos hk4
    rw [hcl] at hF hb hp ⊢
    have hml : t.kids.length = m := hkids.1
    have hG := Lib.hid fun w' (xx : Ext w w') => givensB_any (S := fun b => S b ∧ b < w.heap.size) ca m cc t.kids w' (KidsAt.ext xx (hkids.keep (S' := fun b => S b ∧ b < w.heap.size) (fun b hS hb => ⟨hS, hb⟩) (fun _ _ _ => rfl))) hF (by omega)
    have HM := Lib.hid hml
    rw [hk4] at hk
    subst hk
    clear h hkids HT hF hml
    simp only [El.val]
    have hx1 : Ext w (w.alloc (.cells #[.int .i64 4, .string x, .float .f64 d, .bool y, .slice ka n kc, .slice ca m cc] 29)) := ext_alloc (ext_refl _) _
    go_enter Tryd.func14, Tryd.ntmps14
    go_wp2_with (first
      | (go_at_call 31; refine (hG.out _ hx1).mono ?_; rintro r w2 ⟨g, cap, vs, rfl, hvl, hvc, hV, hx⟩)
      | fail)
    go_ret
    have hM := HM.out
    exact ⟨g, m, cap, vs, rfl, hM.symm, by omega, hvl, hvc, hV.keep (fun b hb _ => hb.1) (fun _ _ _ => rfl) (Nat.le_refl _), ext_trans hx1 hx⟩
  · have hcl : clT t = [t] := if_neg hk4
    rw [hcl] at hF hb hp ⊢
    have hG := Lib.hid (given_gives (HT.out.to (S' := fun b => S b ∧ b < w.heap.size) (fun b h1 hb => ⟨h1, hb⟩)) (hF t (by simp)))
    rw [← hk] at hk4
    clear h hkids HT hk
    simp only [El.val]
    go_enter Tryd.func14, Tryd.ntmps14
    go_wp2_with fail
    go_ret
    refine ⟨_, 1, 1, [.iface 69 (⟨k, x, d, y, ka, n, kc, ca, m, cc⟩ : El).val], rfl, rfl, by omega, rfl, fun i u hu => ?_, ?_, ext_alloc (ext_alloc (ext_refl _) _) _⟩
    · cases i with
      | zero => simp at hu; subst hu; exact (Box.at (by simp) _ _).cell 0 _ rfl
      | succ i => simp at hu
    · exact GivesL.one (hG.out.ext (ext_alloc (ext_alloc (ext_refl _) _) _))
set_option maxRecDepth 20000 in
set_option maxHeartbeats 1000000 in
theorem boolMust_any {S : Nat → Prop} (w : World) (b base : Nat) (v : Value) (vs : List Value) (z0 z2 z3 z4 z5 z6 z7 z8 : Value) (js ks : List J) (hb : Box w b #[z0, v, z2, z3, z4, z5, z6, z7, z8] 66) (hO : OwnV 62 w base v vs) (hbase : base ≤ w.heap.size) (hne : v.ownBlock ≠ some b)
    (hS : ∀ q, S q → q ≠ b ∧ v.ownBlock ≠ some q) (hG : GivesL S w vs js) (qb n c : Nat) (us : List Value) (hul : us.length = n) (hp : 0 < n) (hn : vs.length + n ≤ 4398046511104) (hc : ∀ i u, us[i]? = some u → w.cell? ⟨qb, 0 + i, none⟩ = some u) (hU : GivesL S w us ks) :
    Calls Tryd.prog 13 #[.pointer (some ⟨b, 0, none⟩), .slice (some ⟨qb, 0, none⟩) n c] w fun r w' => r = .returned (.pointer (some ⟨b, 0, none⟩)) ∧ ∃ g cap, OwnV 62 w' base (.slice (some ⟨g, 0, none⟩) (vs.length + n) cap) (vs ++ us) ∧ GivesL S w' (vs ++ us) (js ++ ks) ∧
      Box w' b #[z0, .slice (some ⟨g, 0, none⟩) (vs.length + n) cap, z2, z3, z4, z5, z6, z7, z8] 66 ∧ Lies w v g ∧ g < w'.heap.size ∧ g ≠ b ∧ w.heap.size ≤ w'.heap.size ∧ Keeps (fun q => q ≠ b ∧ v.ownBlock ≠ some q) w w' ∧ (∀ base2 v2 vs2, OwnV 62 w base2 v2 vs2 → v2.ownBlock ≠ some b → (v2.ownBlock = none ∨ v2.ownBlock ≠ v.ownBlock) → OwnV 62 w' base2 v2 vs2) ∧ ∀ w0, Ext w0 w → w0.heap.size ≤ base → w0.heap.size ≤ b → Ext w0 w' := by
  have c0 := hb.cell 1 _ rfl
  have f0 := hb.free 1
  have hl := hb.lt
  have HC := Lib.hid hc
  have HO := Lib.hid hO
  have HG := Lib.hid (GivesL.append hG hU)
  clear hc hO
  go_enter Tryd.func13, Tryd.ntmps13
  have tokC := trivial
  go_wp2_with (first
    | (at_builtin; have _t := tokC; clear _t tokC; refine list_append_query _ rfl _ _ rfl base v vs rfl HO.out qb 0 n c us (by omega) hul hU.cells rfl HC.out (by omega) hbase ?_; intro g cap w1 hown hgrow hlies hglt
       have hb1 := hb.grown hgrow (fun e => hne e.symm)
       have c1 := hb1.cell 1 _ rfl
       have f1 := hb1.free 1
       have hBl := hb1.lt)
    | fail)
  go_ret
  have hgb : g ≠ b := by
    rcases hlies with h | h
    · intro e; subst e; exact hne h
    · omega
  have hsz : w.heap.size ≤ w1.heap.size := hgrow.size
  have hk1 : Keeps (fun q => q ≠ b ∧ v.ownBlock ≠ some q) w w1 := keeps_grown hgrow (fun q hq e => hq.2 e.symm)
  have hk2 : Keeps (fun q => q ≠ b) w1 (w1.setCell ⟨b, 1, none⟩ (.slice (some ⟨g, 0, none⟩) (vs.length + us.length) cap)) := fun q hq _ => Below.heap_setCell _ _ _ _ hq
  have hk : Keeps (fun q => q ≠ b ∧ v.ownBlock ≠ some q) w (w1.setCell ⟨b, 1, none⟩ (.slice (some ⟨g, 0, none⟩) (vs.length + us.length) cap)) := fun q hq hl2 => (hk2 q hq.1 (by omega)).trans (hk1 q hq hl2)
  subst hul
  refine ⟨rfl, g, cap, OwnV.grown hown (grown_set _ _ _) (.inr (by simp only [Value.ownBlock]; exact someNe hgb)), HG.out.keep (fun _ h _ => h) (fun q hq hl2 => hk q (hS q hq) hl2) (by simp; omega), hb1.set 1 _, hlies, by simpa using hglt, hgb, by simp; omega, hk, fun base2 v2 vs2 h1 h2 h3 => OwnV.grown (OwnV.grown h1 hgrow h3) (grown_set _ _ _) (.inr h2), ?_⟩
  intro w0 hx h1 h2
  exact ext_set (ext_grown hx hgrow (fun k hk => by have := HO.out.block (g := k) hk; omega)) h2 _
set_option maxRecDepth 20000 in
set_option maxHeartbeats 1000000 in
theorem boolMustNot_any {S : Nat → Prop} (w : World) (b base : Nat) (v : Value) (vs : List Value) (z0 z1 z3 z4 z5 z6 z7 z8 : Value) (js ks : List J) (hb : Box w b #[z0, z1, v, z3, z4, z5, z6, z7, z8] 66) (hO : OwnV 62 w base v vs) (hbase : base ≤ w.heap.size) (hne : v.ownBlock ≠ some b)
    (hS : ∀ q, S q → q ≠ b ∧ v.ownBlock ≠ some q) (hG : GivesL S w vs js) (qb n c : Nat) (us : List Value) (hul : us.length = n) (hp : 0 < n) (hn : vs.length + n ≤ 4398046511104) (hc : ∀ i u, us[i]? = some u → w.cell? ⟨qb, 0 + i, none⟩ = some u) (hU : GivesL S w us ks) :
    Calls Tryd.prog 15 #[.pointer (some ⟨b, 0, none⟩), .slice (some ⟨qb, 0, none⟩) n c] w fun r w' => r = .returned (.pointer (some ⟨b, 0, none⟩)) ∧ ∃ g cap, OwnV 62 w' base (.slice (some ⟨g, 0, none⟩) (vs.length + n) cap) (vs ++ us) ∧ GivesL S w' (vs ++ us) (js ++ ks) ∧
      Box w' b #[z0, z1, .slice (some ⟨g, 0, none⟩) (vs.length + n) cap, z3, z4, z5, z6, z7, z8] 66 ∧ Lies w v g ∧ g < w'.heap.size ∧ g ≠ b ∧ w.heap.size ≤ w'.heap.size ∧ Keeps (fun q => q ≠ b ∧ v.ownBlock ≠ some q) w w' ∧ (∀ base2 v2 vs2, OwnV 62 w base2 v2 vs2 → v2.ownBlock ≠ some b → (v2.ownBlock = none ∨ v2.ownBlock ≠ v.ownBlock) → OwnV 62 w' base2 v2 vs2) ∧ ∀ w0, Ext w0 w → w0.heap.size ≤ base → w0.heap.size ≤ b → Ext w0 w' := by
  have c0 := hb.cell 2 _ rfl
  have f0 := hb.free 2
  have hl := hb.lt
  have HC := Lib.hid hc
  have HO := Lib.hid hO
  have HG := Lib.hid (GivesL.append hG hU)
  clear hc hO
  go_enter Tryd.func15, Tryd.ntmps15
  have tokC := trivial
  go_wp2_with (first
    | (at_builtin; have _t := tokC; clear _t tokC; refine list_append_query _ rfl _ _ rfl base v vs rfl HO.out qb 0 n c us (by omega) hul hU.cells rfl HC.out (by omega) hbase ?_; intro g cap w1 hown hgrow hlies hglt
       have hb1 := hb.grown hgrow (fun e => hne e.symm)
       have c1 := hb1.cell 2 _ rfl
       have f1 := hb1.free 2
       have hBl := hb1.lt)
    | fail)
  go_ret
  have hgb : g ≠ b := by
    rcases hlies with h | h
    · intro e; subst e; exact hne h
    · omega
  have hsz : w.heap.size ≤ w1.heap.size := hgrow.size
  have hk1 : Keeps (fun q => q ≠ b ∧ v.ownBlock ≠ some q) w w1 := keeps_grown hgrow (fun q hq e => hq.2 e.symm)
  have hk2 : Keeps (fun q => q ≠ b) w1 (w1.setCell ⟨b, 2, none⟩ (.slice (some ⟨g, 0, none⟩) (vs.length + us.length) cap)) := fun q hq _ => Below.heap_setCell _ _ _ _ hq
  have hk : Keeps (fun q => q ≠ b ∧ v.ownBlock ≠ some q) w (w1.setCell ⟨b, 2, none⟩ (.slice (some ⟨g, 0, none⟩) (vs.length + us.length) cap)) := fun q hq hl2 => (hk2 q hq.1 (by omega)).trans (hk1 q hq hl2)
  subst hul
  refine ⟨rfl, g, cap, OwnV.grown hown (grown_set _ _ _) (.inr (by simp only [Value.ownBlock]; exact someNe hgb)), HG.out.keep (fun _ h _ => h) (fun q hq hl2 => hk q (hS q hq) hl2) (by simp; omega), hb1.set 2 _, hlies, by simpa using hglt, hgb, by simp; omega, hk, fun base2 v2 vs2 h1 h2 h3 => OwnV.grown (OwnV.grown h1 hgrow h3) (grown_set _ _ _) (.inr h2), ?_⟩
  intro w0 hx h1 h2
  exact ext_set (ext_grown hx hgrow (fun k hk => by have := HO.out.block (g := k) hk; omega)) h2 _
set_option maxRecDepth 20000 in
set_option maxHeartbeats 1000000 in
theorem boolFilter_any {S : Nat → Prop} (w : World) (b base : Nat) (v : Value) (vs : List Value) (z0 z1 z2 z4 z5 z6 z7 z8 : Value) (js ks : List J) (hb : Box w b #[z0, z1, z2, v, z4, z5, z6, z7, z8] 66) (hO : OwnV 62 w base v vs) (hbase : base ≤ w.heap.size) (hne : v.ownBlock ≠ some b)
    (hS : ∀ q, S q → q ≠ b ∧ v.ownBlock ≠ some q) (hG : GivesL S w vs js) (qb n c : Nat) (us : List Value) (hul : us.length = n) (hp : 0 < n) (hn : vs.length + n ≤ 4398046511104) (hc : ∀ i u, us[i]? = some u → w.cell? ⟨qb, 0 + i, none⟩ = some u) (hU : GivesL S w us ks) :
    Calls Tryd.prog 17 #[.pointer (some ⟨b, 0, none⟩), .slice (some ⟨qb, 0, none⟩) n c] w fun r w' => r = .returned (.pointer (some ⟨b, 0, none⟩)) ∧ ∃ g cap, OwnV 62 w' base (.slice (some ⟨g, 0, none⟩) (vs.length + n) cap) (vs ++ us) ∧ GivesL S w' (vs ++ us) (js ++ ks) ∧
      Box w' b #[z0, z1, z2, .slice (some ⟨g, 0, none⟩) (vs.length + n) cap, z4, z5, z6, z7, z8] 66 ∧ Lies w v g ∧ g < w'.heap.size ∧ g ≠ b ∧ w.heap.size ≤ w'.heap.size ∧ Keeps (fun q => q ≠ b ∧ v.ownBlock ≠ some q) w w' ∧ (∀ base2 v2 vs2, OwnV 62 w base2 v2 vs2 → v2.ownBlock ≠ some b → (v2.ownBlock = none ∨ v2.ownBlock ≠ v.ownBlock) → OwnV 62 w' base2 v2 vs2) ∧ ∀ w0, Ext w0 w → w0.heap.size ≤ base → w0.heap.size ≤ b → Ext w0 w' := by
  have c0 := hb.cell 3 _ rfl
  have f0 := hb.free 3
  have hl := hb.lt
  have HC := Lib.hid hc
  have HO := Lib.hid hO
  have HG := Lib.hid (GivesL.append hG hU)
  clear hc hO
  go_enter Tryd.func17, Tryd.ntmps17
  have tokC := trivial
  go_wp2_with (first
    | (at_builtin; have _t := tokC; clear _t tokC; refine list_append_query _ rfl _ _ rfl base v vs rfl HO.out qb 0 n c us (by omega) hul hU.cells rfl HC.out (by omega) hbase ?_; intro g cap w1 hown hgrow hlies hglt
       have hb1 := hb.grown hgrow (fun e => hne e.symm)
       have c1 := hb1.cell 3 _ rfl
       have f1 := hb1.free 3
       have hBl := hb1.lt)
    | fail)
  go_ret
  have hgb : g ≠ b := by
    rcases hlies with h | h
    · intro e; subst e; exact hne h
    · omega
  have hsz : w.heap.size ≤ w1.heap.size := hgrow.size
  have hk1 : Keeps (fun q => q ≠ b ∧ v.ownBlock ≠ some q) w w1 := keeps_grown hgrow (fun q hq e => hq.2 e.symm)
  have hk2 : Keeps (fun q => q ≠ b) w1 (w1.setCell ⟨b, 3, none⟩ (.slice (some ⟨g, 0, none⟩) (vs.length + us.length) cap)) := fun q hq _ => Below.heap_setCell _ _ _ _ hq
  have hk : Keeps (fun q => q ≠ b ∧ v.ownBlock ≠ some q) w (w1.setCell ⟨b, 3, none⟩ (.slice (some ⟨g, 0, none⟩) (vs.length + us.length) cap)) := fun q hq hl2 => (hk2 q hq.1 (by omega)).trans (hk1 q hq hl2)
  subst hul
  refine ⟨rfl, g, cap, OwnV.grown hown (grown_set _ _ _) (.inr (by simp only [Value.ownBlock]; exact someNe hgb)), HG.out.keep (fun _ h _ => h) (fun q hq hl2 => hk q (hS q hq) hl2) (by simp; omega), hb1.set 3 _, hlies, by simpa using hglt, hgb, by simp; omega, hk, fun base2 v2 vs2 h1 h2 h3 => OwnV.grown (OwnV.grown h1 hgrow h3) (grown_set _ _ _) (.inr h2), ?_⟩
  intro w0 hx h1 h2
  exact ext_set (ext_grown hx hgrow (fun k hk => by have := HO.out.block (g := k) hk; omega)) h2 _
set_option maxRecDepth 20000 in
set_option maxHeartbeats 1000000 in
theorem boolShould_any {S : Nat → Prop} (w : World) (b base : Nat) (v : Value) (vs : List Value) (z0 z1 z2 z3 z5 z6 z7 z8 : Value) (js ks : List J) (hb : Box w b #[z0, z1, z2, z3, v, z5, z6, z7, z8] 66) (hO : OwnV 62 w base v vs) (hbase : base ≤ w.heap.size) (hne : v.ownBlock ≠ some b)
    (hS : ∀ q, S q → q ≠ b ∧ v.ownBlock ≠ some q) (hG : GivesL S w vs js) (qb n c : Nat) (us : List Value) (hul : us.length = n) (hp : 0 < n) (hn : vs.length + n ≤ 4398046511104) (hc : ∀ i u, us[i]? = some u → w.cell? ⟨qb, 0 + i, none⟩ = some u) (hU : GivesL S w us ks) :
    Calls Tryd.prog 16 #[.pointer (some ⟨b, 0, none⟩), .slice (some ⟨qb, 0, none⟩) n c] w fun r w' => r = .returned (.pointer (some ⟨b, 0, none⟩)) ∧ ∃ g cap, OwnV 62 w' base (.slice (some ⟨g, 0, none⟩) (vs.length + n) cap) (vs ++ us) ∧ GivesL S w' (vs ++ us) (js ++ ks) ∧
      Box w' b #[z0, z1, z2, z3, .slice (some ⟨g, 0, none⟩) (vs.length + n) cap, z5, z6, z7, z8] 66 ∧ Lies w v g ∧ g < w'.heap.size ∧ g ≠ b ∧ w.heap.size ≤ w'.heap.size ∧ Keeps (fun q => q ≠ b ∧ v.ownBlock ≠ some q) w w' ∧ (∀ base2 v2 vs2, OwnV 62 w base2 v2 vs2 → v2.ownBlock ≠ some b → (v2.ownBlock = none ∨ v2.ownBlock ≠ v.ownBlock) → OwnV 62 w' base2 v2 vs2) ∧ ∀ w0, Ext w0 w → w0.heap.size ≤ base → w0.heap.size ≤ b → Ext w0 w' := by
  have c0 := hb.cell 4 _ rfl
  have f0 := hb.free 4
  have hl := hb.lt
  have HC := Lib.hid hc
  have HO := Lib.hid hO
  have HG := Lib.hid (GivesL.append hG hU)
  clear hc hO
  go_enter Tryd.func16, Tryd.ntmps16
  have tokC := trivial
  go_wp2_with (first
    | (at_builtin; have _t := tokC; clear _t tokC; refine list_append_query _ rfl _ _ rfl base v vs rfl HO.out qb 0 n c us (by omega) hul hU.cells rfl HC.out (by omega) hbase ?_; intro g cap w1 hown hgrow hlies hglt
       have hb1 := hb.grown hgrow (fun e => hne e.symm)
       have c1 := hb1.cell 4 _ rfl
       have f1 := hb1.free 4
       have hBl := hb1.lt)
    | fail)
  go_ret
  have hgb : g ≠ b := by
    rcases hlies with h | h
    · intro e; subst e; exact hne h
    · omega
  have hsz : w.heap.size ≤ w1.heap.size := hgrow.size
  have hk1 : Keeps (fun q => q ≠ b ∧ v.ownBlock ≠ some q) w w1 := keeps_grown hgrow (fun q hq e => hq.2 e.symm)
  have hk2 : Keeps (fun q => q ≠ b) w1 (w1.setCell ⟨b, 4, none⟩ (.slice (some ⟨g, 0, none⟩) (vs.length + us.length) cap)) := fun q hq _ => Below.heap_setCell _ _ _ _ hq
  have hk : Keeps (fun q => q ≠ b ∧ v.ownBlock ≠ some q) w (w1.setCell ⟨b, 4, none⟩ (.slice (some ⟨g, 0, none⟩) (vs.length + us.length) cap)) := fun q hq hl2 => (hk2 q hq.1 (by omega)).trans (hk1 q hq hl2)
  subst hul
  refine ⟨rfl, g, cap, OwnV.grown hown (grown_set _ _ _) (.inr (by simp only [Value.ownBlock]; exact someNe hgb)), HG.out.keep (fun _ h _ => h) (fun q hq hl2 => hk q (hS q hq) hl2) (by simp; omega), hb1.set 4 _, hlies, by simpa using hglt, hgb, by simp; omega, hk, fun base2 v2 vs2 h1 h2 h3 => OwnV.grown (OwnV.grown h1 hgrow h3) (grown_set _ _ _) (.inr h2), ?_⟩
  intro w0 hx h1 h2
  exact ext_set (ext_grown hx hgrow (fun k hk => by have := HO.out.block (g := k) hk; omega)) h2 _
def mkQV (b : Bool) (g : Nat) : Value := bif b then .slice (some ⟨g, 0, none⟩) 0 0 else undef
def BJ (w0 w : World) (b0 b1 b2 b3 : Bool) (g0 g1 g2 g3 : Nat) : Prop :=
  Ext w0 w ∧ (b0 = true → Box w g0 #[] 62 ∧ w0.heap.size ≤ g0) ∧ (b1 = true → Box w g1 #[] 62 ∧ w0.heap.size ≤ g1) ∧ (b2 = true → Box w g2 #[] 62 ∧ w0.heap.size ≤ g2) ∧ (b3 = true → Box w g3 #[] 62 ∧ w0.heap.size ≤ g3) ∧ (b0 = true → b1 = true → g0 ≠ g1) ∧ (b0 = true → b2 = true → g0 ≠ g2) ∧ (b0 = true → b3 = true → g0 ≠ g3) ∧ (b1 = true → b2 = true → g1 ≠ g2) ∧ (b1 = true → b3 = true → g1 ≠ g3) ∧ (b2 = true → b3 = true → g2 ≠ g3)
theorem BJ.s0 {w0 w : World} {b1 b2 b3 : Bool} {g0 g1 g2 g3 : Nat} (h : BJ w0 w false b1 b2 b3 g0 g1 g2 g3) : BJ w0 (w.alloc (.cells #[] 62)) true b1 b2 b3 w.heap.size g1 g2 g3 := by
  obtain ⟨x, -, h1, h2, h3, -, -, -, d12, d13, d23⟩ := h
  exact ⟨ext_alloc x _, fun _ => ⟨Box.at rfl _ _, x.sz⟩, fun e => ⟨(h1 e).1.alloc _, (h1 e).2⟩, fun e => ⟨(h2 e).1.alloc _, (h2 e).2⟩, fun e => ⟨(h3 e).1.alloc _, (h3 e).2⟩, fun _ e => by have := (h1 e).1.lt; omega, fun _ e => by have := (h2 e).1.lt; omega, fun _ e => by have := (h3 e).1.lt; omega, d12, d13, d23⟩
theorem BJ.s1 {w0 w : World} {b0 b2 b3 : Bool} {g0 g1 g2 g3 : Nat} (h : BJ w0 w b0 false b2 b3 g0 g1 g2 g3) : BJ w0 (w.alloc (.cells #[] 62)) b0 true b2 b3 g0 w.heap.size g2 g3 := by
  obtain ⟨x, h0, -, h2, h3, -, d02, d03, -, -, d23⟩ := h
  exact ⟨ext_alloc x _, fun e => ⟨(h0 e).1.alloc _, (h0 e).2⟩, fun _ => ⟨Box.at rfl _ _, x.sz⟩, fun e => ⟨(h2 e).1.alloc _, (h2 e).2⟩, fun e => ⟨(h3 e).1.alloc _, (h3 e).2⟩, fun e _ => by have := (h0 e).1.lt; omega, d02, d03, fun _ e => by have := (h2 e).1.lt; omega, fun _ e => by have := (h3 e).1.lt; omega, d23⟩
theorem BJ.s2 {w0 w : World} {b0 b1 b3 : Bool} {g0 g1 g2 g3 : Nat} (h : BJ w0 w b0 b1 false b3 g0 g1 g2 g3) : BJ w0 (w.alloc (.cells #[] 62)) b0 b1 true b3 g0 g1 w.heap.size g3 := by
  obtain ⟨x, h0, h1, -, h3, d01, -, d03, -, d13, -⟩ := h
  exact ⟨ext_alloc x _, fun e => ⟨(h0 e).1.alloc _, (h0 e).2⟩, fun e => ⟨(h1 e).1.alloc _, (h1 e).2⟩, fun _ => ⟨Box.at rfl _ _, x.sz⟩, fun e => ⟨(h3 e).1.alloc _, (h3 e).2⟩, d01, fun e _ => by have := (h0 e).1.lt; omega, d03, fun e _ => by have := (h1 e).1.lt; omega, d13, fun _ e => by have := (h3 e).1.lt; omega⟩
theorem BJ.s3 {w0 w : World} {b0 b1 b2 : Bool} {g0 g1 g2 g3 : Nat} (h : BJ w0 w b0 b1 b2 false g0 g1 g2 g3) : BJ w0 (w.alloc (.cells #[] 62)) b0 b1 b2 true g0 g1 g2 w.heap.size := by
  obtain ⟨x, h0, h1, h2, -, d01, d02, -, d12, -, -⟩ := h
  exact ⟨ext_alloc x _, fun e => ⟨(h0 e).1.alloc _, (h0 e).2⟩, fun e => ⟨(h1 e).1.alloc _, (h1 e).2⟩, fun e => ⟨(h2 e).1.alloc _, (h2 e).2⟩, fun _ => ⟨Box.at rfl _ _, x.sz⟩, d01, d02, fun e _ => by have := (h0 e).1.lt; omega, d12, fun e _ => by have := (h1 e).1.lt; omega, fun e _ => by have := (h2 e).1.lt; omega⟩
@[go_sem] theorem mk0b (w : World) : (Instr.makeSlice 43 (.int .i64 0) (.int .i64 0)).run Tryd.prog w = .ok (.slice (some ⟨w.heap.size, 0, none⟩) 0 0) (w.alloc (.cells #[] 62)) := by kernel_rfl
set_option maxRecDepth 20000 in
set_option maxHeartbeats 4000000 in
theorem newBool_any (w : World) : Calls Tryd.prog 12 #[] w fun r w' => ∃ g0 g1 g2 g3 b, r = .returned (.pointer (some ⟨b, 0, none⟩)) ∧ BJ w w' true true true true g0 g1 g2 g3 ∧ w.heap.size ≤ b ∧ g0 < b ∧ g1 < b ∧ g2 < b ∧ g3 < b ∧
    Box w' b #[.nilIface, .slice (some ⟨g0, 0, none⟩) 0 0, .slice (some ⟨g1, 0, none⟩) 0 0, .slice (some ⟨g2, 0, none⟩) 0 0, .slice (some ⟨g3, 0, none⟩) 0 0, .pointer none, .string ⟨#[]⟩, .pointer none, .string ⟨#[]⟩] 66 := by
  go_enter Tryd.func12, Tryd.ntmps12
  go_upto_region 1 with fail
  refine wp_region_any (by kernel_rfl) ?_
  refine wpAny_four (fun b0 b1 b2 b3 a' w' => ∃ g0 g1 g2 g3, BJ w w' b0 b1 b2 b3 g0 g1 g2 g3 ∧ a' = ⟨#[.pointer none, mkQV b0 g0, mkQV b1 g1, mkQV b2 g2, mkQV b3 g3, undef, undef], []⟩)
    (by intro b0 b1 b2 b3 h; cases b0 <;> cases b1 <;> cases b2 <;> cases b3 <;> first | (exact absurd h (by decide)) | kernel_rfl) ?_ ?_ ?_ ?_ ?_ 4 false false false false rfl _ _ ⟨0, 0, 0, 0, ⟨ext_drew (ext_refl _), by simp, by simp, by simp, by simp, by simp, by simp, by simp, by simp, by simp, by simp⟩, rfl⟩
  · rintro b1 b2 b3 a' w' ⟨g0, g1, g2, g3, hM, rfl⟩
    refine op_loud rfl rfl ?_
    go_simp
    exact ⟨w'.heap.size, g1, g2, g3, hM.s0, rfl, rfl, rfl, rfl⟩
  · rintro b0 b2 b3 a' w' ⟨g0, g1, g2, g3, hM, rfl⟩
    refine op_loud rfl rfl ?_
    go_simp
    exact ⟨g0, w'.heap.size, g2, g3, hM.s1, rfl, rfl, rfl, rfl⟩
  · rintro b0 b1 b3 a' w' ⟨g0, g1, g2, g3, hM, rfl⟩
    refine op_loud rfl rfl ?_
    go_simp
    exact ⟨g0, g1, w'.heap.size, g3, hM.s2, rfl, rfl, rfl, rfl⟩
  · rintro b0 b1 b2 a' w' ⟨g0, g1, g2, g3, hM, rfl⟩
    refine op_loud rfl rfl ?_
    go_simp
    exact ⟨g0, g1, g2, w'.heap.size, hM.s3, rfl, rfl, rfl, rfl⟩
  · rintro a' w' ⟨g0, g1, g2, g3, hM, rfl⟩
    refine wpAny_of_N _ _ _ _ (wpAnyN_of_order (S := fun _ => True) (held := [4, 6]) (by kernel_rfl) (fun d _ _ _ _ h => by cases d <;> exact h) [4, 5, 6] _ _ _ (by kernel_rfl) ?_)
    have hS : (fun _ : World => True) w' := trivial
    simp only [mkQV, cond_true]
    (apply ord_held rfl rfl (by assumption) rfl; (focus ((intro w' hS'); go_simp; (try with_reducible rfl))); (try simp only [Act.put, List.setIfInBounds_toArray, List.set_cons_zero, List.set_cons_succ]))
    (apply ord_loud rfl rfl rfl; intro K hK; go_simp)
    refine hK _ _ (fun _ => trivial) ?_
    clear hK K
    (try simp only [Act.put, List.setIfInBounds_toArray, List.set_cons_zero, List.set_cons_succ])
    (apply ord_held rfl rfl (by assumption) rfl; (focus ((intro w' hS'); go_simp; (try with_reducible rfl))); (try simp only [Act.put, List.setIfInBounds_toArray, List.set_cons_zero, List.set_cons_succ]))
    refine ord_end ?_
    go_wp2_with fail
    go_ret
    have hM2 := hM
    obtain ⟨x, h0, h1, h2, h3, d01, d02, d03, d12, d13, d23⟩ := hM2
    have l0 := (h0 rfl).1.lt
    have l1 := (h1 rfl).1.lt
    have l2 := (h2 rfl).1.lt
    have l3 := (h3 rfl).1.lt
    refine ⟨g0, g1, g2, g3, w'.heap.size, rfl, ⟨ext_alloc x _, fun e => ⟨(h0 e).1.alloc _, (h0 e).2⟩, fun e => ⟨(h1 e).1.alloc _, (h1 e).2⟩, fun e => ⟨(h2 e).1.alloc _, (h2 e).2⟩, fun e => ⟨(h3 e).1.alloc _, (h3 e).2⟩, d01, d02, d03, d12, d13, d23⟩, x.sz, l0, l1, l2, l3, Box.at rfl _ _⟩
end Go.Proofs.YtfngaoicoecncaaDoor

namespace Go.Proofs.YtfngaoicoecncaaDoor
open Go.RowKit

abbrev s_q : ByteArray := ⟨#[113]⟩
/-- A query, or a list of queries. -/
def QueryP (t : T) : Prop := (t.kind = 5 ∧ ProperT t) ∨ (t.kind = 4 ∧ (∀ k ∈ t.kids, k.kind = 5 ∧ ProperT k) ∧ 0 < t.kids.length)
set_option maxRecDepth 4000 in
set_option maxHeartbeats 800000 in
theorem fit_query {S : Nat → Prop} (e : El) (t : T) (w : World) (h : TreeAt S w e t) : Calls Tryd.prog 9 #[.string s_q, e.val] w (Yes (QueryP t) w) := by
  have hk := h.parts.1
  have hkids := h.parts.2.2.2.2.2
  have hQ := Lib.hid fun w' (x : Ext w w') => query_any e t w' (h.ext x)
  obtain ⟨k, x, d, y, ka, n, kc, ca, m, cc⟩ := e
  have hQs := Lib.hid fun w' (x : Ext w w') => queries_any ca m cc t.kids w' (hkids.ext x)
  simp only at hk
  have HK := Lib.hid hk
  clear h hkids hk
  simp only [El.val] at hQ ⊢
  have hb0 : Box (w.alloc (.cells #[.int .i64 k, .string x, .float .f64 d, .bool y, .slice ka n kc, .slice ca m cc] 29)) w.heap.size _ _ := Box.at rfl _ _
  go_enter Tryd.func9, Tryd.ntmps9
  by_cases hk4 : k = 4
  · subst hk4
    go_wp2_with (first
      | (go_at_call 26; refine (hQ.out _ (by (repeat (first | exact ext_refl _ | assumption | refine ext_alloc ?_ _ | refine ext_drew ?_ | refine ext_set ?_ (by simp) _ | refine ext_trans ?_ (by assumption))))).mono ?_; rintro r w2 ⟨b, rfl, hb, hx⟩; have HB := Lib.hid hb; clear hb; obtain ⟨o0, o1, o2, o3, o4, o5⟩ := (hb0.ext hx).six; have hx1 := ext_trans (show Ext w (w.alloc (.cells #[.int .i64 4, .string x, .float .f64 d, .bool y, .slice ka n kc, .slice ca m cc] 29)) from ext_alloc (ext_refl _) _) hx; cases b)
      | (go_at_call 27; refine (hQs.out _ hx1).mono ?_; rintro r w3 ⟨b2, rfl, hb2, hx2⟩; have HB2 := Lib.hid hb2; clear hb2))
    · go_ret
      exact ⟨_, rfl, fun he => .inr ⟨HK.out.symm, HB2.out (by simpa using he)⟩, ext_trans hx1 hx2⟩
    · go_ret
      exact ⟨true, rfl, fun _ => .inl (HB.out (by trivial)), hx1⟩
  · go_wp2_with (first
      | (go_at_call 26; refine (hQ.out _ (by (repeat (first | exact ext_refl _ | assumption | refine ext_alloc ?_ _ | refine ext_drew ?_ | refine ext_set ?_ (by simp) _ | refine ext_trans ?_ (by assumption))))).mono ?_; rintro r w2 ⟨b, rfl, hb, hx⟩; have HB := Lib.hid hb; clear hb; obtain ⟨o0, o1, o2, o3, o4, o5⟩ := (hb0.ext hx).six; have hx1 := ext_trans (show Ext w (w.alloc (.cells #[.int .i64 k, .string x, .float .f64 d, .bool y, .slice ka n kc, .slice ca m cc] 29)) from ext_alloc (ext_refl _) _) hx; cases b)
      | fail)
    · go_ret
      exact ⟨false, rfl, by simp, hx1⟩
    · go_ret
      exact ⟨true, rfl, fun _ => .inl (HB.out (by trivial)), hx1⟩
def FitB (kind : ByteArray) (t : T) : Prop := (kind = s_q ∧ QueryP t) ∨ (kind ≠ s_q ∧ FitP kind t)
theorem fitB_at {S : Nat → Prop} (kind : ByteArray) (e : El) (t : T) (w : World) (hk : kind = emptyS ∨ kind = s_q ∨ kind ∈ plainK) (h : TreeAt S w e t) : Calls Tryd.prog 9 #[.string kind, e.val] w (Yes (FitB kind t) w) := by
  by_cases hq : kind = s_q
  · subst hq
    refine (fit_query e t w h).mono fun r w' ⟨b, h1, h2, h3⟩ => ⟨b, h1, fun hb => .inl ⟨rfl, h2 hb⟩, h3⟩
  · refine (fit_at kind e t w (hk.elim .inl fun hk => hk.elim (fun e => absurd e hq) .inr) h).mono fun r w' ⟨b, h1, h2, h3⟩ => ⟨b, h1, fun hb => .inr ⟨hq, h2 hb⟩, h3⟩
theorem kindB_mem {rs : List (ByteArray × ByteArray)} (h : ∀ r ∈ rs, r.2 = s_q ∨ r.2 ∈ plainK) (name : ByteArray) : kindL rs name = emptyS ∨ kindL rs name = s_q ∨ kindL rs name ∈ plainK := by
  unfold kindL
  cases hf : rs.find? fun r => seq r.1 name with
  | none => exact .inl rfl
  | some r => exact .inr (h r (List.mem_of_find?_eq_some hf))
def FitsB (rs : List (ByteArray × ByteArray)) (ps : List (ByteArray × T)) : Prop := ∀ (i : Nat) (p : ByteArray × T), ps[i]? = some p → FitB (kindL rs p.1) p.2
set_option maxHeartbeats 1000000 in
theorem fitsB_any {S : Nat → Prop} (bd : ByteArray) (rs : List (ByteArray × ByteArray)) (a : Option Addr) (n c : Nat) (ps : List (ByteArray × T)) (w : World) (hR : ∀ w, Calls Tryd.prog 30 #[.string bd] w fun r w' => ∃ v, r = .returned v ∧ Own2 w' w.heap.size v rs ∧ Ext w w')
    (hrs : ∀ r ∈ rs, (r.2 = s_q ∨ r.2 ∈ plainK)) (h : PairsAt S w a n c ps) : Calls Tryd.prog 4 #[.string bd, .slice a n c] w (Yes (FitsB rs ps) w) := by
  have HR := Lib.hid fun name w => kindIn_any bd name rs w hR
  have HRS := Lib.hid hrs
  obtain ⟨hl, hn, hm, hc⟩ := h
  unfold maxLen at hm
  have HL := Lib.hid hl
  clear hR hrs hl
  go_enter Tryd.func4, Tryd.ntmps4
  go_wp2_with fail
  go_loopw [5] (fun i wr => Ext w wr ∧ ∃ j : Nat, j ≤ n ∧ i = .int .i64 j ∧ ∀ (q : Nat) (p : ByteArray × T), q < j → ps[q]? = some p → FitB (kindL rs p.1) p.2) (fun i _ => n - (intOf i).toNat)
  case atStart => exact ⟨ext_refl _, 0, Nat.zero_le _, rfl, fun q p h => by omega⟩
  case round =>
    obtain ⟨hx, j, hj, rfl, hq⟩ := hrel
    have HQ := Lib.hid hq
    clear hq
    by_cases hlt : j < n
    · obtain ⟨p, hp⟩ := some_of_lt HL.out hlt
      obtain ⟨b, off, g, rfl, hSb, hc7, hT⟩ := hc j p hp
      have HJ := Lib.hid hp
      have hc7 := Cells7.ext hx hc7
      have hT := hT.ext hx
      clear hp
      go_upto_region 4 with fail
      refine wp_region_order (fun w' => Cells7 w' b (off + j * 7) p.1 g) [0, 1, 2, 3, 4, 5, 7, 8, 9, 10, 11] [0, 1, 2, 3, 4, 5, 7, 8, 9, 10, 11, 6, 12, 13] (by kernel_rfl) (by kernel_rfl) (fun d _ _ _ _ h => by cases d <;> exact h) (by kernel_rfl) ?_
      have hS : Cells7 wr.drew b (off + j * 7) p.1 g := hc7
      iterate 11 (apply ord_held rfl rfl (by assumption) rfl; (focus ((intro w' hS'); go_simp; (try with_reducible rfl))); (try simp only [Act.put, List.setIfInBounds_toArray, List.set_cons_zero, List.set_cons_succ]))
      (apply ord_loud rfl rfl rfl; intro K hK; go_simp)
      refine (HR.out p.1 _).mono ?_
      rintro r w2 ⟨rfl, hx2⟩
      have hx3 : Ext wr w2 := ext_trans (ext_drew (ext_refl _)) hx2
      refine hK _ _ (fun _ => Cells7.ext hx3 hc7) ?_
      clear hK K
      (try simp only [Act.put, List.setIfInBounds_toArray, List.set_cons_zero, List.set_cons_succ])
      (apply ord_loud rfl rfl rfl; intro K hK; go_simp)
      refine (fitB_at (kindL rs p.1) g p.2 _ (kindB_mem HRS.out _) (hT.ext hx3)).mono ?_
      rintro r w3 ⟨v, rfl, hv, hx4⟩
      refine hK _ _ (fun _ => Cells7.ext (ext_trans hx3 hx4) hc7) ?_
      clear hK K
      (try simp only [Act.put, List.setIfInBounds_toArray, List.set_cons_zero, List.set_cons_succ])
      (apply ord_loud rfl rfl rfl; intro K hK; go_simp)
      refine hK _ _ (fun _ => Cells7.ext (ext_trans hx3 hx4) hc7) ?_
      clear hK K
      (try simp only [Act.put, List.setIfInBounds_toArray, List.set_cons_zero, List.set_cons_succ])
      refine ord_end ?_
      have hx5 : Ext w w3 := ext_trans hx (ext_trans hx3 hx4)
      have HV := Lib.hid hv
      clear hv hS
      cases v
      · go_wp2_with fail
        go_ret
        exact ⟨false, rfl, by simp, hx5⟩
      · go_wp2_with fail
        go_roundw
        case rel =>
          refine ⟨hx5, j + 1, by omega, by go_num, fun q u h1 h2 => ?_⟩
          by_cases hqj : q < j
          · exact HQ.out q u hqj h2
          · have hqe : q = j := by omega
            subst hqe
            rw [HJ.out] at h2
            cases h2
            exact HV.out rfl
        case measure => simp [intOf]; omega
    · go_wp2_with fail
      go_ret
      refine ⟨true, rfl, fun _ i p hi => HQ.out i p ?_ hi, hx⟩
      have := (List.getElem?_eq_some_iff.1 hi).1
      have := HL.out
      omega
end Go.Proofs.YtfngaoicoecncaaDoor

namespace Go.Proofs.YtfngaoicoecncaaDoor
open Go.RowKit

abbrev s_bool : ByteArray := ⟨#[98, 111, 111, 108]⟩
/-- Clauses under a name: none, one alone, or a list. -/
def jQ (k : ByteArray) : List J → List (ByteArray × J)
  | [] => []
  | [j] => [(k, j)]
  | l => [(k, .list l)]
theorem jQ_none {k : ByteArray} {l : List J} (h : l.length = 0) : jQ k l = [] := by
  rw [List.length_eq_zero_iff.1 h]
  rfl
theorem jQ_one {k : ByteArray} {l : List J} {j : J} (h : l.length = 1) (hj : l[0]? = some j) : jQ k l = [(k, j)] := by
  obtain ⟨x, rfl⟩ := List.length_eq_one_iff.1 h
  simp at hj
  subst hj
  rfl
theorem jQ_many {k : ByteArray} {l : List J} {n : Nat} (h : l.length = n) (hn : 1 < n) : jQ k l = [(k, .list l)] := by
  match l, h with
  | [], h => simp at h; omega
  | [_], h => simp at h; omega
  | _ :: _ :: _, _ => rfl
theorem jQ_len (k : ByteArray) (l : List J) : (jQ k l).length ≤ 1 := by
  match l with
  | [] => simp [jQ]
  | [_] => simp [jQ]
  | _ :: _ :: _ => simp [jQ]
/-- The clauses that are told under a name. -/
def clsOf (ps : List (ByteArray × T)) (k : ByteArray) : List T := ps.flatMap fun p => if seq p.1 k = true then clT p.2 else []
/-- How many clauses there may be. -/
def clsAll (ps : List (ByteArray × T)) : Nat := (ps.map fun p => (clT p.2).length).sum
theorem clsOf_len (ps : List (ByteArray × T)) (k : ByteArray) : (clsOf ps k).length ≤ clsAll ps := by
  induction ps with
  | nil => simp [clsOf, clsAll]
  | cons p r ih =>
    have e : clsOf (p :: r) k = (if seq p.1 k = true then clT p.2 else []) ++ clsOf r k := rfl
    have e2 : clsAll (p :: r) = (clT p.2).length + clsAll r := rfl
    rw [e, e2, List.length_append]
    split
    · omega
    · simp only [List.length_nil]; omega
theorem clsAll_take (ps : List (ByteArray × T)) (j : Nat) : clsAll (ps.take j) ≤ clsAll ps := by
  induction ps generalizing j with
  | nil => simp [clsAll]
  | cons p r ih =>
    cases j with
    | zero => simp [clsAll]
    | succ j =>
      have := ih j
      simp only [clsAll, List.take_succ_cons, List.map_cons, List.sum_cons] at this ⊢
      omega
theorem cls_hit {ps : List (ByteArray × T)} {j : Nat} {p : ByteArray × T} (hp : ps[j]? = some p) {k : ByteArray} (h : seq p.1 k = true) : clsOf (ps.take (j + 1)) k = clsOf (ps.take j) k ++ clT p.2 := by
  rw [take_snoc hp]
  simp [clsOf, h]
theorem cls_miss {ps : List (ByteArray × T)} {j : Nat} {p : ByteArray × T} (hp : ps[j]? = some p) {k : ByteArray} (h : seq p.1 k = false) : clsOf (ps.take (j + 1)) k = clsOf (ps.take j) k := by
  rw [take_snoc hp]
  simp [clsOf, h]
theorem cls_other {ps : List (ByteArray × T)} {j : Nat} {p : ByteArray × T} (hp : ps[j]? = some p) {k k' : ByteArray} (h : seq p.1 k' = true) (hne : seq k' k = false) : clsOf (ps.take (j + 1)) k = clsOf (ps.take j) k :=
  cls_miss hp (by rw [seq_iff.1 h]; exact hne)
theorem cls_room {ps : List (ByteArray × T)} {j : Nat} {p : ByteArray × T} (hp : ps[j]? = some p) {k : ByteArray} (h : seq p.1 k = true) : (clsOf (ps.take j) k).length + (clT p.2).length ≤ clsAll ps := by
  have h1 := cls_hit hp h
  have h2 := clsOf_len (ps.take (j + 1)) k
  have h3 := clsAll_take ps (j + 1)
  rw [h1, List.length_append] at h2
  omega
/-- A whole number as a text. -/
def itoaT (t : T) : T := match floatToIntVal .f64 t.num .i64 with
  | some z => textT ⟨(Lib.itoa z).toArray⟩
  | none => nullT
/-- How many should match: of two settings the one that was told last. -/
def leastStep (o : Option T) (p : ByteArray × T) : Option T := bif seq p.1 s_minimum_should_match then some p.2 else bif seq p.1 s_minimum_number_should_match then some (itoaT p.2) else o
def leastOf (ps : List (ByteArray × T)) : Option T := ps.foldl leastStep none
theorem least_snoc {ps : List (ByteArray × T)} {j : Nat} {p : ByteArray × T} (hp : ps[j]? = some p) : leastOf (ps.take (j + 1)) = leastStep (leastOf (ps.take j)) p := by
  rw [take_snoc hp]
  simp [leastOf]
theorem least_text {ps : List (ByteArray × T)} {j : Nat} {p : ByteArray × T} (hp : ps[j]? = some p) (h : seq p.1 s_minimum_should_match = true) : leastOf (ps.take (j + 1)) = some p.2 := by
  rw [least_snoc hp, leastStep, h]; rfl
theorem least_num {ps : List (ByteArray × T)} {j : Nat} {p : ByteArray × T} (hp : ps[j]? = some p) (h : seq p.1 s_minimum_number_should_match = true) : leastOf (ps.take (j + 1)) = some (itoaT p.2) := by
  have h2 : seq p.1 s_minimum_should_match = false := by rw [seq_iff.1 h]; exact seq_false.2 (by decide)
  rw [least_snoc hp, leastStep, h, h2]; rfl
theorem least_miss {ps : List (ByteArray × T)} {j : Nat} {p : ByteArray × T} (hp : ps[j]? = some p) (h : seq p.1 s_minimum_should_match = false) (h2 : seq p.1 s_minimum_number_should_match = false) : leastOf (ps.take (j + 1)) = leastOf (ps.take j) := by
  rw [least_snoc hp, leastStep, h, h2]; rfl
theorem least_other {ps : List (ByteArray × T)} {j : Nat} {p : ByteArray × T} (hp : ps[j]? = some p) {k : ByteArray} (hk : seq p.1 k = true) (h : seq k s_minimum_should_match = false) (h2 : seq k s_minimum_number_should_match = false) : leastOf (ps.take (j + 1)) = leastOf (ps.take j) :=
  least_miss hp (by rw [seq_iff.1 hk]; exact h) (by rw [seq_iff.1 hk]; exact h2)
end Go.Proofs.YtfngaoicoecncaaDoor

namespace Go.Proofs.YtfngaoicoecncaaDoor
open Go.RowKit Go.Maps

theorem OwnV.setB {t : TypeId} {w : World} {base : Nat} {v : Value} {vs : List Value} (h : OwnV t w base v vs) {b : Nat} (hb : v.ownBlock ≠ some b) (i : Nat) (x : Value) : OwnV t (w.setCell ⟨b, i, none⟩ x) base v vs := OwnV.grown h (grown_set _ _ _) (.inr hb)
/-- A list of clauses of the call's own. -/
def Cl (h : Nat) (w : World) (V : Value) (js : List J) : Prop := ∃ vs, OwnV 62 w h V vs ∧ GivesL (fun b => b < h) w vs js
theorem Cl.ext {h : Nat} {w w' : World} {V : Value} {js : List J} (c : Cl h w V js) (x : Ext w w') : Cl h w' V js := by
  obtain ⟨vs, h1, h2⟩ := c
  exact ⟨vs, h1.ext x, h2.keep (fun _ h _ => h) (x.keeps _) x.sz⟩
theorem Cl.setB {h : Nat} {w : World} {V : Value} {js : List J} (c : Cl h w V js) {b : Nat} (hb : V.ownBlock ≠ some b) (hhb : h ≤ b) (i : Nat) (x : Value) : Cl h (w.setCell ⟨b, i, none⟩ x) V js := by
  obtain ⟨vs, h1, h2⟩ := c
  exact ⟨vs, h1.setB hb i x, h2.keep (fun _ h _ => h) (fun q hq _ => Below.heap_setCell _ _ _ _ (by simp only; omega)) (by simp)⟩
theorem Cl.block {h : Nat} {w : World} {V : Value} {js : List J} (c : Cl h w V js) {g : Nat} (hg : V.ownBlock = some g) : h ≤ g ∧ g < w.heap.size := by
  obtain ⟨vs, h1, -⟩ := c
  exact h1.block hg
theorem Cl.qs {S : Nat → Prop} {h : Nat} {w : World} {V : Value} {js : List J} (c : Cl h w V js) (hS : ∀ b, V.ownBlock = some b → S b) (hS2 : ∀ b, b < h → S b) : ∃ a m c, V = .slice a m c ∧ m = js.length ∧ QsAt S w a m c js := by
  obtain ⟨vs, h1, h2⟩ := c
  obtain ⟨a, c, e, hq⟩ := h1.qs hS (h2.keep (fun b hb _ => hS2 b hb) (fun _ _ _ => rfl) (Nat.le_refl _))
  exact ⟨a, _, c, e, h2.1, hq⟩
/-- Two lists lie in different blocks. -/
def Dj (a b : Value) : Prop := ∀ q, a.ownBlock = some q → b.ownBlock ≠ some q
theorem Dj.symm {a b : Value} (h : Dj a b) : Dj b a := fun q hq e => h q e hq
theorem Dj.no {a b : Value} (h : Dj a b) : b.ownBlock = none ∨ b.ownBlock ≠ a.ownBlock := by
  cases hb : b.ownBlock with
  | none => exact .inl rfl
  | some q => exact .inr fun e => h q e.symm hb
theorem Dj.new {h : Nat} {w : World} {a b : Value} {js : List J} {g n c : Nat} (d : Dj a b) (hc : Cl h w b js) (hl : Lies w a g) : Dj (.slice (some ⟨g, 0, none⟩) n c) b := fun q hq e => by
  simp only [Value.ownBlock, Option.some.injEq] at hq
  subst hq
  rcases hl with hl | hl
  · exact d g hl e
  · have := (hc.block e).2
    omega
def BS (h bq : Nat) (w : World) (V1 V2 V3 V4 : Value) (l1 l2 l3 l4 : List J) : Prop :=
  (Cl h w V1 l1 ∧ V1.ownBlock ≠ some bq) ∧ (Cl h w V2 l2 ∧ V2.ownBlock ≠ some bq) ∧ (Cl h w V3 l3 ∧ V3.ownBlock ≠ some bq) ∧ (Cl h w V4 l4 ∧ V4.ownBlock ≠ some bq) ∧ Dj V1 V2 ∧ Dj V1 V3 ∧ Dj V1 V4 ∧ Dj V2 V3 ∧ Dj V2 V4 ∧ Dj V3 V4
theorem BS.ext {h bq : Nat} {w w' : World} {V1 V2 V3 V4 : Value} {l1 l2 l3 l4 : List J} (b : BS h bq w V1 V2 V3 V4 l1 l2 l3 l4) (x : Ext w w') : BS h bq w' V1 V2 V3 V4 l1 l2 l3 l4 := by
  obtain ⟨⟨c1, n1⟩, ⟨c2, n2⟩, ⟨c3, n3⟩, ⟨c4, n4⟩, d12, d13, d14, d23, d24, d34⟩ := b
  exact ⟨⟨c1.ext x, n1⟩, ⟨c2.ext x, n2⟩, ⟨c3.ext x, n3⟩, ⟨c4.ext x, n4⟩, d12, d13, d14, d23, d24, d34⟩
theorem BS.setB {h bq : Nat} {w : World} {V1 V2 V3 V4 : Value} {l1 l2 l3 l4 : List J} (b : BS h bq w V1 V2 V3 V4 l1 l2 l3 l4) (hh : h ≤ bq) (i : Nat) (x : Value) : BS h bq (w.setCell ⟨bq, i, none⟩ x) V1 V2 V3 V4 l1 l2 l3 l4 := by
  obtain ⟨⟨c1, n1⟩, ⟨c2, n2⟩, ⟨c3, n3⟩, ⟨c4, n4⟩, d12, d13, d14, d23, d24, d34⟩ := b
  exact ⟨⟨c1.setB n1 hh i x, n1⟩, ⟨c2.setB n2 hh i x, n2⟩, ⟨c3.setB n3 hh i x, n3⟩, ⟨c4.setB n4 hh i x, n4⟩, d12, d13, d14, d23, d24, d34⟩
/-- Neither the query nor one of its lists. -/
def OffB (bq : Nat) (V1 V2 V3 V4 : Value) (q : Nat) : Prop := q ≠ bq ∧ V1.ownBlock ≠ some q ∧ V2.ownBlock ≠ some q ∧ V3.ownBlock ≠ some q ∧ V4.ownBlock ≠ some q
theorem BS.fresh {h bq : Nat} {w : World} {V1 V2 V3 V4 : Value} {l1 l2 l3 l4 : List J} (b : BS h bq w V1 V2 V3 V4 l1 l2 l3 l4) (hb : bq < w.heap.size) {q : Nat} (hq : w.heap.size ≤ q) : OffB bq V1 V2 V3 V4 q := by
  obtain ⟨⟨c1, n1⟩, ⟨c2, n2⟩, ⟨c3, n3⟩, ⟨c4, n4⟩, d12, d13, d14, d23, d24, d34⟩ := b
  exact ⟨by omega, fun e => by have := (c1.block e).2; omega, fun e => by have := (c2.block e).2; omega, fun e => by have := (c3.block e).2; omega, fun e => by have := (c4.block e).2; omega⟩
theorem BS.low {h bq : Nat} {w : World} {V1 V2 V3 V4 : Value} {l1 l2 l3 l4 : List J} (b : BS h bq w V1 V2 V3 V4 l1 l2 l3 l4) (hh : h ≤ bq) {q : Nat} (hq : q < h) : OffB bq V1 V2 V3 V4 q := by
  obtain ⟨⟨c1, n1⟩, ⟨c2, n2⟩, ⟨c3, n3⟩, ⟨c4, n4⟩, d12, d13, d14, d23, d24, d34⟩ := b
  exact ⟨by omega, fun e => by have := (c1.block e).1; omega, fun e => by have := (c2.block e).1; omega, fun e => by have := (c3.block e).1; omega, fun e => by have := (c4.block e).1; omega⟩
theorem BS.push1 {h bq : Nat} {w w' : World} {V1 V2 V3 V4 : Value} {l1 l2 l3 l4 : List J} {g n c : Nat} {zs : List Value} {ks : List J} (b : BS h bq w V1 V2 V3 V4 l1 l2 l3 l4) (hh : h ≤ bq) (hO : OwnV 62 w' h (.slice (some ⟨g, 0, none⟩) n c) zs) (hG : GivesL (fun b => b < h) w' zs (l1 ++ ks)) (hl : Lies w V1 g) (hg : g ≠ bq)
    (hk : ∀ v2 vs2, OwnV 62 w h v2 vs2 → v2.ownBlock ≠ some bq → (v2.ownBlock = none ∨ v2.ownBlock ≠ V1.ownBlock) → OwnV 62 w' h v2 vs2) (hkp : Keeps (fun q => q ≠ bq ∧ V1.ownBlock ≠ some q) w w') (hsz : w.heap.size ≤ w'.heap.size) : BS h bq w' (.slice (some ⟨g, 0, none⟩) n c) V2 V3 V4 (l1 ++ ks) l2 l3 l4 := by
  obtain ⟨⟨c1, n1⟩, ⟨c2, n2⟩, ⟨c3, n3⟩, ⟨c4, n4⟩, d12, d13, d14, d23, d24, d34⟩ := b
  have hkp2 : Keeps (fun q => q < h) w w' := fun q hq hl2 => hkp q ⟨by omega, fun e => by have := (c1.block e).1; omega⟩ hl2
  have hc : ∀ {U : Value} {js : List J}, Cl h w U js → U.ownBlock ≠ some bq → Dj V1 U → Cl h w' U js := fun {U js} c nU d => by
    obtain ⟨vs2, h1, h2⟩ := c
    exact ⟨vs2, hk U vs2 h1 nU d.no, h2.keep (fun _ h _ => h) hkp2 hsz⟩
  exact ⟨⟨⟨zs, hO, hG⟩, by simp only [Value.ownBlock]; exact someNe hg⟩, ⟨hc c2 n2 (d12), n2⟩, ⟨hc c3 n3 (d13), n3⟩, ⟨hc c4 n4 (d14), n4⟩, Dj.new d12 c2 hl, Dj.new d13 c3 hl, Dj.new d14 c4 hl, d23, d24, d34⟩
theorem OffB.push1 {bq : Nat} {w : World} {V1 V2 V3 V4 : Value} {g n c q : Nat} (h : OffB bq V1 V2 V3 V4 q) (hq : q < w.heap.size) (hl : Lies w V1 g) : OffB bq (.slice (some ⟨g, 0, none⟩) n c) V2 V3 V4 q := by
  obtain ⟨h0, h1, h2, h3, h4⟩ := h
  have hn : (Value.slice (some ⟨g, 0, none⟩) n c).ownBlock ≠ some q := fun e => by
    simp only [Value.ownBlock, Option.some.injEq] at e
    subst e
    rcases hl with hl | hl
    · exact h1 hl
    · omega
  exact ⟨h0, hn, h2, h3, h4⟩
theorem BS.push2 {h bq : Nat} {w w' : World} {V1 V2 V3 V4 : Value} {l1 l2 l3 l4 : List J} {g n c : Nat} {zs : List Value} {ks : List J} (b : BS h bq w V1 V2 V3 V4 l1 l2 l3 l4) (hh : h ≤ bq) (hO : OwnV 62 w' h (.slice (some ⟨g, 0, none⟩) n c) zs) (hG : GivesL (fun b => b < h) w' zs (l2 ++ ks)) (hl : Lies w V2 g) (hg : g ≠ bq)
    (hk : ∀ v2 vs2, OwnV 62 w h v2 vs2 → v2.ownBlock ≠ some bq → (v2.ownBlock = none ∨ v2.ownBlock ≠ V2.ownBlock) → OwnV 62 w' h v2 vs2) (hkp : Keeps (fun q => q ≠ bq ∧ V2.ownBlock ≠ some q) w w') (hsz : w.heap.size ≤ w'.heap.size) : BS h bq w' V1 (.slice (some ⟨g, 0, none⟩) n c) V3 V4 l1 (l2 ++ ks) l3 l4 := by
  obtain ⟨⟨c1, n1⟩, ⟨c2, n2⟩, ⟨c3, n3⟩, ⟨c4, n4⟩, d12, d13, d14, d23, d24, d34⟩ := b
  have hkp2 : Keeps (fun q => q < h) w w' := fun q hq hl2 => hkp q ⟨by omega, fun e => by have := (c2.block e).1; omega⟩ hl2
  have hc : ∀ {U : Value} {js : List J}, Cl h w U js → U.ownBlock ≠ some bq → Dj V2 U → Cl h w' U js := fun {U js} c nU d => by
    obtain ⟨vs2, h1, h2⟩ := c
    exact ⟨vs2, hk U vs2 h1 nU d.no, h2.keep (fun _ h _ => h) hkp2 hsz⟩
  exact ⟨⟨hc c1 n1 (d12.symm), n1⟩, ⟨⟨zs, hO, hG⟩, by simp only [Value.ownBlock]; exact someNe hg⟩, ⟨hc c3 n3 (d23), n3⟩, ⟨hc c4 n4 (d24), n4⟩, (Dj.new d12.symm c1 hl).symm, d13, d14, Dj.new d23 c3 hl, Dj.new d24 c4 hl, d34⟩
theorem OffB.push2 {bq : Nat} {w : World} {V1 V2 V3 V4 : Value} {g n c q : Nat} (h : OffB bq V1 V2 V3 V4 q) (hq : q < w.heap.size) (hl : Lies w V2 g) : OffB bq V1 (.slice (some ⟨g, 0, none⟩) n c) V3 V4 q := by
  obtain ⟨h0, h1, h2, h3, h4⟩ := h
  have hn : (Value.slice (some ⟨g, 0, none⟩) n c).ownBlock ≠ some q := fun e => by
    simp only [Value.ownBlock, Option.some.injEq] at e
    subst e
    rcases hl with hl | hl
    · exact h2 hl
    · omega
  exact ⟨h0, h1, hn, h3, h4⟩
theorem BS.push3 {h bq : Nat} {w w' : World} {V1 V2 V3 V4 : Value} {l1 l2 l3 l4 : List J} {g n c : Nat} {zs : List Value} {ks : List J} (b : BS h bq w V1 V2 V3 V4 l1 l2 l3 l4) (hh : h ≤ bq) (hO : OwnV 62 w' h (.slice (some ⟨g, 0, none⟩) n c) zs) (hG : GivesL (fun b => b < h) w' zs (l3 ++ ks)) (hl : Lies w V3 g) (hg : g ≠ bq)
    (hk : ∀ v2 vs2, OwnV 62 w h v2 vs2 → v2.ownBlock ≠ some bq → (v2.ownBlock = none ∨ v2.ownBlock ≠ V3.ownBlock) → OwnV 62 w' h v2 vs2) (hkp : Keeps (fun q => q ≠ bq ∧ V3.ownBlock ≠ some q) w w') (hsz : w.heap.size ≤ w'.heap.size) : BS h bq w' V1 V2 (.slice (some ⟨g, 0, none⟩) n c) V4 l1 l2 (l3 ++ ks) l4 := by
  obtain ⟨⟨c1, n1⟩, ⟨c2, n2⟩, ⟨c3, n3⟩, ⟨c4, n4⟩, d12, d13, d14, d23, d24, d34⟩ := b
  have hkp2 : Keeps (fun q => q < h) w w' := fun q hq hl2 => hkp q ⟨by omega, fun e => by have := (c3.block e).1; omega⟩ hl2
  have hc : ∀ {U : Value} {js : List J}, Cl h w U js → U.ownBlock ≠ some bq → Dj V3 U → Cl h w' U js := fun {U js} c nU d => by
    obtain ⟨vs2, h1, h2⟩ := c
    exact ⟨vs2, hk U vs2 h1 nU d.no, h2.keep (fun _ h _ => h) hkp2 hsz⟩
  exact ⟨⟨hc c1 n1 (d13.symm), n1⟩, ⟨hc c2 n2 (d23.symm), n2⟩, ⟨⟨zs, hO, hG⟩, by simp only [Value.ownBlock]; exact someNe hg⟩, ⟨hc c4 n4 (d34), n4⟩, d12, (Dj.new d13.symm c1 hl).symm, d14, (Dj.new d23.symm c2 hl).symm, d24, Dj.new d34 c4 hl⟩
theorem OffB.push3 {bq : Nat} {w : World} {V1 V2 V3 V4 : Value} {g n c q : Nat} (h : OffB bq V1 V2 V3 V4 q) (hq : q < w.heap.size) (hl : Lies w V3 g) : OffB bq V1 V2 (.slice (some ⟨g, 0, none⟩) n c) V4 q := by
  obtain ⟨h0, h1, h2, h3, h4⟩ := h
  have hn : (Value.slice (some ⟨g, 0, none⟩) n c).ownBlock ≠ some q := fun e => by
    simp only [Value.ownBlock, Option.some.injEq] at e
    subst e
    rcases hl with hl | hl
    · exact h3 hl
    · omega
  exact ⟨h0, h1, h2, hn, h4⟩
theorem BS.push4 {h bq : Nat} {w w' : World} {V1 V2 V3 V4 : Value} {l1 l2 l3 l4 : List J} {g n c : Nat} {zs : List Value} {ks : List J} (b : BS h bq w V1 V2 V3 V4 l1 l2 l3 l4) (hh : h ≤ bq) (hO : OwnV 62 w' h (.slice (some ⟨g, 0, none⟩) n c) zs) (hG : GivesL (fun b => b < h) w' zs (l4 ++ ks)) (hl : Lies w V4 g) (hg : g ≠ bq)
    (hk : ∀ v2 vs2, OwnV 62 w h v2 vs2 → v2.ownBlock ≠ some bq → (v2.ownBlock = none ∨ v2.ownBlock ≠ V4.ownBlock) → OwnV 62 w' h v2 vs2) (hkp : Keeps (fun q => q ≠ bq ∧ V4.ownBlock ≠ some q) w w') (hsz : w.heap.size ≤ w'.heap.size) : BS h bq w' V1 V2 V3 (.slice (some ⟨g, 0, none⟩) n c) l1 l2 l3 (l4 ++ ks) := by
  obtain ⟨⟨c1, n1⟩, ⟨c2, n2⟩, ⟨c3, n3⟩, ⟨c4, n4⟩, d12, d13, d14, d23, d24, d34⟩ := b
  have hkp2 : Keeps (fun q => q < h) w w' := fun q hq hl2 => hkp q ⟨by omega, fun e => by have := (c4.block e).1; omega⟩ hl2
  have hc : ∀ {U : Value} {js : List J}, Cl h w U js → U.ownBlock ≠ some bq → Dj V4 U → Cl h w' U js := fun {U js} c nU d => by
    obtain ⟨vs2, h1, h2⟩ := c
    exact ⟨vs2, hk U vs2 h1 nU d.no, h2.keep (fun _ h _ => h) hkp2 hsz⟩
  exact ⟨⟨hc c1 n1 (d14.symm), n1⟩, ⟨hc c2 n2 (d24.symm), n2⟩, ⟨hc c3 n3 (d34.symm), n3⟩, ⟨⟨zs, hO, hG⟩, by simp only [Value.ownBlock]; exact someNe hg⟩, d12, d13, (Dj.new d14.symm c1 hl).symm, d23, (Dj.new d24.symm c2 hl).symm, (Dj.new d34.symm c3 hl).symm⟩
theorem OffB.push4 {bq : Nat} {w : World} {V1 V2 V3 V4 : Value} {g n c q : Nat} (h : OffB bq V1 V2 V3 V4 q) (hq : q < w.heap.size) (hl : Lies w V4 g) : OffB bq V1 V2 V3 (.slice (some ⟨g, 0, none⟩) n c) q := by
  obtain ⟨h0, h1, h2, h3, h4⟩ := h
  have hn : (Value.slice (some ⟨g, 0, none⟩) n c).ownBlock ≠ some q := fun e => by
    simp only [Value.ownBlock, Option.some.injEq] at e
    subst e
    rcases hl with hl | hl
    · exact h4 hl
    · omega
  exact ⟨h0, h1, h2, h3, hn⟩
theorem BS.qs {h bq : Nat} {w : World} {V1 V2 V3 V4 : Value} {l1 l2 l3 l4 : List J} (b : BS h bq w V1 V2 V3 V4 l1 l2 l3 l4) (hh : h ≤ bq) : (∃ a m c, V1 = .slice a m c ∧ m = l1.length ∧ QsAt (fun q => q ≠ bq) w a m c l1) ∧ (∃ a m c, V2 = .slice a m c ∧ m = l2.length ∧ QsAt (fun q => q ≠ bq) w a m c l2) ∧ (∃ a m c, V3 = .slice a m c ∧ m = l3.length ∧ QsAt (fun q => q ≠ bq) w a m c l3) ∧ (∃ a m c, V4 = .slice a m c ∧ m = l4.length ∧ QsAt (fun q => q ≠ bq) w a m c l4) := by
  obtain ⟨⟨c1, n1⟩, ⟨c2, n2⟩, ⟨c3, n3⟩, ⟨c4, n4⟩, d12, d13, d14, d23, d24, d34⟩ := b
  exact ⟨c1.qs (fun q hq e => n1 (by rw [hq, e])) (fun q hq => by omega), c2.qs (fun q hq e => n2 (by rw [hq, e])) (fun q hq => by omega), c3.qs (fun q hq e => n3 (by rw [hq, e])) (fun q hq => by omega), c4.qs (fun q hq e => n4 (by rw [hq, e])) (fun q hq => by omega)⟩
/-- The table of powers of ten as it is laid, in every later world. -/
def TenAt (w : World) : Prop := ∀ w', Ext w w' → Lib.TabIs Tryd.prog w' "internal/strconv.uint64pow10" .u64 Lib.pow10Tab
theorem TenAt.ext {w w' : World} (h : TenAt w) (x : Ext w w') : TenAt w' := fun w2 y => h w2 (ext_trans x y)
theorem int_bounds {d : Nat} {z : Int} (h : floatToIntVal .f64 d .i64 = some z) : -9223372036854775808 ≤ z ∧ z ≤ 9223372036854775807 := by
  unfold floatToIntVal at h
  have e1 : IntKind.i64.min = -9223372036854775808 := by decide
  have e2 : IntKind.i64.max = 9223372036854775807 := by decide
  rw [e1, e2] at h
  split at h
  · split at h
    · cases h; assumption
    · cases h
  · cases h
end Go.Proofs.YtfngaoicoecncaaDoor

namespace Go.Proofs.YtfngaoicoecncaaDoor
open Go.RowKit

def boolJ (ps : List (ByteArray × T)) : List (ByteArray × J) := jQ s_must ((clsOf ps s_must).map jFull) ++ jQ s_must_not ((clsOf ps s_must_not).map jFull) ++ jQ s_filter ((clsOf ps s_filter).map jFull) ++ jQ s_should ((clsOf ps s_should).map jFull) ++ jN s_boost (lastOf ps s_boost) ++ jT s_minimum_should_match (leastOf ps) ++ jY s_adjust_pure_negative (lastOf ps s_adjust_pure_negative) ++ jT s_name (lastOf ps s_name)
def ClauseP (ps : List (ByteArray × T)) : Prop := ∀ p ∈ ps, ∀ k ∈ [s_must, s_must_not, s_filter, s_should], seq p.1 k = true → (∀ t ∈ clT p.2, FullT t) ∧ 0 < (clT p.2).length
def LeastP (ps : List (ByteArray × T)) : Prop := ∀ p ∈ ps, seq p.1 s_minimum_number_should_match = true → ∃ z, floatToIntVal .f64 p.2.num .i64 = some z
theorem least_itoa {t : T} {z : Int} (h : floatToIntVal .f64 t.num .i64 = some z) : fT (some (itoaT t)) = ⟨(Lib.itoa z).toArray⟩ := by
  simp only [fT, itoaT, h]
  rfl
end Go.Proofs.YtfngaoicoecncaaDoor

namespace Go.Proofs.YtfngaoicoecncaaDoor
open Go.RowKit

set_option maxRecDepth 20000 in
set_option maxHeartbeats 4000000 in
theorem bool_src {S : Nat → Prop} (w : World) (bq : Nat) (uma : Option Addr) (umn umc : Nat) (um : List J) (hum : QsAt S w uma umn umc um) (humb : umn ≤ 4294967294) (uxa : Option Addr) (uxn uxc : Nat) (ux : List J) (hux : QsAt S w uxa uxn uxc ux) (huxb : uxn ≤ 4294967294) (ufa : Option Addr) (ufn ufc : Nat) (uf : List J) (huf : QsAt S w ufa ufn ufc uf) (hufb : ufn ≤ 4294967294) (uza : Option Addr) (uzn uzc : Nat) (uz : List J) (huz : QsAt S w uza uzn uzc uz) (huzb : uzn ≤ 4294967294) (v5 : Option Addr) (o5 : Option T) (h5 : FN S w v5 o5) (v6 : ByteArray) (o6 : Option T) (h6 : v6 = fT o6) (v7 : Option Addr) (o7 : Option T) (h7 : FY S w v7 o7) (v8 : ByteArray) (o8 : Option T) (h8 : v8 = fT o8) (hbq : Box w bq #[.nilIface, .slice uma umn umc, .slice uxa uxn uxc, .slice ufa ufn ufc, .slice uza uzn uzc, .pointer v5, .string v6, .pointer v7, .string v8] 66) :
    Calls Tryd.prog 24 #[.pointer (some ⟨bq, 0, none⟩)] w fun r w' => ∃ v, r = .returned (.tuple #[v, .nilIface]) ∧ JAt (fun _ => True) w' v (jMap [(s_bool, jMap (jQ s_must um ++ jQ s_must_not ux ++ jQ s_filter uf ++ jQ s_should uz ++ jN s_boost (o5) ++ jT s_minimum_should_match (o6) ++ jY s_adjust_pure_negative (o7) ++ jT s_name (o8)))]) ∧ Ext w w' := by
  have tok0 := trivial
  have hblt := hbq.lt
  have H5 := Lib.hid h5
  have H6 := Lib.hid h6
  have H7 := Lib.hid h7
  have H8 := Lib.hid h8
  clear h5 h6 h7 h8
  have Hum := Lib.hid hum
  clear hum
  have Hux := Lib.hid hux
  clear hux
  have Huf := Lib.hid huf
  clear huf
  have Huz := Lib.hid huz
  clear huz
  go_enter Tryd.func24, Tryd.ntmps24
  go_upto_if 44 with (first
    | (at_mapUpdate; have _t := tok0; refine wp_put _ rfl _ _ _ 72 rfl 20 Tryd.underlying72 w.heap.size [] rfl ((MapAt.at (by simp)).alloc _) (by simp [maxLen]) s_bool rfl (by decide) _ rfl ?_; intro w1 hm hg; clear tok0
       have hx1 : Ext w w1 := ext_put (ext_alloc (ext_alloc (ext_refl _) _) _) hg (by omega)
       have hl0_1 := hm
       have hs0_1 := hl0_1.lt
       have hl1_1 : MapAt w1 (w.heap.size + 1) [] := (MapAt.at (by simp)).grown hg (someNe (by omega))
       have hs1_1 := hl1_1.lt
       have hb1 := hbq.ext hx1
       have hc0 := hb1.cell 0 _ rfl
       have hc1 := hb1.cell 1 _ rfl
       have hc2 := hb1.cell 2 _ rfl
       have hc3 := hb1.cell 3 _ rfl
       have hc4 := hb1.cell 4 _ rfl
       have hc5 := hb1.cell 5 _ rfl
       have hc6 := hb1.cell 6 _ rfl
       have hc7 := hb1.cell 7 _ rfl
       have hc8 := hb1.cell 8 _ rfl
       clear hg hm)
    | fail)
  have hx0 : Ext w w1 := hx1
  have hm0 : MapAt w1 w.heap.size [(s_bool, .iface 72 (.map (some (w.heap.size + 1))))] := hl0_1
  have hm1 : MapAt w1 (w.heap.size + 1) [] := hl1_1
  have hz0 := hm0.lt
  have hz1 := hm1.lt
  have hne0 : w.heap.size ≠ (w.heap.size + 1) := by omega
  have hw1 : w.heap.size ≤ (w.heap.size + 1) := by have := hx0.sz; omega
  have hp0 : PJ (fun b => b ≠ w.heap.size ∧ b ≠ w.heap.size + 1) w1 [] (([] : List (ByteArray × J))) := PJ.nil _ _
  go_cut [] (fun wc => Ext w wc ∧ MapAt wc w.heap.size [(s_bool, .iface 72 (.map (some (w.heap.size + 1))))] ∧ ∃ rp, rp.length ≤ 1 ∧ MapAt wc (w.heap.size + 1) rp ∧ PJ (fun b => b ≠ w.heap.size ∧ b ≠ w.heap.size + 1) wc rp (jQ s_must um))
  case first => as_aux_lemma =>
    rcases Nat.lt_trichotomy umn 1 with hE | hE | hE
    · obtain rfl : umn = 0 := by omega
      go_wp2_with fail
      go_meet
      case rel =>
        refine ⟨hx0, hm0, [], by simp, hm1, ?_⟩
        rw [jQ_none (k := s_must) (QsAt.len Hum.out)]
        exact hp0
    · subst hE
      obtain ⟨qvs, hvl, hvc, hvm, hvcell, hvG⟩ := Hum.out
      obtain ⟨qq, hqq⟩ := some_of_lt hvl (show 0 < 1 by omega)
      obtain ⟨jj, hjj⟩ := some_of_lt (l := um) rfl (show 0 < um.length by have := hvG.1; omega)
      obtain ⟨qb, qo, hqa, -, hqc⟩ := hvcell 0 qq hqq
      have hqc := hx0.cell hqc
      have hqc0 := hqc
      rw [Nat.add_zero] at hqc0
      obtain ⟨qty, qx, qf, hqe, hqm, hqm2, hqC⟩ := hvG.2 0 qq jj hqq hjj
      have HQC := Lib.hid hqC
      have hE1 := jQ_one (k := s_must) (QsAt.len Hum.out) hjj
      have HE1 := Lib.hid hE1
      clear hqC hjj hqq hvcell hvG hvl hE1
      subst hqe hqa
      have hsn := hm1.lt
      go_wp2_with (first
        | ((with_reducible show Calls _ qf _ _ _); refine (HQC.out _ (Ext.keeps (ext_trans hx0 (by (repeat (first | exact ext_refl _ | assumption | refine ext_alloc ?_ _ | refine ext_drew ?_ | refine ext_set ?_ (by simp) _ | refine ext_trans ?_ (by assumption))))) _) (Ext.sz (ext_trans hx0 (by (repeat (first | exact ext_refl _ | assumption | refine ext_alloc ?_ _ | refine ext_drew ?_ | refine ext_set ?_ (by simp) _ | refine ext_trans ?_ (by assumption))))))).mono ?_; rintro r ws ⟨jty, jx, rfl, hJs, hxs⟩
           have hxt : Ext w ws := ext_trans hx0 (ext_trans (by (repeat (first | exact ext_refl _ | assumption | refine ext_alloc ?_ _ | refine ext_drew ?_ | refine ext_set ?_ (by simp) _ | refine ext_trans ?_ (by assumption)))) hxs)
           have hmt0 := MapAt.ext hm0 (ext_trans (by (repeat (first | exact ext_refl _ | assumption | refine ext_alloc ?_ _ | refine ext_drew ?_ | refine ext_set ?_ (by simp) _ | refine ext_trans ?_ (by assumption)))) hxs)
           have hnt := MapAt.ext hm1 (ext_trans (by (repeat (first | exact ext_refl _ | assumption | refine ext_alloc ?_ _ | refine ext_drew ?_ | refine ext_set ?_ (by simp) _ | refine ext_trans ?_ (by assumption)))) hxs)
           have hpt := hp0.keep (S' := (fun b => b ≠ w.heap.size ∧ b ≠ w.heap.size + 1)) (fun _ h _ => h) (Ext.keeps (ext_trans (by (repeat (first | exact ext_refl _ | assumption | refine ext_alloc ?_ _ | refine ext_drew ?_ | refine ext_set ?_ (by simp) _ | refine ext_trans ?_ (by assumption)))) hxs) _)
           have hJs := hJs.to (S' := (fun b => b ≠ w.heap.size ∧ b ≠ w.heap.size + 1)) (fun b hb _ => by (try simp at hb); omega)
           have hbs := hbq.ext hxt
           have hc0 := hbs.cell 0 _ rfl
           have hc1 := hbs.cell 1 _ rfl
           have hc2 := hbs.cell 2 _ rfl
           have hc3 := hbs.cell 3 _ rfl
           have hc4 := hbs.cell 4 _ rfl
           have hc5 := hbs.cell 5 _ rfl
           have hc6 := hbs.cell 6 _ rfl
           have hc7 := hbs.cell 7 _ rfl
           have hc8 := hbs.cell 8 _ rfl)
        | (at_mapUpdate; refine wp_put _ rfl _ _ _ 72 rfl 20 Tryd.underlying72 (w.heap.size + 1) [] rfl hnt (by simp [maxLen]) s_must rfl (by decide) _ rfl ?_; intro wn hnn hgn)
        | fail)
      go_meet
      case rel =>
        have hxn := ext_put hxt hgn (by omega)
        refine ⟨hxn, hmt0.grown hgn (someNe hne0), _, ?_, hnn, ?_⟩
        · rw [List.length_append]; exact Nat.succ_le_succ (by simp)
        · rw [HE1.out]
          have hk9 : Keeps (fun b => b ≠ w.heap.size ∧ b ≠ w.heap.size + 1) ws wn := keeps_grown hgn (fun b hb e => by simp only [Option.some.injEq] at e; omega)
          exact PJ.snoc (hpt.keep (fun _ h _ => h) hk9) (JAt.keep (fun _ h _ => h) hk9 _ hJs)
    · have hE1b : ((umn : Int) == 1) = false := by rw [beq_eq_false_iff_ne]; omega
      go_wp2_with fail
      have hE2b : decide ((1 : Int) < (umn : Int)) = true := by rw [decide_eq_true_eq]; omega
      try simp only [hE1b]
      try simp only [hE2b]
      obtain ⟨qvs, hvl, hvc, hvm, hvcell, hvG⟩ := Hum.out.ext hx0
      have HVL := Lib.hid hvl
      have HVC := Lib.hid hvcell
      have HVG := Lib.hid hvG
      clear hvl hvcell hvG
      go_loopw [8, 71] (fun v i wr => Ext w1 wr ∧ ∃ (j : Nat) (us : List Value) (vv : Value), vv = v ∧ j ≤ umn ∧ i = .int .i64 j ∧ us.length = j ∧ OwnAny wr w1.heap.size vv us ∧ (∀ x ∈ us, x.oneCell' = true) ∧ JsAt (fun b => w1.heap.size ≤ b ∧ vv.ownBlock ≠ some b) wr us (um.take j)) (fun _ i _ => umn - (intOf i).toNat)
      case atStart => exact ⟨ext_refl _, 0, [], _, rfl, Nat.zero_le _, rfl, rfl, ⟨rfl, .inl ⟨rfl, rfl⟩⟩, fun x hx => by simp at hx, by simp [JsAt]⟩
      case round =>
        obtain ⟨hxr, j, us, vv, hve, hj, rfl, hul, hO, h1, hV⟩ := hrel
        subst hve
        have HO := Lib.hid hO
        have HV := Lib.hid hV
        have HUL := Lib.hid hul
        have H1 := Lib.hid h1
        clear hO hV hul h1
        by_cases hlt : j < umn
        case pos =>
          obtain ⟨qq, hqq⟩ := some_of_lt HVL.out hlt
          obtain ⟨jj, hjj⟩ := some_of_lt (l := um) rfl (show j < um.length by have h2 := HVG.out.1; have h3 := HVL.out; omega)
          obtain ⟨qb, qo, hqa, -, hqc⟩ := HVC.out j qq hqq
          have hqc := hxr.cell hqc
          obtain ⟨qty, qx, qf, hqe, hqm, hqm2, hqC⟩ := (HVG.out.2 j qq jj hqq hjj).ext hxr
          have HT := Lib.hid hjj
          have HQC := Lib.hid hqC
          clear hqC hjj hqq
          subst hqe hqa
          have hszr := hxr.sz
          have tokB := trivial
          go_wp2_with (first
            | ((with_reducible show Calls _ qf _ _ _); refine (HQC.out _ (Ext.keeps (by (repeat (first | exact ext_refl _ | assumption | refine ext_alloc ?_ _ | refine ext_drew ?_ | refine ext_set ?_ (by simp) _ | refine ext_trans ?_ (by assumption)))) _) (Ext.sz (by (repeat (first | exact ext_refl _ | assumption | refine ext_alloc ?_ _ | refine ext_drew ?_ | refine ext_set ?_ (by simp) _ | refine ext_trans ?_ (by assumption)))))).mono ?_; rintro r w2 ⟨pty, px, rfl, hJ, hx2⟩
               have hx3 : Ext wr w2 := ext_trans (by (repeat (first | exact ext_refl _ | assumption | refine ext_alloc ?_ _ | refine ext_drew ?_ | refine ext_set ?_ (by simp) _ | refine ext_trans ?_ (by assumption)))) hx2
               have hJ := hJ.to (S' := fun b => wr.heap.size ≤ b) (fun b hb _ => by (try simp at hb); omega)
               have hxn : Ext w2 (w2.alloc (.cells #[.iface pty px] 20)) := ext_alloc (ext_refl _) _
               have hbn : Box (w2.alloc (.cells #[.iface pty px] 20)) w2.heap.size #[.iface pty px] 20 := Box.at rfl _ _
               have HJ := Lib.hid (hJ.ext hxn)
               clear hJ)
            | (at_builtin; have _t := tokB; clear _t tokB; refine list_append_any _ rfl _ _ rfl w1.heap.size vv us rfl (HO.out.ext (ext_trans hx3 hxn)) w2.heap.size 0 1 [.iface pty px] (by simp) (fun u hu => by simp at hu; subst hu; rfl) rfl (fun i f hf => by
                 cases i with
                 | zero => simp at hf; subst hf; exact hbn.cell 0 _ rfl
                 | succ i => simp at hf) (by have := HUL.out; simp; omega) (by have := (ext_trans hx3 hxn).sz; omega) ?_; intro g cap w4 hown hgrow hlies hglt)
            | fail)
          have hszn := (ext_trans hx3 hxn).sz
          have hblk : ∀ k, vv.ownBlock = some k → w1.heap.size ≤ k ∧ k < wr.heap.size := fun k hk => World.ownsRow.lt HO.out k hk
          have hx5 : Ext w1 w4 := ext_grown (ext_trans hxr (ext_trans hx3 hxn)) hgrow (fun k hk => (hblk k hk).1)
          have hne : ∀ b, (w1.heap.size ≤ b ∧ vv.ownBlock ≠ some b) → b < (w2.alloc (.cells #[.iface pty px] 20)).heap.size → w1.heap.size ≤ b ∧ (Value.slice (some ⟨g, 0, none⟩) (us.length + 1) cap).ownBlock ≠ some b := fun b hb hl => ⟨hb.1, fun e => by
            simp only [Value.ownBlock, Option.some.injEq] at e
            subst e
            rcases hlies with hl2 | hl2
            · exact hb.2 hl2
            · omega⟩
          have hkp : Keeps (fun b => w1.heap.size ≤ b ∧ vv.ownBlock ≠ some b) (w2.alloc (.cells #[.iface pty px] 20)) w4 := keeps_grown hgrow (fun b hb e => hb.2 e.symm)
          have hV5 := Lib.hid (JsAt.snoc (JsAt.keep hne hkp _ (HV.out.ext (ext_trans hx3 hxn))) (JAt.keep hne hkp _ (HJ.out.to (S' := fun b => w1.heap.size ≤ b ∧ vv.ownBlock ≠ some b) (fun b hb _ => ⟨by omega, fun e => by have := (hblk b e).2; omega⟩))))
          have hown2 := Lib.hid hown
          clear hown hgrow hlies hne hkp hblk
          go_roundw
          case rel =>
            first
              | refine ⟨hx5, j + 1, us ++ [.iface pty px], _, rfl, by omega, by go_num, by simp [HUL.out], by simpa using hown2.out, ?_, ?_⟩
              | (repeat apply Exists.intro
                 refine And.intro ?_ rfl
                 refine ⟨hx5, j + 1, us ++ [.iface pty px], _, rfl, by omega, by go_num, by simp [HUL.out], by simpa using hown2.out, ?_, ?_⟩)
            · intro x hx
              rcases List.mem_append.1 hx with hx | hx
              · exact H1.out x hx
              · simp at hx; subst hx; rfl
            · rw [take_snoc HT.out]
              exact hV5.out
          case measure => simp [intOf]; omega
        have hfull : um.take j = um := List.take_of_length_le (by have h2 := HVG.out.1; have h3 := HVL.out; omega)
        have hulen : um.length = us.length := by have h2 := HVG.out.1; have h3 := HVL.out; have h4 := HUL.out; omega
        have hV := HV.out
        rw [hfull] at hV
        obtain ⟨la, lc, rfl, hq1, hq2, hq3⟩ := HO.out.cells (S := fun b => w1.heap.size ≤ b) (fun b hb => (World.ownsRow.lt HO.out b hb).1)
        have hJl : JAt (fun b => w1.heap.size ≤ b) wr (.iface 73 (.slice la us.length lc)) (.list um) := by
          simp only [JAt]
          exact ⟨_, _, _, us, rfl, by have := HUL.out; omega, hulen, hq1, hq2, hq3, JsAt.keep (fun b hb _ => hb.1) (fun _ _ _ => rfl) _ hV⟩
        clear hq3 hV HO HV H1
        have hnl := hm1.ext hxr
        have hnlt := hnl.lt
        have hc0 := (hbq.ext (ext_trans hx0 hxr)).cell 0 _ rfl
        have hc1 := (hbq.ext (ext_trans hx0 hxr)).cell 1 _ rfl
        have hc2 := (hbq.ext (ext_trans hx0 hxr)).cell 2 _ rfl
        have hc3 := (hbq.ext (ext_trans hx0 hxr)).cell 3 _ rfl
        have hc4 := (hbq.ext (ext_trans hx0 hxr)).cell 4 _ rfl
        have hc5 := (hbq.ext (ext_trans hx0 hxr)).cell 5 _ rfl
        have hc6 := (hbq.ext (ext_trans hx0 hxr)).cell 6 _ rfl
        have hc7 := (hbq.ext (ext_trans hx0 hxr)).cell 7 _ rfl
        have hc8 := (hbq.ext (ext_trans hx0 hxr)).cell 8 _ rfl
        go_wp2_with (at_mapUpdate; refine wp_put _ rfl _ _ _ 72 rfl 20 Tryd.underlying72 (w.heap.size + 1) [] rfl hnl (by simp [maxLen]) s_must rfl (by decide) _ rfl ?_; intro wn hnn hgn)
        go_meet
        case rel =>
          have hxn := ext_put (ext_trans hx0 hxr) hgn (by omega)
          have hkk : Keeps (fun b => b ≠ w.heap.size ∧ b ≠ w.heap.size + 1) wr wn := keeps_grown hgn (fun b hb e => by simp only [Option.some.injEq] at e; omega)
          refine ⟨hxn, (hm0.ext hxr).grown hgn (someNe hne0), _, ?_, hnn, ?_⟩
          · rw [List.length_append]; exact Nat.succ_le_succ (by simp)
          · rw [jQ_many (QsAt.len Hum.out) hE]
            exact PJ.snoc ((hp0.keep (S' := (fun b => b ≠ w.heap.size ∧ b ≠ w.heap.size + 1)) (fun _ h _ => h) (Ext.keeps hxr _)).keep (fun _ h _ => h) hkk) (JAt.keep (S := (fun b => b ≠ w.heap.size ∧ b ≠ w.heap.size + 1)) (fun _ h _ => h) hkk _ (hJl.to (fun b hb _ => by have := hm1.lt; omega)))
  case rest =>
    obtain ⟨hxc, hm0_0, rp, hr, hnc, hpc⟩ := hcut
    have hbc := hbq.ext hxc
    have hc0 := hbc.cell 0 _ rfl
    have hc1 := hbc.cell 1 _ rfl
    have hc2 := hbc.cell 2 _ rfl
    have hc3 := hbc.cell 3 _ rfl
    have hc4 := hbc.cell 4 _ rfl
    have hc5 := hbc.cell 5 _ rfl
    have hc6 := hbc.cell 6 _ rfl
    have hc7 := hbc.cell 7 _ rfl
    have hc8 := hbc.cell 8 _ rfl
    go_upto_if 96 with fail
    go_cut [] (fun wc => Ext w wc ∧ MapAt wc w.heap.size [(s_bool, .iface 72 (.map (some (w.heap.size + 1))))] ∧ ∃ rp, rp.length ≤ 2 ∧ MapAt wc (w.heap.size + 1) rp ∧ PJ (fun b => b ≠ w.heap.size ∧ b ≠ w.heap.size + 1) wc rp (jQ s_must um ++ jQ s_must_not ux))
    case first => as_aux_lemma =>
      rcases Nat.lt_trichotomy uxn 1 with hE | hE | hE
      · obtain rfl : uxn = 0 := by omega
        go_wp2_with fail
        go_meet
        case rel =>
          refine ⟨hxc, hm0_0, rp, Nat.le_succ_of_le hr, hnc, ?_⟩
          rw [jQ_none (k := s_must_not) (QsAt.len Hux.out), List.append_nil]
          exact hpc
      · subst hE
        obtain ⟨qvs, hvl, hvc, hvm, hvcell, hvG⟩ := Hux.out
        obtain ⟨qq, hqq⟩ := some_of_lt hvl (show 0 < 1 by omega)
        obtain ⟨jj, hjj⟩ := some_of_lt (l := ux) rfl (show 0 < ux.length by have := hvG.1; omega)
        obtain ⟨qb, qo, hqa, -, hqc⟩ := hvcell 0 qq hqq
        have hqc := hxc.cell hqc
        have hqc0 := hqc
        rw [Nat.add_zero] at hqc0
        obtain ⟨qty, qx, qf, hqe, hqm, hqm2, hqC⟩ := hvG.2 0 qq jj hqq hjj
        have HQC := Lib.hid hqC
        have hE1 := jQ_one (k := s_must_not) (QsAt.len Hux.out) hjj
        have HE1 := Lib.hid hE1
        clear hqC hjj hqq hvcell hvG hvl hE1
        subst hqe hqa
        have hsn := hnc.lt
        go_wp2_with (first
          | ((with_reducible show Calls _ qf _ _ _); refine (HQC.out _ (Ext.keeps (ext_trans hxc (by (repeat (first | exact ext_refl _ | assumption | refine ext_alloc ?_ _ | refine ext_drew ?_ | refine ext_set ?_ (by simp) _ | refine ext_trans ?_ (by assumption))))) _) (Ext.sz (ext_trans hxc (by (repeat (first | exact ext_refl _ | assumption | refine ext_alloc ?_ _ | refine ext_drew ?_ | refine ext_set ?_ (by simp) _ | refine ext_trans ?_ (by assumption))))))).mono ?_; rintro r ws ⟨jty, jx, rfl, hJs, hxs⟩
             have hxt : Ext w ws := ext_trans hxc (ext_trans (by (repeat (first | exact ext_refl _ | assumption | refine ext_alloc ?_ _ | refine ext_drew ?_ | refine ext_set ?_ (by simp) _ | refine ext_trans ?_ (by assumption)))) hxs)
             have hmt0 := MapAt.ext hm0_0 (ext_trans (by (repeat (first | exact ext_refl _ | assumption | refine ext_alloc ?_ _ | refine ext_drew ?_ | refine ext_set ?_ (by simp) _ | refine ext_trans ?_ (by assumption)))) hxs)
             have hnt := MapAt.ext hnc (ext_trans (by (repeat (first | exact ext_refl _ | assumption | refine ext_alloc ?_ _ | refine ext_drew ?_ | refine ext_set ?_ (by simp) _ | refine ext_trans ?_ (by assumption)))) hxs)
             have hpt := hpc.keep (S' := (fun b => b ≠ w.heap.size ∧ b ≠ w.heap.size + 1)) (fun _ h _ => h) (Ext.keeps (ext_trans (by (repeat (first | exact ext_refl _ | assumption | refine ext_alloc ?_ _ | refine ext_drew ?_ | refine ext_set ?_ (by simp) _ | refine ext_trans ?_ (by assumption)))) hxs) _)
             have hJs := hJs.to (S' := (fun b => b ≠ w.heap.size ∧ b ≠ w.heap.size + 1)) (fun b hb _ => by (try simp at hb); omega)
             have hbs := hbq.ext hxt
             have hc0 := hbs.cell 0 _ rfl
             have hc1 := hbs.cell 1 _ rfl
             have hc2 := hbs.cell 2 _ rfl
             have hc3 := hbs.cell 3 _ rfl
             have hc4 := hbs.cell 4 _ rfl
             have hc5 := hbs.cell 5 _ rfl
             have hc6 := hbs.cell 6 _ rfl
             have hc7 := hbs.cell 7 _ rfl
             have hc8 := hbs.cell 8 _ rfl)
          | (at_mapUpdate; refine wp_put _ rfl _ _ _ 72 rfl 20 Tryd.underlying72 (w.heap.size + 1) rp rfl hnt (Nat.lt_of_le_of_lt hr (by decide)) s_must_not rfl (by decide) _ rfl ?_; intro wn hnn hgn)
          | fail)
        go_meet
        case rel =>
          have hxn := ext_put hxt hgn (by omega)
          refine ⟨hxn, hmt0.grown hgn (someNe hne0), _, ?_, hnn, ?_⟩
          · rw [List.length_append]; exact Nat.succ_le_succ (by exact hr)
          · rw [HE1.out]
            have hk9 : Keeps (fun b => b ≠ w.heap.size ∧ b ≠ w.heap.size + 1) ws wn := keeps_grown hgn (fun b hb e => by simp only [Option.some.injEq] at e; omega)
            exact PJ.snoc (hpt.keep (fun _ h _ => h) hk9) (JAt.keep (fun _ h _ => h) hk9 _ hJs)
      · have hE1b : ((uxn : Int) == 1) = false := by rw [beq_eq_false_iff_ne]; omega
        go_wp2_with fail
        have hE2b : decide ((1 : Int) < (uxn : Int)) = true := by rw [decide_eq_true_eq]; omega
        try simp only [hE1b]
        try simp only [hE2b]
        obtain ⟨qvs, hvl, hvc, hvm, hvcell, hvG⟩ := Hux.out.ext hxc
        have HVL := Lib.hid hvl
        have HVC := Lib.hid hvcell
        have HVG := Lib.hid hvG
        clear hvl hvcell hvG
        go_loopw [15, 123] (fun v i wr => Ext wc wr ∧ ∃ (j : Nat) (us : List Value) (vv : Value), vv = v ∧ j ≤ uxn ∧ i = .int .i64 j ∧ us.length = j ∧ OwnAny wr wc.heap.size vv us ∧ (∀ x ∈ us, x.oneCell' = true) ∧ JsAt (fun b => wc.heap.size ≤ b ∧ vv.ownBlock ≠ some b) wr us (ux.take j)) (fun _ i _ => uxn - (intOf i).toNat)
        case atStart => exact ⟨ext_refl _, 0, [], _, rfl, Nat.zero_le _, rfl, rfl, ⟨rfl, .inl ⟨rfl, rfl⟩⟩, fun x hx => by simp at hx, by simp [JsAt]⟩
        case round =>
          obtain ⟨hxr, j, us, vv, hve, hj, rfl, hul, hO, h1, hV⟩ := hrel
          subst hve
          have HO := Lib.hid hO
          have HV := Lib.hid hV
          have HUL := Lib.hid hul
          have H1 := Lib.hid h1
          clear hO hV hul h1
          by_cases hlt : j < uxn
          case pos =>
            obtain ⟨qq, hqq⟩ := some_of_lt HVL.out hlt
            obtain ⟨jj, hjj⟩ := some_of_lt (l := ux) rfl (show j < ux.length by have h2 := HVG.out.1; have h3 := HVL.out; omega)
            obtain ⟨qb, qo, hqa, -, hqc⟩ := HVC.out j qq hqq
            have hqc := hxr.cell hqc
            obtain ⟨qty, qx, qf, hqe, hqm, hqm2, hqC⟩ := (HVG.out.2 j qq jj hqq hjj).ext hxr
            have HT := Lib.hid hjj
            have HQC := Lib.hid hqC
            clear hqC hjj hqq
            subst hqe hqa
            have hszr := hxr.sz
            have tokB := trivial
            go_wp2_with (first
              | ((with_reducible show Calls _ qf _ _ _); refine (HQC.out _ (Ext.keeps (by (repeat (first | exact ext_refl _ | assumption | refine ext_alloc ?_ _ | refine ext_drew ?_ | refine ext_set ?_ (by simp) _ | refine ext_trans ?_ (by assumption)))) _) (Ext.sz (by (repeat (first | exact ext_refl _ | assumption | refine ext_alloc ?_ _ | refine ext_drew ?_ | refine ext_set ?_ (by simp) _ | refine ext_trans ?_ (by assumption)))))).mono ?_; rintro r w2 ⟨pty, px, rfl, hJ, hx2⟩
                 have hx3 : Ext wr w2 := ext_trans (by (repeat (first | exact ext_refl _ | assumption | refine ext_alloc ?_ _ | refine ext_drew ?_ | refine ext_set ?_ (by simp) _ | refine ext_trans ?_ (by assumption)))) hx2
                 have hJ := hJ.to (S' := fun b => wr.heap.size ≤ b) (fun b hb _ => by (try simp at hb); omega)
                 have hxn : Ext w2 (w2.alloc (.cells #[.iface pty px] 20)) := ext_alloc (ext_refl _) _
                 have hbn : Box (w2.alloc (.cells #[.iface pty px] 20)) w2.heap.size #[.iface pty px] 20 := Box.at rfl _ _
                 have HJ := Lib.hid (hJ.ext hxn)
                 clear hJ)
              | (at_builtin; have _t := tokB; clear _t tokB; refine list_append_any _ rfl _ _ rfl wc.heap.size vv us rfl (HO.out.ext (ext_trans hx3 hxn)) w2.heap.size 0 1 [.iface pty px] (by simp) (fun u hu => by simp at hu; subst hu; rfl) rfl (fun i f hf => by
                   cases i with
                   | zero => simp at hf; subst hf; exact hbn.cell 0 _ rfl
                   | succ i => simp at hf) (by have := HUL.out; simp; omega) (by have := (ext_trans hx3 hxn).sz; omega) ?_; intro g cap w4 hown hgrow hlies hglt)
              | fail)
            have hszn := (ext_trans hx3 hxn).sz
            have hblk : ∀ k, vv.ownBlock = some k → wc.heap.size ≤ k ∧ k < wr.heap.size := fun k hk => World.ownsRow.lt HO.out k hk
            have hx5 : Ext wc w4 := ext_grown (ext_trans hxr (ext_trans hx3 hxn)) hgrow (fun k hk => (hblk k hk).1)
            have hne : ∀ b, (wc.heap.size ≤ b ∧ vv.ownBlock ≠ some b) → b < (w2.alloc (.cells #[.iface pty px] 20)).heap.size → wc.heap.size ≤ b ∧ (Value.slice (some ⟨g, 0, none⟩) (us.length + 1) cap).ownBlock ≠ some b := fun b hb hl => ⟨hb.1, fun e => by
              simp only [Value.ownBlock, Option.some.injEq] at e
              subst e
              rcases hlies with hl2 | hl2
              · exact hb.2 hl2
              · omega⟩
            have hkp : Keeps (fun b => wc.heap.size ≤ b ∧ vv.ownBlock ≠ some b) (w2.alloc (.cells #[.iface pty px] 20)) w4 := keeps_grown hgrow (fun b hb e => hb.2 e.symm)
            have hV5 := Lib.hid (JsAt.snoc (JsAt.keep hne hkp _ (HV.out.ext (ext_trans hx3 hxn))) (JAt.keep hne hkp _ (HJ.out.to (S' := fun b => wc.heap.size ≤ b ∧ vv.ownBlock ≠ some b) (fun b hb _ => ⟨by omega, fun e => by have := (hblk b e).2; omega⟩))))
            have hown2 := Lib.hid hown
            clear hown hgrow hlies hne hkp hblk
            go_roundw
            case rel =>
              first
                | refine ⟨hx5, j + 1, us ++ [.iface pty px], _, rfl, by omega, by go_num, by simp [HUL.out], by simpa using hown2.out, ?_, ?_⟩
                | (repeat apply Exists.intro
                   refine And.intro ?_ rfl
                   refine ⟨hx5, j + 1, us ++ [.iface pty px], _, rfl, by omega, by go_num, by simp [HUL.out], by simpa using hown2.out, ?_, ?_⟩)
              · intro x hx
                rcases List.mem_append.1 hx with hx | hx
                · exact H1.out x hx
                · simp at hx; subst hx; rfl
              · rw [take_snoc HT.out]
                exact hV5.out
            case measure => simp [intOf]; omega
          have hfull : ux.take j = ux := List.take_of_length_le (by have h2 := HVG.out.1; have h3 := HVL.out; omega)
          have hulen : ux.length = us.length := by have h2 := HVG.out.1; have h3 := HVL.out; have h4 := HUL.out; omega
          have hV := HV.out
          rw [hfull] at hV
          obtain ⟨la, lc, rfl, hq1, hq2, hq3⟩ := HO.out.cells (S := fun b => wc.heap.size ≤ b) (fun b hb => (World.ownsRow.lt HO.out b hb).1)
          have hJl : JAt (fun b => wc.heap.size ≤ b) wr (.iface 73 (.slice la us.length lc)) (.list ux) := by
            simp only [JAt]
            exact ⟨_, _, _, us, rfl, by have := HUL.out; omega, hulen, hq1, hq2, hq3, JsAt.keep (fun b hb _ => hb.1) (fun _ _ _ => rfl) _ hV⟩
          clear hq3 hV HO HV H1
          have hnl := hnc.ext hxr
          have hnlt := hnl.lt
          have hc0 := (hbq.ext (ext_trans hxc hxr)).cell 0 _ rfl
          have hc1 := (hbq.ext (ext_trans hxc hxr)).cell 1 _ rfl
          have hc2 := (hbq.ext (ext_trans hxc hxr)).cell 2 _ rfl
          have hc3 := (hbq.ext (ext_trans hxc hxr)).cell 3 _ rfl
          have hc4 := (hbq.ext (ext_trans hxc hxr)).cell 4 _ rfl
          have hc5 := (hbq.ext (ext_trans hxc hxr)).cell 5 _ rfl
          have hc6 := (hbq.ext (ext_trans hxc hxr)).cell 6 _ rfl
          have hc7 := (hbq.ext (ext_trans hxc hxr)).cell 7 _ rfl
          have hc8 := (hbq.ext (ext_trans hxc hxr)).cell 8 _ rfl
          go_wp2_with (at_mapUpdate; refine wp_put _ rfl _ _ _ 72 rfl 20 Tryd.underlying72 (w.heap.size + 1) rp rfl hnl (Nat.lt_of_le_of_lt hr (by decide)) s_must_not rfl (by decide) _ rfl ?_; intro wn hnn hgn)
          go_meet
          case rel =>
            have hxn := ext_put (ext_trans hxc hxr) hgn (by omega)
            have hkk : Keeps (fun b => b ≠ w.heap.size ∧ b ≠ w.heap.size + 1) wr wn := keeps_grown hgn (fun b hb e => by simp only [Option.some.injEq] at e; omega)
            refine ⟨hxn, (hm0_0.ext hxr).grown hgn (someNe hne0), _, ?_, hnn, ?_⟩
            · rw [List.length_append]; exact Nat.succ_le_succ (by exact hr)
            · rw [jQ_many (QsAt.len Hux.out) hE]
              exact PJ.snoc ((hpc.keep (S' := (fun b => b ≠ w.heap.size ∧ b ≠ w.heap.size + 1)) (fun _ h _ => h) (Ext.keeps hxr _)).keep (fun _ h _ => h) hkk) (JAt.keep (S := (fun b => b ≠ w.heap.size ∧ b ≠ w.heap.size + 1)) (fun _ h _ => h) hkk _ (hJl.to (fun b hb _ => by have := hnc.lt; omega)))
    case rest => as_aux_lemma =>
      obtain ⟨hxc, hm0_1, rp, hr, hnc, hpc⟩ := hcut
      have hbc := hbq.ext hxc
      have hc0 := hbc.cell 0 _ rfl
      have hc1 := hbc.cell 1 _ rfl
      have hc2 := hbc.cell 2 _ rfl
      have hc3 := hbc.cell 3 _ rfl
      have hc4 := hbc.cell 4 _ rfl
      have hc5 := hbc.cell 5 _ rfl
      have hc6 := hbc.cell 6 _ rfl
      have hc7 := hbc.cell 7 _ rfl
      have hc8 := hbc.cell 8 _ rfl
      go_upto_if 148 with fail
      go_cut [] (fun wc => Ext w wc ∧ MapAt wc w.heap.size [(s_bool, .iface 72 (.map (some (w.heap.size + 1))))] ∧ ∃ rp, rp.length ≤ 3 ∧ MapAt wc (w.heap.size + 1) rp ∧ PJ (fun b => b ≠ w.heap.size ∧ b ≠ w.heap.size + 1) wc rp (jQ s_must um ++ jQ s_must_not ux ++ jQ s_filter uf))
      case first => as_aux_lemma =>
        rcases Nat.lt_trichotomy ufn 1 with hE | hE | hE
        · obtain rfl : ufn = 0 := by omega
          go_wp2_with fail
          go_meet
          case rel =>
            refine ⟨hxc, hm0_1, rp, Nat.le_succ_of_le hr, hnc, ?_⟩
            rw [jQ_none (k := s_filter) (QsAt.len Huf.out), List.append_nil]
            exact hpc
        · subst hE
          obtain ⟨qvs, hvl, hvc, hvm, hvcell, hvG⟩ := Huf.out
          obtain ⟨qq, hqq⟩ := some_of_lt hvl (show 0 < 1 by omega)
          obtain ⟨jj, hjj⟩ := some_of_lt (l := uf) rfl (show 0 < uf.length by have := hvG.1; omega)
          obtain ⟨qb, qo, hqa, -, hqc⟩ := hvcell 0 qq hqq
          have hqc := hxc.cell hqc
          have hqc0 := hqc
          rw [Nat.add_zero] at hqc0
          obtain ⟨qty, qx, qf, hqe, hqm, hqm2, hqC⟩ := hvG.2 0 qq jj hqq hjj
          have HQC := Lib.hid hqC
          have hE1 := jQ_one (k := s_filter) (QsAt.len Huf.out) hjj
          have HE1 := Lib.hid hE1
          clear hqC hjj hqq hvcell hvG hvl hE1
          subst hqe hqa
          have hsn := hnc.lt
          go_wp2_with (first
            | ((with_reducible show Calls _ qf _ _ _); refine (HQC.out _ (Ext.keeps (ext_trans hxc (by (repeat (first | exact ext_refl _ | assumption | refine ext_alloc ?_ _ | refine ext_drew ?_ | refine ext_set ?_ (by simp) _ | refine ext_trans ?_ (by assumption))))) _) (Ext.sz (ext_trans hxc (by (repeat (first | exact ext_refl _ | assumption | refine ext_alloc ?_ _ | refine ext_drew ?_ | refine ext_set ?_ (by simp) _ | refine ext_trans ?_ (by assumption))))))).mono ?_; rintro r ws ⟨jty, jx, rfl, hJs, hxs⟩
               have hxt : Ext w ws := ext_trans hxc (ext_trans (by (repeat (first | exact ext_refl _ | assumption | refine ext_alloc ?_ _ | refine ext_drew ?_ | refine ext_set ?_ (by simp) _ | refine ext_trans ?_ (by assumption)))) hxs)
               have hmt0 := MapAt.ext hm0_1 (ext_trans (by (repeat (first | exact ext_refl _ | assumption | refine ext_alloc ?_ _ | refine ext_drew ?_ | refine ext_set ?_ (by simp) _ | refine ext_trans ?_ (by assumption)))) hxs)
               have hnt := MapAt.ext hnc (ext_trans (by (repeat (first | exact ext_refl _ | assumption | refine ext_alloc ?_ _ | refine ext_drew ?_ | refine ext_set ?_ (by simp) _ | refine ext_trans ?_ (by assumption)))) hxs)
               have hpt := hpc.keep (S' := (fun b => b ≠ w.heap.size ∧ b ≠ w.heap.size + 1)) (fun _ h _ => h) (Ext.keeps (ext_trans (by (repeat (first | exact ext_refl _ | assumption | refine ext_alloc ?_ _ | refine ext_drew ?_ | refine ext_set ?_ (by simp) _ | refine ext_trans ?_ (by assumption)))) hxs) _)
               have hJs := hJs.to (S' := (fun b => b ≠ w.heap.size ∧ b ≠ w.heap.size + 1)) (fun b hb _ => by (try simp at hb); omega)
               have hbs := hbq.ext hxt
               have hc0 := hbs.cell 0 _ rfl
               have hc1 := hbs.cell 1 _ rfl
               have hc2 := hbs.cell 2 _ rfl
               have hc3 := hbs.cell 3 _ rfl
               have hc4 := hbs.cell 4 _ rfl
               have hc5 := hbs.cell 5 _ rfl
               have hc6 := hbs.cell 6 _ rfl
               have hc7 := hbs.cell 7 _ rfl
               have hc8 := hbs.cell 8 _ rfl)
            | (at_mapUpdate; refine wp_put _ rfl _ _ _ 72 rfl 20 Tryd.underlying72 (w.heap.size + 1) rp rfl hnt (Nat.lt_of_le_of_lt hr (by decide)) s_filter rfl (by decide) _ rfl ?_; intro wn hnn hgn)
            | fail)
          go_meet
          case rel =>
            have hxn := ext_put hxt hgn (by omega)
            refine ⟨hxn, hmt0.grown hgn (someNe hne0), _, ?_, hnn, ?_⟩
            · rw [List.length_append]; exact Nat.succ_le_succ (by exact hr)
            · rw [HE1.out]
              have hk9 : Keeps (fun b => b ≠ w.heap.size ∧ b ≠ w.heap.size + 1) ws wn := keeps_grown hgn (fun b hb e => by simp only [Option.some.injEq] at e; omega)
              exact PJ.snoc (hpt.keep (fun _ h _ => h) hk9) (JAt.keep (fun _ h _ => h) hk9 _ hJs)
        · have hE1b : ((ufn : Int) == 1) = false := by rw [beq_eq_false_iff_ne]; omega
          go_wp2_with fail
          have hE2b : decide ((1 : Int) < (ufn : Int)) = true := by rw [decide_eq_true_eq]; omega
          try simp only [hE1b]
          try simp only [hE2b]
          obtain ⟨qvs, hvl, hvc, hvm, hvcell, hvG⟩ := Huf.out.ext hxc
          have HVL := Lib.hid hvl
          have HVC := Lib.hid hvcell
          have HVG := Lib.hid hvG
          clear hvl hvcell hvG
          go_loopw [22, 175] (fun v i wr => Ext wc wr ∧ ∃ (j : Nat) (us : List Value) (vv : Value), vv = v ∧ j ≤ ufn ∧ i = .int .i64 j ∧ us.length = j ∧ OwnAny wr wc.heap.size vv us ∧ (∀ x ∈ us, x.oneCell' = true) ∧ JsAt (fun b => wc.heap.size ≤ b ∧ vv.ownBlock ≠ some b) wr us (uf.take j)) (fun _ i _ => ufn - (intOf i).toNat)
          case atStart => exact ⟨ext_refl _, 0, [], _, rfl, Nat.zero_le _, rfl, rfl, ⟨rfl, .inl ⟨rfl, rfl⟩⟩, fun x hx => by simp at hx, by simp [JsAt]⟩
          case round =>
            obtain ⟨hxr, j, us, vv, hve, hj, rfl, hul, hO, h1, hV⟩ := hrel
            subst hve
            have HO := Lib.hid hO
            have HV := Lib.hid hV
            have HUL := Lib.hid hul
            have H1 := Lib.hid h1
            clear hO hV hul h1
            by_cases hlt : j < ufn
            case pos =>
              obtain ⟨qq, hqq⟩ := some_of_lt HVL.out hlt
              obtain ⟨jj, hjj⟩ := some_of_lt (l := uf) rfl (show j < uf.length by have h2 := HVG.out.1; have h3 := HVL.out; omega)
              obtain ⟨qb, qo, hqa, -, hqc⟩ := HVC.out j qq hqq
              have hqc := hxr.cell hqc
              obtain ⟨qty, qx, qf, hqe, hqm, hqm2, hqC⟩ := (HVG.out.2 j qq jj hqq hjj).ext hxr
              have HT := Lib.hid hjj
              have HQC := Lib.hid hqC
              clear hqC hjj hqq
              subst hqe hqa
              have hszr := hxr.sz
              have tokB := trivial
              go_wp2_with (first
                | ((with_reducible show Calls _ qf _ _ _); refine (HQC.out _ (Ext.keeps (by (repeat (first | exact ext_refl _ | assumption | refine ext_alloc ?_ _ | refine ext_drew ?_ | refine ext_set ?_ (by simp) _ | refine ext_trans ?_ (by assumption)))) _) (Ext.sz (by (repeat (first | exact ext_refl _ | assumption | refine ext_alloc ?_ _ | refine ext_drew ?_ | refine ext_set ?_ (by simp) _ | refine ext_trans ?_ (by assumption)))))).mono ?_; rintro r w2 ⟨pty, px, rfl, hJ, hx2⟩
                   have hx3 : Ext wr w2 := ext_trans (by (repeat (first | exact ext_refl _ | assumption | refine ext_alloc ?_ _ | refine ext_drew ?_ | refine ext_set ?_ (by simp) _ | refine ext_trans ?_ (by assumption)))) hx2
                   have hJ := hJ.to (S' := fun b => wr.heap.size ≤ b) (fun b hb _ => by (try simp at hb); omega)
                   have hxn : Ext w2 (w2.alloc (.cells #[.iface pty px] 20)) := ext_alloc (ext_refl _) _
                   have hbn : Box (w2.alloc (.cells #[.iface pty px] 20)) w2.heap.size #[.iface pty px] 20 := Box.at rfl _ _
                   have HJ := Lib.hid (hJ.ext hxn)
                   clear hJ)
                | (at_builtin; have _t := tokB; clear _t tokB; refine list_append_any _ rfl _ _ rfl wc.heap.size vv us rfl (HO.out.ext (ext_trans hx3 hxn)) w2.heap.size 0 1 [.iface pty px] (by simp) (fun u hu => by simp at hu; subst hu; rfl) rfl (fun i f hf => by
                     cases i with
                     | zero => simp at hf; subst hf; exact hbn.cell 0 _ rfl
                     | succ i => simp at hf) (by have := HUL.out; simp; omega) (by have := (ext_trans hx3 hxn).sz; omega) ?_; intro g cap w4 hown hgrow hlies hglt)
                | fail)
              have hszn := (ext_trans hx3 hxn).sz
              have hblk : ∀ k, vv.ownBlock = some k → wc.heap.size ≤ k ∧ k < wr.heap.size := fun k hk => World.ownsRow.lt HO.out k hk
              have hx5 : Ext wc w4 := ext_grown (ext_trans hxr (ext_trans hx3 hxn)) hgrow (fun k hk => (hblk k hk).1)
              have hne : ∀ b, (wc.heap.size ≤ b ∧ vv.ownBlock ≠ some b) → b < (w2.alloc (.cells #[.iface pty px] 20)).heap.size → wc.heap.size ≤ b ∧ (Value.slice (some ⟨g, 0, none⟩) (us.length + 1) cap).ownBlock ≠ some b := fun b hb hl => ⟨hb.1, fun e => by
                simp only [Value.ownBlock, Option.some.injEq] at e
                subst e
                rcases hlies with hl2 | hl2
                · exact hb.2 hl2
                · omega⟩
              have hkp : Keeps (fun b => wc.heap.size ≤ b ∧ vv.ownBlock ≠ some b) (w2.alloc (.cells #[.iface pty px] 20)) w4 := keeps_grown hgrow (fun b hb e => hb.2 e.symm)
              have hV5 := Lib.hid (JsAt.snoc (JsAt.keep hne hkp _ (HV.out.ext (ext_trans hx3 hxn))) (JAt.keep hne hkp _ (HJ.out.to (S' := fun b => wc.heap.size ≤ b ∧ vv.ownBlock ≠ some b) (fun b hb _ => ⟨by omega, fun e => by have := (hblk b e).2; omega⟩))))
              have hown2 := Lib.hid hown
              clear hown hgrow hlies hne hkp hblk
              go_roundw
              case rel =>
                first
                  | refine ⟨hx5, j + 1, us ++ [.iface pty px], _, rfl, by omega, by go_num, by simp [HUL.out], by simpa using hown2.out, ?_, ?_⟩
                  | (repeat apply Exists.intro
                     refine And.intro ?_ rfl
                     refine ⟨hx5, j + 1, us ++ [.iface pty px], _, rfl, by omega, by go_num, by simp [HUL.out], by simpa using hown2.out, ?_, ?_⟩)
                · intro x hx
                  rcases List.mem_append.1 hx with hx | hx
                  · exact H1.out x hx
                  · simp at hx; subst hx; rfl
                · rw [take_snoc HT.out]
                  exact hV5.out
              case measure => simp [intOf]; omega
            have hfull : uf.take j = uf := List.take_of_length_le (by have h2 := HVG.out.1; have h3 := HVL.out; omega)
            have hulen : uf.length = us.length := by have h2 := HVG.out.1; have h3 := HVL.out; have h4 := HUL.out; omega
            have hV := HV.out
            rw [hfull] at hV
            obtain ⟨la, lc, rfl, hq1, hq2, hq3⟩ := HO.out.cells (S := fun b => wc.heap.size ≤ b) (fun b hb => (World.ownsRow.lt HO.out b hb).1)
            have hJl : JAt (fun b => wc.heap.size ≤ b) wr (.iface 73 (.slice la us.length lc)) (.list uf) := by
              simp only [JAt]
              exact ⟨_, _, _, us, rfl, by have := HUL.out; omega, hulen, hq1, hq2, hq3, JsAt.keep (fun b hb _ => hb.1) (fun _ _ _ => rfl) _ hV⟩
            clear hq3 hV HO HV H1
            have hnl := hnc.ext hxr
            have hnlt := hnl.lt
            have hc0 := (hbq.ext (ext_trans hxc hxr)).cell 0 _ rfl
            have hc1 := (hbq.ext (ext_trans hxc hxr)).cell 1 _ rfl
            have hc2 := (hbq.ext (ext_trans hxc hxr)).cell 2 _ rfl
            have hc3 := (hbq.ext (ext_trans hxc hxr)).cell 3 _ rfl
            have hc4 := (hbq.ext (ext_trans hxc hxr)).cell 4 _ rfl
            have hc5 := (hbq.ext (ext_trans hxc hxr)).cell 5 _ rfl
            have hc6 := (hbq.ext (ext_trans hxc hxr)).cell 6 _ rfl
            have hc7 := (hbq.ext (ext_trans hxc hxr)).cell 7 _ rfl
            have hc8 := (hbq.ext (ext_trans hxc hxr)).cell 8 _ rfl
            go_wp2_with (at_mapUpdate; refine wp_put _ rfl _ _ _ 72 rfl 20 Tryd.underlying72 (w.heap.size + 1) rp rfl hnl (Nat.lt_of_le_of_lt hr (by decide)) s_filter rfl (by decide) _ rfl ?_; intro wn hnn hgn)
            go_meet
            case rel =>
              have hxn := ext_put (ext_trans hxc hxr) hgn (by omega)
              have hkk : Keeps (fun b => b ≠ w.heap.size ∧ b ≠ w.heap.size + 1) wr wn := keeps_grown hgn (fun b hb e => by simp only [Option.some.injEq] at e; omega)
              refine ⟨hxn, (hm0_1.ext hxr).grown hgn (someNe hne0), _, ?_, hnn, ?_⟩
              · rw [List.length_append]; exact Nat.succ_le_succ (by exact hr)
              · rw [jQ_many (QsAt.len Huf.out) hE]
                exact PJ.snoc ((hpc.keep (S' := (fun b => b ≠ w.heap.size ∧ b ≠ w.heap.size + 1)) (fun _ h _ => h) (Ext.keeps hxr _)).keep (fun _ h _ => h) hkk) (JAt.keep (S := (fun b => b ≠ w.heap.size ∧ b ≠ w.heap.size + 1)) (fun _ h _ => h) hkk _ (hJl.to (fun b hb _ => by have := hnc.lt; omega)))
      case rest => as_aux_lemma =>
        obtain ⟨hxc, hm0_2, rp, hr, hnc, hpc⟩ := hcut
        have hbc := hbq.ext hxc
        have hc0 := hbc.cell 0 _ rfl
        have hc1 := hbc.cell 1 _ rfl
        have hc2 := hbc.cell 2 _ rfl
        have hc3 := hbc.cell 3 _ rfl
        have hc4 := hbc.cell 4 _ rfl
        have hc5 := hbc.cell 5 _ rfl
        have hc6 := hbc.cell 6 _ rfl
        have hc7 := hbc.cell 7 _ rfl
        have hc8 := hbc.cell 8 _ rfl
        go_upto_if 200 with fail
        go_cut [] (fun wc => Ext w wc ∧ MapAt wc w.heap.size [(s_bool, .iface 72 (.map (some (w.heap.size + 1))))] ∧ ∃ rp, rp.length ≤ 4 ∧ MapAt wc (w.heap.size + 1) rp ∧ PJ (fun b => b ≠ w.heap.size ∧ b ≠ w.heap.size + 1) wc rp (jQ s_must um ++ jQ s_must_not ux ++ jQ s_filter uf ++ jQ s_should uz))
        case first => as_aux_lemma =>
          rcases Nat.lt_trichotomy uzn 1 with hE | hE | hE
          · obtain rfl : uzn = 0 := by omega
            go_wp2_with fail
            go_meet
            case rel =>
              refine ⟨hxc, hm0_2, rp, Nat.le_succ_of_le hr, hnc, ?_⟩
              rw [jQ_none (k := s_should) (QsAt.len Huz.out), List.append_nil]
              exact hpc
          · subst hE
            obtain ⟨qvs, hvl, hvc, hvm, hvcell, hvG⟩ := Huz.out
            obtain ⟨qq, hqq⟩ := some_of_lt hvl (show 0 < 1 by omega)
            obtain ⟨jj, hjj⟩ := some_of_lt (l := uz) rfl (show 0 < uz.length by have := hvG.1; omega)
            obtain ⟨qb, qo, hqa, -, hqc⟩ := hvcell 0 qq hqq
            have hqc := hxc.cell hqc
            have hqc0 := hqc
            rw [Nat.add_zero] at hqc0
            obtain ⟨qty, qx, qf, hqe, hqm, hqm2, hqC⟩ := hvG.2 0 qq jj hqq hjj
            have HQC := Lib.hid hqC
            have hE1 := jQ_one (k := s_should) (QsAt.len Huz.out) hjj
            have HE1 := Lib.hid hE1
            clear hqC hjj hqq hvcell hvG hvl hE1
            subst hqe hqa
            have hsn := hnc.lt
            go_wp2_with (first
              | ((with_reducible show Calls _ qf _ _ _); refine (HQC.out _ (Ext.keeps (ext_trans hxc (by (repeat (first | exact ext_refl _ | assumption | refine ext_alloc ?_ _ | refine ext_drew ?_ | refine ext_set ?_ (by simp) _ | refine ext_trans ?_ (by assumption))))) _) (Ext.sz (ext_trans hxc (by (repeat (first | exact ext_refl _ | assumption | refine ext_alloc ?_ _ | refine ext_drew ?_ | refine ext_set ?_ (by simp) _ | refine ext_trans ?_ (by assumption))))))).mono ?_; rintro r ws ⟨jty, jx, rfl, hJs, hxs⟩
                 have hxt : Ext w ws := ext_trans hxc (ext_trans (by (repeat (first | exact ext_refl _ | assumption | refine ext_alloc ?_ _ | refine ext_drew ?_ | refine ext_set ?_ (by simp) _ | refine ext_trans ?_ (by assumption)))) hxs)
                 have hmt0 := MapAt.ext hm0_2 (ext_trans (by (repeat (first | exact ext_refl _ | assumption | refine ext_alloc ?_ _ | refine ext_drew ?_ | refine ext_set ?_ (by simp) _ | refine ext_trans ?_ (by assumption)))) hxs)
                 have hnt := MapAt.ext hnc (ext_trans (by (repeat (first | exact ext_refl _ | assumption | refine ext_alloc ?_ _ | refine ext_drew ?_ | refine ext_set ?_ (by simp) _ | refine ext_trans ?_ (by assumption)))) hxs)
                 have hpt := hpc.keep (S' := (fun b => b ≠ w.heap.size ∧ b ≠ w.heap.size + 1)) (fun _ h _ => h) (Ext.keeps (ext_trans (by (repeat (first | exact ext_refl _ | assumption | refine ext_alloc ?_ _ | refine ext_drew ?_ | refine ext_set ?_ (by simp) _ | refine ext_trans ?_ (by assumption)))) hxs) _)
                 have hJs := hJs.to (S' := (fun b => b ≠ w.heap.size ∧ b ≠ w.heap.size + 1)) (fun b hb _ => by (try simp at hb); omega)
                 have hbs := hbq.ext hxt
                 have hc0 := hbs.cell 0 _ rfl
                 have hc1 := hbs.cell 1 _ rfl
                 have hc2 := hbs.cell 2 _ rfl
                 have hc3 := hbs.cell 3 _ rfl
                 have hc4 := hbs.cell 4 _ rfl
                 have hc5 := hbs.cell 5 _ rfl
                 have hc6 := hbs.cell 6 _ rfl
                 have hc7 := hbs.cell 7 _ rfl
                 have hc8 := hbs.cell 8 _ rfl)
              | (at_mapUpdate; refine wp_put _ rfl _ _ _ 72 rfl 20 Tryd.underlying72 (w.heap.size + 1) rp rfl hnt (Nat.lt_of_le_of_lt hr (by decide)) s_should rfl (by decide) _ rfl ?_; intro wn hnn hgn)
              | fail)
            go_meet
            case rel =>
              have hxn := ext_put hxt hgn (by omega)
              refine ⟨hxn, hmt0.grown hgn (someNe hne0), _, ?_, hnn, ?_⟩
              · rw [List.length_append]; exact Nat.succ_le_succ (by exact hr)
              · rw [HE1.out]
                have hk9 : Keeps (fun b => b ≠ w.heap.size ∧ b ≠ w.heap.size + 1) ws wn := keeps_grown hgn (fun b hb e => by simp only [Option.some.injEq] at e; omega)
                exact PJ.snoc (hpt.keep (fun _ h _ => h) hk9) (JAt.keep (fun _ h _ => h) hk9 _ hJs)
          · have hE1b : ((uzn : Int) == 1) = false := by rw [beq_eq_false_iff_ne]; omega
            go_wp2_with fail
            have hE2b : decide ((1 : Int) < (uzn : Int)) = true := by rw [decide_eq_true_eq]; omega
            try simp only [hE1b]
            try simp only [hE2b]
            obtain ⟨qvs, hvl, hvc, hvm, hvcell, hvG⟩ := Huz.out.ext hxc
            have HVL := Lib.hid hvl
            have HVC := Lib.hid hvcell
            have HVG := Lib.hid hvG
            clear hvl hvcell hvG
            go_loopw [29, 227] (fun v i wr => Ext wc wr ∧ ∃ (j : Nat) (us : List Value) (vv : Value), vv = v ∧ j ≤ uzn ∧ i = .int .i64 j ∧ us.length = j ∧ OwnAny wr wc.heap.size vv us ∧ (∀ x ∈ us, x.oneCell' = true) ∧ JsAt (fun b => wc.heap.size ≤ b ∧ vv.ownBlock ≠ some b) wr us (uz.take j)) (fun _ i _ => uzn - (intOf i).toNat)
            case atStart => exact ⟨ext_refl _, 0, [], _, rfl, Nat.zero_le _, rfl, rfl, ⟨rfl, .inl ⟨rfl, rfl⟩⟩, fun x hx => by simp at hx, by simp [JsAt]⟩
            case round =>
              obtain ⟨hxr, j, us, vv, hve, hj, rfl, hul, hO, h1, hV⟩ := hrel
              subst hve
              have HO := Lib.hid hO
              have HV := Lib.hid hV
              have HUL := Lib.hid hul
              have H1 := Lib.hid h1
              clear hO hV hul h1
              by_cases hlt : j < uzn
              case pos =>
                obtain ⟨qq, hqq⟩ := some_of_lt HVL.out hlt
                obtain ⟨jj, hjj⟩ := some_of_lt (l := uz) rfl (show j < uz.length by have h2 := HVG.out.1; have h3 := HVL.out; omega)
                obtain ⟨qb, qo, hqa, -, hqc⟩ := HVC.out j qq hqq
                have hqc := hxr.cell hqc
                obtain ⟨qty, qx, qf, hqe, hqm, hqm2, hqC⟩ := (HVG.out.2 j qq jj hqq hjj).ext hxr
                have HT := Lib.hid hjj
                have HQC := Lib.hid hqC
                clear hqC hjj hqq
                subst hqe hqa
                have hszr := hxr.sz
                have tokB := trivial
                go_wp2_with (first
                  | ((with_reducible show Calls _ qf _ _ _); refine (HQC.out _ (Ext.keeps (by (repeat (first | exact ext_refl _ | assumption | refine ext_alloc ?_ _ | refine ext_drew ?_ | refine ext_set ?_ (by simp) _ | refine ext_trans ?_ (by assumption)))) _) (Ext.sz (by (repeat (first | exact ext_refl _ | assumption | refine ext_alloc ?_ _ | refine ext_drew ?_ | refine ext_set ?_ (by simp) _ | refine ext_trans ?_ (by assumption)))))).mono ?_; rintro r w2 ⟨pty, px, rfl, hJ, hx2⟩
                     have hx3 : Ext wr w2 := ext_trans (by (repeat (first | exact ext_refl _ | assumption | refine ext_alloc ?_ _ | refine ext_drew ?_ | refine ext_set ?_ (by simp) _ | refine ext_trans ?_ (by assumption)))) hx2
                     have hJ := hJ.to (S' := fun b => wr.heap.size ≤ b) (fun b hb _ => by (try simp at hb); omega)
                     have hxn : Ext w2 (w2.alloc (.cells #[.iface pty px] 20)) := ext_alloc (ext_refl _) _
                     have hbn : Box (w2.alloc (.cells #[.iface pty px] 20)) w2.heap.size #[.iface pty px] 20 := Box.at rfl _ _
                     have HJ := Lib.hid (hJ.ext hxn)
                     clear hJ)
                  | (at_builtin; have _t := tokB; clear _t tokB; refine list_append_any _ rfl _ _ rfl wc.heap.size vv us rfl (HO.out.ext (ext_trans hx3 hxn)) w2.heap.size 0 1 [.iface pty px] (by simp) (fun u hu => by simp at hu; subst hu; rfl) rfl (fun i f hf => by
                       cases i with
                       | zero => simp at hf; subst hf; exact hbn.cell 0 _ rfl
                       | succ i => simp at hf) (by have := HUL.out; simp; omega) (by have := (ext_trans hx3 hxn).sz; omega) ?_; intro g cap w4 hown hgrow hlies hglt)
                  | fail)
                have hszn := (ext_trans hx3 hxn).sz
                have hblk : ∀ k, vv.ownBlock = some k → wc.heap.size ≤ k ∧ k < wr.heap.size := fun k hk => World.ownsRow.lt HO.out k hk
                have hx5 : Ext wc w4 := ext_grown (ext_trans hxr (ext_trans hx3 hxn)) hgrow (fun k hk => (hblk k hk).1)
                have hne : ∀ b, (wc.heap.size ≤ b ∧ vv.ownBlock ≠ some b) → b < (w2.alloc (.cells #[.iface pty px] 20)).heap.size → wc.heap.size ≤ b ∧ (Value.slice (some ⟨g, 0, none⟩) (us.length + 1) cap).ownBlock ≠ some b := fun b hb hl => ⟨hb.1, fun e => by
                  simp only [Value.ownBlock, Option.some.injEq] at e
                  subst e
                  rcases hlies with hl2 | hl2
                  · exact hb.2 hl2
                  · omega⟩
                have hkp : Keeps (fun b => wc.heap.size ≤ b ∧ vv.ownBlock ≠ some b) (w2.alloc (.cells #[.iface pty px] 20)) w4 := keeps_grown hgrow (fun b hb e => hb.2 e.symm)
                have hV5 := Lib.hid (JsAt.snoc (JsAt.keep hne hkp _ (HV.out.ext (ext_trans hx3 hxn))) (JAt.keep hne hkp _ (HJ.out.to (S' := fun b => wc.heap.size ≤ b ∧ vv.ownBlock ≠ some b) (fun b hb _ => ⟨by omega, fun e => by have := (hblk b e).2; omega⟩))))
                have hown2 := Lib.hid hown
                clear hown hgrow hlies hne hkp hblk
                go_roundw
                case rel =>
                  first
                    | refine ⟨hx5, j + 1, us ++ [.iface pty px], _, rfl, by omega, by go_num, by simp [HUL.out], by simpa using hown2.out, ?_, ?_⟩
                    | (repeat apply Exists.intro
                       refine And.intro ?_ rfl
                       refine ⟨hx5, j + 1, us ++ [.iface pty px], _, rfl, by omega, by go_num, by simp [HUL.out], by simpa using hown2.out, ?_, ?_⟩)
                  · intro x hx
                    rcases List.mem_append.1 hx with hx | hx
                    · exact H1.out x hx
                    · simp at hx; subst hx; rfl
                  · rw [take_snoc HT.out]
                    exact hV5.out
                case measure => simp [intOf]; omega
              have hfull : uz.take j = uz := List.take_of_length_le (by have h2 := HVG.out.1; have h3 := HVL.out; omega)
              have hulen : uz.length = us.length := by have h2 := HVG.out.1; have h3 := HVL.out; have h4 := HUL.out; omega
              have hV := HV.out
              rw [hfull] at hV
              obtain ⟨la, lc, rfl, hq1, hq2, hq3⟩ := HO.out.cells (S := fun b => wc.heap.size ≤ b) (fun b hb => (World.ownsRow.lt HO.out b hb).1)
              have hJl : JAt (fun b => wc.heap.size ≤ b) wr (.iface 73 (.slice la us.length lc)) (.list uz) := by
                simp only [JAt]
                exact ⟨_, _, _, us, rfl, by have := HUL.out; omega, hulen, hq1, hq2, hq3, JsAt.keep (fun b hb _ => hb.1) (fun _ _ _ => rfl) _ hV⟩
              clear hq3 hV HO HV H1
              have hnl := hnc.ext hxr
              have hnlt := hnl.lt
              have hc0 := (hbq.ext (ext_trans hxc hxr)).cell 0 _ rfl
              have hc1 := (hbq.ext (ext_trans hxc hxr)).cell 1 _ rfl
              have hc2 := (hbq.ext (ext_trans hxc hxr)).cell 2 _ rfl
              have hc3 := (hbq.ext (ext_trans hxc hxr)).cell 3 _ rfl
              have hc4 := (hbq.ext (ext_trans hxc hxr)).cell 4 _ rfl
              have hc5 := (hbq.ext (ext_trans hxc hxr)).cell 5 _ rfl
              have hc6 := (hbq.ext (ext_trans hxc hxr)).cell 6 _ rfl
              have hc7 := (hbq.ext (ext_trans hxc hxr)).cell 7 _ rfl
              have hc8 := (hbq.ext (ext_trans hxc hxr)).cell 8 _ rfl
              go_wp2_with (at_mapUpdate; refine wp_put _ rfl _ _ _ 72 rfl 20 Tryd.underlying72 (w.heap.size + 1) rp rfl hnl (Nat.lt_of_le_of_lt hr (by decide)) s_should rfl (by decide) _ rfl ?_; intro wn hnn hgn)
              go_meet
              case rel =>
                have hxn := ext_put (ext_trans hxc hxr) hgn (by omega)
                have hkk : Keeps (fun b => b ≠ w.heap.size ∧ b ≠ w.heap.size + 1) wr wn := keeps_grown hgn (fun b hb e => by simp only [Option.some.injEq] at e; omega)
                refine ⟨hxn, (hm0_2.ext hxr).grown hgn (someNe hne0), _, ?_, hnn, ?_⟩
                · rw [List.length_append]; exact Nat.succ_le_succ (by exact hr)
                · rw [jQ_many (QsAt.len Huz.out) hE]
                  exact PJ.snoc ((hpc.keep (S' := (fun b => b ≠ w.heap.size ∧ b ≠ w.heap.size + 1)) (fun _ h _ => h) (Ext.keeps hxr _)).keep (fun _ h _ => h) hkk) (JAt.keep (S := (fun b => b ≠ w.heap.size ∧ b ≠ w.heap.size + 1)) (fun _ h _ => h) hkk _ (hJl.to (fun b hb _ => by have := hnc.lt; omega)))
        case rest => as_aux_lemma =>
          obtain ⟨hxc, hm0_3, rp, hr, hnc, hpc⟩ := hcut
          have hbc := hbq.ext hxc
          have hc0 := hbc.cell 0 _ rfl
          have hc1 := hbc.cell 1 _ rfl
          have hc2 := hbc.cell 2 _ rfl
          have hc3 := hbc.cell 3 _ rfl
          have hc4 := hbc.cell 4 _ rfl
          have hc5 := hbc.cell 5 _ rfl
          have hc6 := hbc.cell 6 _ rfl
          have hc7 := hbc.cell 7 _ rfl
          have hc8 := hbc.cell 8 _ rfl
          go_upto_if 251 with fail
          go_cut [] (fun wc => Ext w wc ∧ MapAt wc w.heap.size [(s_bool, .iface 72 (.map (some (w.heap.size + 1))))] ∧ ∃ rp, rp.length ≤ 5 ∧ MapAt wc (w.heap.size + 1) rp ∧ PJ (fun b => b ≠ w.heap.size ∧ b ≠ w.heap.size + 1) wc rp (jQ s_must um ++ jQ s_must_not ux ++ jQ s_filter uf ++ jQ s_should uz ++ jN s_boost (o5)))
          case first => as_aux_lemma =>
            cases o5 with
            | none =>
              have hv : v5 = none := H5.out
              subst hv
              go_wp2_with fail
              go_meet
              case rel =>
                refine ⟨hxc, hm0_3, rp, Nat.le_succ_of_le hr, hnc, ?_⟩
                rw [show jN s_boost none = [] from rfl, List.append_nil]
                exact hpc
            | some t5 =>
              obtain ⟨cc, hv, hSc, hcc⟩ := H5.out
              subst hv
              have hcc := hxc.cell hcc
              go_wp2_with (at_mapUpdate; refine wp_put _ rfl _ _ _ 72 rfl 20 Tryd.underlying72 (w.heap.size + 1) rp rfl hnc (Nat.lt_of_le_of_lt hr (by decide)) s_boost rfl (by decide) _ rfl ?_; intro wn hnn hgn)
              go_meet
              case rel =>
                have hxn := ext_put hxc hgn (by omega)
                refine ⟨hxn, hm0_3.grown hgn (someNe hne0), _, ?_, hnn, ?_⟩
                · rw [List.length_append]; exact Nat.succ_le_succ (by exact hr)
                · rw [show jN s_boost (some t5) = [(s_boost, .num t5.num)] from rfl]
                  exact PJ.snoc (hpc.keep (fun _ h _ => h) (keeps_grown hgn (fun b hb e => by simp only [Option.some.injEq] at e; omega))) (by simp only [JAt]; rfl)
          case rest => as_aux_lemma =>
            obtain ⟨hxc, hm0_4, rp, hr, hnc, hpc⟩ := hcut
            have hbc := hbq.ext hxc
            have hc0 := hbc.cell 0 _ rfl
            have hc1 := hbc.cell 1 _ rfl
            have hc2 := hbc.cell 2 _ rfl
            have hc3 := hbc.cell 3 _ rfl
            have hc4 := hbc.cell 4 _ rfl
            have hc5 := hbc.cell 5 _ rfl
            have hc6 := hbc.cell 6 _ rfl
            have hc7 := hbc.cell 7 _ rfl
            have hc8 := hbc.cell 8 _ rfl
            go_upto_if 264 with fail
            go_cut [] (fun wc => Ext w wc ∧ MapAt wc w.heap.size [(s_bool, .iface 72 (.map (some (w.heap.size + 1))))] ∧ ∃ rp, rp.length ≤ 6 ∧ MapAt wc (w.heap.size + 1) rp ∧ PJ (fun b => b ≠ w.heap.size ∧ b ≠ w.heap.size + 1) wc rp (jQ s_must um ++ jQ s_must_not ux ++ jQ s_filter uf ++ jQ s_should uz ++ jN s_boost (o5) ++ jT s_minimum_should_match (o6)))
            case first => as_aux_lemma =>
              cases hE : v6.toList.isEmpty
              · have hE1 := jT_some (k := s_minimum_should_match) H6.out hE
                go_wp2_with (at_mapUpdate; refine wp_put _ rfl _ _ _ 72 rfl 20 Tryd.underlying72 (w.heap.size + 1) rp rfl hnc (Nat.lt_of_le_of_lt hr (by decide)) s_minimum_should_match rfl (by decide) _ rfl ?_; intro wn hnn hgn)
                go_meet
                case rel =>
                  have hxn := ext_put hxc hgn (by omega)
                  refine ⟨hxn, hm0_4.grown hgn (someNe hne0), _, ?_, hnn, ?_⟩
                  · rw [List.length_append]; exact Nat.succ_le_succ (by exact hr)
                  · rw [hE1]
                    exact PJ.snoc (hpc.keep (fun _ h _ => h) (keeps_grown hgn (fun b hb e => by simp only [Option.some.injEq] at e; omega))) (by simp only [JAt]; rfl)
              · have hE1 := jT_none (k := s_minimum_should_match) H6.out hE
                go_wp2_with fail
                go_meet
                case rel =>
                  refine ⟨hxc, hm0_4, rp, Nat.le_succ_of_le hr, hnc, ?_⟩
                  rw [hE1, List.append_nil]
                  exact hpc
            case rest => as_aux_lemma =>
              obtain ⟨hxc, hm0_5, rp, hr, hnc, hpc⟩ := hcut
              have hbc := hbq.ext hxc
              have hc0 := hbc.cell 0 _ rfl
              have hc1 := hbc.cell 1 _ rfl
              have hc2 := hbc.cell 2 _ rfl
              have hc3 := hbc.cell 3 _ rfl
              have hc4 := hbc.cell 4 _ rfl
              have hc5 := hbc.cell 5 _ rfl
              have hc6 := hbc.cell 6 _ rfl
              have hc7 := hbc.cell 7 _ rfl
              have hc8 := hbc.cell 8 _ rfl
              go_upto_if 275 with fail
              go_cut [] (fun wc => Ext w wc ∧ MapAt wc w.heap.size [(s_bool, .iface 72 (.map (some (w.heap.size + 1))))] ∧ ∃ rp, rp.length ≤ 7 ∧ MapAt wc (w.heap.size + 1) rp ∧ PJ (fun b => b ≠ w.heap.size ∧ b ≠ w.heap.size + 1) wc rp (jQ s_must um ++ jQ s_must_not ux ++ jQ s_filter uf ++ jQ s_should uz ++ jN s_boost (o5) ++ jT s_minimum_should_match (o6) ++ jY s_adjust_pure_negative (o7)))
              case first => as_aux_lemma =>
                cases o7 with
                | none =>
                  have hv : v7 = none := H7.out
                  subst hv
                  go_wp2_with fail
                  go_meet
                  case rel =>
                    refine ⟨hxc, hm0_5, rp, Nat.le_succ_of_le hr, hnc, ?_⟩
                    rw [show jY s_adjust_pure_negative none = [] from rfl, List.append_nil]
                    exact hpc
                | some t7 =>
                  obtain ⟨cc, hv, hSc, hcc⟩ := H7.out
                  subst hv
                  have hcc := hxc.cell hcc
                  go_wp2_with (at_mapUpdate; refine wp_put _ rfl _ _ _ 72 rfl 20 Tryd.underlying72 (w.heap.size + 1) rp rfl hnc (Nat.lt_of_le_of_lt hr (by decide)) s_adjust_pure_negative rfl (by decide) _ rfl ?_; intro wn hnn hgn)
                  go_meet
                  case rel =>
                    have hxn := ext_put hxc hgn (by omega)
                    refine ⟨hxn, hm0_5.grown hgn (someNe hne0), _, ?_, hnn, ?_⟩
                    · rw [List.length_append]; exact Nat.succ_le_succ (by exact hr)
                    · rw [show jY s_adjust_pure_negative (some t7) = [(s_adjust_pure_negative, .yes t7.yes)] from rfl]
                      exact PJ.snoc (hpc.keep (fun _ h _ => h) (keeps_grown hgn (fun b hb e => by simp only [Option.some.injEq] at e; omega))) (by simp only [JAt]; rfl)
              case rest => as_aux_lemma =>
                obtain ⟨hxc, hm0_6, rp, hr, hnc, hpc⟩ := hcut
                have hbc := hbq.ext hxc
                have hc0 := hbc.cell 0 _ rfl
                have hc1 := hbc.cell 1 _ rfl
                have hc2 := hbc.cell 2 _ rfl
                have hc3 := hbc.cell 3 _ rfl
                have hc4 := hbc.cell 4 _ rfl
                have hc5 := hbc.cell 5 _ rfl
                have hc6 := hbc.cell 6 _ rfl
                have hc7 := hbc.cell 7 _ rfl
                have hc8 := hbc.cell 8 _ rfl
                go_upto_if 288 with fail
                go_cut [] (fun wc => Ext w wc ∧ MapAt wc w.heap.size [(s_bool, .iface 72 (.map (some (w.heap.size + 1))))] ∧ ∃ rp, rp.length ≤ 8 ∧ MapAt wc (w.heap.size + 1) rp ∧ PJ (fun b => b ≠ w.heap.size ∧ b ≠ w.heap.size + 1) wc rp (jQ s_must um ++ jQ s_must_not ux ++ jQ s_filter uf ++ jQ s_should uz ++ jN s_boost (o5) ++ jT s_minimum_should_match (o6) ++ jY s_adjust_pure_negative (o7) ++ jT s_name (o8)))
                case first => as_aux_lemma =>
                  cases hE : v8.toList.isEmpty
                  · have hE1 := jT_some (k := s_name) H8.out hE
                    go_wp2_with (at_mapUpdate; refine wp_put _ rfl _ _ _ 72 rfl 20 Tryd.underlying72 (w.heap.size + 1) rp rfl hnc (Nat.lt_of_le_of_lt hr (by decide)) s_name rfl (by decide) _ rfl ?_; intro wn hnn hgn)
                    go_meet
                    case rel =>
                      have hxn := ext_put hxc hgn (by omega)
                      refine ⟨hxn, hm0_6.grown hgn (someNe hne0), _, ?_, hnn, ?_⟩
                      · rw [List.length_append]; exact Nat.succ_le_succ (by exact hr)
                      · rw [hE1]
                        exact PJ.snoc (hpc.keep (fun _ h _ => h) (keeps_grown hgn (fun b hb e => by simp only [Option.some.injEq] at e; omega))) (by simp only [JAt]; rfl)
                  · have hE1 := jT_none (k := s_name) H8.out hE
                    go_wp2_with fail
                    go_meet
                    case rel =>
                      refine ⟨hxc, hm0_6, rp, Nat.le_succ_of_le hr, hnc, ?_⟩
                      rw [hE1, List.append_nil]
                      exact hpc
                case rest => as_aux_lemma =>
                  obtain ⟨hxc, hm0_7, rp, hr, hnc, hpc⟩ := hcut
                  have hbc := hbq.ext hxc
                  have hc0 := hbc.cell 0 _ rfl
                  have hc1 := hbc.cell 1 _ rfl
                  have hc2 := hbc.cell 2 _ rfl
                  have hc3 := hbc.cell 3 _ rfl
                  have hc4 := hbc.cell 4 _ rfl
                  have hc5 := hbc.cell 5 _ rfl
                  have hc6 := hbc.cell 6 _ rfl
                  have hc7 := hbc.cell 7 _ rfl
                  have hc8 := hbc.cell 8 _ rfl
                  go_wp2_with fail
                  go_ret2
                  refine ⟨_, rfl, ?_, hxc⟩
                  exact jMap_one hm0_7 trivial (hpc.wide.map hnc trivial (by have := hpc.len; omega))
end Go.Proofs.YtfngaoicoecncaaDoor

namespace Go.Proofs.YtfngaoicoecncaaDoor
open Go.RowKit

set_option maxRecDepth 20000 in
set_option maxHeartbeats 80000000 in
theorem bool_any {S : Nat → Prop} (a : Option Addr) (n c : Nat) (ps : List (ByteArray × T)) (w : World) (hTen : TenAt w) (hC : ClauseP ps) (hM : LeastP ps) (hA : clsAll ps ≤ 2147483647) (h : PairsAt S w a n c ps) :
    Calls Tryd.prog 6 #[.slice a n c] w fun r w' => ∃ g : El, r = .returned (.tuple #[g.val, .bool true]) ∧ TreeAt (fun b => w.heap.size + 1 ≤ b) w' g (treeJ (jMap [(s_bool, jMap (boolJ ps))])) ∧ Ext w w' := by
  obtain ⟨hl, hn, hm, hc⟩ := h
  unfold maxLen at hm
  have HL := Lib.hid hl
  have HTen := Lib.hid hTen
  have HC := Lib.hid hC
  have HM := Lib.hid hM
  clear hl hTen hC hM
  go_enter Tryd.func6, Tryd.ntmps6
  have hxa : Ext w (w.alloc (.cells (El.arr El0) 29)) := ext_alloc (ext_refl _) _
  have hr0 : Box (w.alloc (.cells (El.arr El0) 29)) w.heap.size (El.arr El0) 29 := Box.at rfl _ _
  have hsz1 : (w.alloc (.cells (El.arr El0) 29)).heap.size = w.heap.size + 1 := by simp
  go_wp2_with (first
    | (go_at_call 12; refine (newBool_any _).mono ?_; rintro r w1 ⟨g0, g1, g2, g3, bq, rfl, hBJ, hbl, hgb0, hgb1, hgb2, hgb3, hb1⟩)
    | fail)
  obtain ⟨hx1, k0, k1, k2, k3, d01, d02, d03, d12, d13, d23⟩ := hBJ
  obtain ⟨k0, q0⟩ := k0 rfl
  obtain ⟨k1, q1⟩ := k1 rfl
  obtain ⟨k2, q2⟩ := k2 rfl
  obtain ⟨k3, q3⟩ := k3 rfl
  have d01 := d01 rfl rfl
  have d02 := d02 rfl rfl
  have d03 := d03 rfl rfl
  have d12 := d12 rfl rfl
  have d13 := d13 rfl rfl
  have d23 := d23 rfl rfl
  rw [hsz1] at hbl q0 q1 q2 q3
  have hxs := ext_trans hxa hx1
  have hb0s := hr0.ext hx1
  have hlb1 := hb1.lt
  have hss : bq + 1 ≤ w1.heap.size := hlb1
  have hn0 : ∀ {g : Nat}, g < bq → (Value.slice (some ⟨g, 0, none⟩) 0 0).ownBlock ≠ some bq := fun hg => by simp only [Value.ownBlock]; exact someNe (by omega)
  have hd0 : ∀ {g g' : Nat}, g ≠ g' → Dj (.slice (some ⟨g, 0, none⟩) 0 0) (.slice (some ⟨g', 0, none⟩) 0 0) := fun hg q hq e => by
    simp only [Value.ownBlock, Option.some.injEq] at hq e
    omega
  have hc0 : ∀ {g : Nat}, Box w1 g #[] 62 → w.heap.size + 1 ≤ g → Cl (w.heap.size + 1) w1 (.slice (some ⟨g, 0, none⟩) 0 0) [] := fun {g} hb hg => ⟨[], ⟨rfl, .inr ⟨g, 0, #[], rfl, hg, hb, Nat.le_refl _, by simp [maxLen], rfl, rfl⟩⟩, GivesL.nil _ _⟩
  have hBS0 : BS (w.heap.size + 1) bq w1 (.slice (some ⟨g0, 0, none⟩) 0 0) (.slice (some ⟨g1, 0, none⟩) 0 0) (.slice (some ⟨g2, 0, none⟩) 0 0) (.slice (some ⟨g3, 0, none⟩) 0 0) [] [] [] [] :=
    ⟨⟨hc0 k0 q0, hn0 hgb0⟩, ⟨hc0 k1 q1, hn0 hgb1⟩, ⟨hc0 k2 q2, hn0 hgb2⟩, ⟨hc0 k3 q3, hn0 hgb3⟩, hd0 d01, hd0 d02, hd0 d03, hd0 d12, hd0 d13, hd0 d23⟩
  clear hc0 hd0 hn0 k0 k1 k2 k3 d01 d02 d03 d12 d13 d23 hr0 hsz1
  go_loopw [10] (fun i wr => Ext w wr ∧ bq + 1 ≤ wr.heap.size ∧ Box wr w.heap.size (El.arr El0) 29 ∧ ∃ (j : Nat) (V1 V2 V3 V4 : Value) (v5 : Option Addr) (v6 : ByteArray) (v7 : Option Addr) (v8 : ByteArray), j ≤ n ∧ i = .int .i64 j ∧ Box wr bq #[.nilIface, V1, V2, V3, V4, .pointer v5, .string v6, .pointer v7, .string v8] 66 ∧ BS (w.heap.size + 1) bq wr V1 V2 V3 V4 ((clsOf (ps.take j) s_must).map jFull) ((clsOf (ps.take j) s_must_not).map jFull) ((clsOf (ps.take j) s_filter).map jFull) ((clsOf (ps.take j) s_should).map jFull) ∧ FN (OffB bq V1 V2 V3 V4) wr v5 (lastOf (ps.take j) s_boost) ∧ v6 = fT (leastOf (ps.take j)) ∧ FY (OffB bq V1 V2 V3 V4) wr v7 (lastOf (ps.take j) s_adjust_pure_negative) ∧ v8 = fT (lastOf (ps.take j) s_name)) (fun i _ => n - (intOf i).toNat)
  case atStart => exact ⟨hxs, hss, hb0s, 0, _, _, _, _, none, ⟨#[]⟩, none, ⟨#[]⟩, Nat.zero_le _, rfl, hb1, hBS0, rfl, rfl, rfl, rfl⟩
  case round =>
    obtain ⟨hx, hsz, hb0, j, V1, V2, V3, V4, v5, v6, v7, v8, hj, rfl, hbq, hBS, h5, h6, h7, h8⟩ := hrel
    have HBS := Lib.hid hBS
    have H5 := Lib.hid h5
    have H6 := Lib.hid h6
    have H7 := Lib.hid h7
    have H8 := Lib.hid h8
    clear hBS h5 h6 h7 h8
    have hbql := hbq.lt
    by_cases hlt : j < n
    · obtain ⟨p, hp⟩ := some_of_lt HL.out hlt
      obtain ⟨b, off, ⟨k, x, d, y, ka, kn, kc, ca, m, cc⟩, rfl, hSb, hc7, hT⟩ := hc j p hp
      obtain ⟨z0, z1, z2, z3, z4, z5, z6⟩ := Cells7.ext hx hc7
      have HP := Lib.hid hp
      have hl0 : w.heap.size < wr.heap.size := by omega
      have hl1 : ¬ w.heap.size = wr.heap.size := by omega
      have hl2 : bq < wr.heap.size + 1 := by omega
      have hTx := Lib.hid hT.parts.2.1
      have hTd := Lib.hid hT.parts.2.2.1
      have hTy := Lib.hid hT.parts.2.2.2.1
      have hTe := Lib.hid (TreeAt.keep (S' := fun b => b < w.heap.size) (fun b _ hb => hb) (fun _ _ _ => rfl) _ hT)
      clear hp hT
      have hc0 := hbq.cell 0 _ rfl
      have hf0 := hbq.free 0
      have hc1 := hbq.cell 1 _ rfl
      have hf1 := hbq.free 1
      have hc2 := hbq.cell 2 _ rfl
      have hf2 := hbq.free 2
      have hc3 := hbq.cell 3 _ rfl
      have hf3 := hbq.free 3
      have hc4 := hbq.cell 4 _ rfl
      have hf4 := hbq.free 4
      have hc5 := hbq.cell 5 _ rfl
      have hf5 := hbq.free 5
      have hc6 := hbq.cell 6 _ rfl
      have hf6 := hbq.free 6
      have hc7 := hbq.cell 7 _ rfl
      have hf7 := hbq.free 7
      have hc8 := hbq.cell 8 _ rfl
      have hf8 := hbq.free 8
      cases he0 : p.1.toList == [109, 117, 115, 116]
      · have e0 : seq p.1 s_must = false := by rw [seq, show s_must.toList = [109, 117, 115, 116] by rw [Lib.toList_data]]; exact he0
        cases he1 : p.1.toList == [109, 117, 115, 116, 95, 110, 111, 116]
        · have e1 : seq p.1 s_must_not = false := by rw [seq, show s_must_not.toList = [109, 117, 115, 116, 95, 110, 111, 116] by rw [Lib.toList_data]]; exact he1
          cases he2 : p.1.toList == [115, 104, 111, 117, 108, 100]
          · have e2 : seq p.1 s_should = false := by rw [seq, show s_should.toList = [115, 104, 111, 117, 108, 100] by rw [Lib.toList_data]]; exact he2
            cases he3 : p.1.toList == [102, 105, 108, 116, 101, 114]
            · have e3 : seq p.1 s_filter = false := by rw [seq, show s_filter.toList = [102, 105, 108, 116, 101, 114] by rw [Lib.toList_data]]; exact he3
              cases he4 : p.1.toList == [97, 100, 106, 117, 115, 116, 95, 112, 117, 114, 101, 95, 110, 101, 103, 97, 116, 105, 118, 101]
              · have e4 : seq p.1 s_adjust_pure_negative = false := by rw [seq, show s_adjust_pure_negative.toList = [97, 100, 106, 117, 115, 116, 95, 112, 117, 114, 101, 95, 110, 101, 103, 97, 116, 105, 118, 101] by rw [Lib.toList_data]]; exact he4
                cases he5 : p.1.toList == [98, 111, 111, 115, 116]
                · have e5 : seq p.1 s_boost = false := by rw [seq, show s_boost.toList = [98, 111, 111, 115, 116] by rw [Lib.toList_data]]; exact he5
                  cases he6 : p.1.toList == [109, 105, 110, 105, 109, 117, 109, 95, 115, 104, 111, 117, 108, 100, 95, 109, 97, 116, 99, 104]
                  · have e6 : seq p.1 s_minimum_should_match = false := by rw [seq, show s_minimum_should_match.toList = [109, 105, 110, 105, 109, 117, 109, 95, 115, 104, 111, 117, 108, 100, 95, 109, 97, 116, 99, 104] by rw [Lib.toList_data]]; exact he6
                    cases he7 : p.1.toList == [109, 105, 110, 105, 109, 117, 109, 95, 110, 117, 109, 98, 101, 114, 95, 115, 104, 111, 117, 108, 100, 95, 109, 97, 116, 99, 104]
                    · have e7 : seq p.1 s_minimum_number_should_match = false := by rw [seq, show s_minimum_number_should_match.toList = [109, 105, 110, 105, 109, 117, 109, 95, 110, 117, 109, 98, 101, 114, 95, 115, 104, 111, 117, 108, 100, 95, 109, 97, 116, 99, 104] by rw [Lib.toList_data]]; exact he7
                      cases he8 : p.1.toList == [95, 110, 97, 109, 101]
                      · have e8 : seq p.1 s_name = false := by rw [seq, show s_name.toList = [95, 110, 97, 109, 101] by rw [Lib.toList_data]]; exact he8
                        go_wp2_with go_in
                        go_roundw
                        case rel =>
                          have hy := ext_alloc (ext_refl wr) (.cells #[.string p.1, .int .i64 k, .string x, .float .f64 d, .bool y, .slice ka kn kc, .slice ca m cc] 38)
                          have hBS4 : BS (w.heap.size + 1) bq (wr.alloc (.cells #[.string p.1, .int .i64 k, .string x, .float .f64 d, .bool y, .slice ka kn kc, .slice ca m cc] 38)) V1 V2 V3 V4 ((clsOf (ps.take (j + 1)) s_must).map jFull) ((clsOf (ps.take (j + 1)) s_must_not).map jFull) ((clsOf (ps.take (j + 1)) s_filter).map jFull) ((clsOf (ps.take (j + 1)) s_should).map jFull) := by
                            rw [cls_miss (k := s_must) HP.out e0, cls_miss (k := s_must_not) HP.out e1, cls_miss (k := s_filter) HP.out e3, cls_miss (k := s_should) HP.out e2]
                            exact HBS.out.ext hy
                          exact ⟨ext_trans hx hy, Nat.le_trans hsz hy.sz, hb0.ext hy, j + 1, V1, V2, V3, V4, v5, v6, v7, v8, by omega, by go_num, hbq.ext hy, hBS4, by rw [last_miss HP.out e5]; exact FN.ext hy H5.out, by rw [least_miss HP.out e6 e7]; exact H6.out, by rw [last_miss HP.out e4]; exact FY.ext hy H7.out, by rw [last_miss HP.out e8]; exact H8.out⟩
                        case measure => simp [intOf]; omega
                      · have e8 : seq p.1 s_name = true := by rw [seq, show s_name.toList = [95, 110, 97, 109, 101] by rw [Lib.toList_data]]; exact he8
                        go_wp2_with go_in
                        go_roundw
                        case rel =>
                          have hk : Keeps (fun q => q ≠ bq) wr ((wr.setCell ⟨bq, 8, none⟩ (.string x)).alloc (.cells #[.string p.1, .int .i64 k, .string x, .float .f64 d, .bool y, .slice ka kn kc, .slice ca m cc] 38)) := fun q hq hlt => (Below.heap_alloc _ _ _ (by simpa using hlt)).trans (Below.heap_setCell _ _ _ _ (by simp; omega))
                          have hkO : Keeps (OffB bq V1 V2 V3 V4) wr ((wr.setCell ⟨bq, 8, none⟩ (.string x)).alloc (.cells #[.string p.1, .int .i64 k, .string x, .float .f64 d, .bool y, .slice ka kn kc, .slice ca m cc] 38)) := fun q hq hl => hk q hq.1 hl
                          have hBS4 : BS (w.heap.size + 1) bq ((wr.setCell ⟨bq, 8, none⟩ (.string x)).alloc (.cells #[.string p.1, .int .i64 k, .string x, .float .f64 d, .bool y, .slice ka kn kc, .slice ca m cc] 38)) V1 V2 V3 V4 ((clsOf (ps.take (j + 1)) s_must).map jFull) ((clsOf (ps.take (j + 1)) s_must_not).map jFull) ((clsOf (ps.take (j + 1)) s_filter).map jFull) ((clsOf (ps.take (j + 1)) s_should).map jFull) := by
                            rw [cls_other (k := s_must) HP.out e8 (seq_false.2 (by decide)), cls_other (k := s_must_not) HP.out e8 (seq_false.2 (by decide)), cls_other (k := s_filter) HP.out e8 (seq_false.2 (by decide)), cls_other (k := s_should) HP.out e8 (seq_false.2 (by decide))]
                            exact ((HBS.out.setB (by omega) 8 _).ext (ext_alloc (ext_refl _) _))
                          exact ⟨ext_alloc (ext_set hx (by simp; omega) _) _, by simp; omega, (hb0.other (by simp; omega) _).alloc _, j + 1, V1, V2, V3, V4, v5, v6, v7, x, by omega, by go_num, (hbq.set 8 _).alloc _, hBS4, by rw [last_other HP.out e8 (seq_false.2 (by decide))]; exact FN.keep (fun _ h _ => h) hkO H5.out, by rw [least_other HP.out e8 (seq_false.2 (by decide)) (seq_false.2 (by decide))]; exact H6.out, by rw [last_other HP.out e8 (seq_false.2 (by decide))]; exact FY.keep (fun _ h _ => h) hkO H7.out, by rw [last_hit HP.out e8]; exact hTx.out⟩
                        case measure => simp [intOf]; omega
                    · have e7 : seq p.1 s_minimum_number_should_match = true := by rw [seq, show s_minimum_number_should_match.toList = [109, 105, 110, 105, 109, 117, 109, 95, 110, 117, 109, 98, 101, 114, 95, 115, 104, 111, 117, 108, 100, 95, 109, 97, 116, 99, 104] by rw [Lib.toList_data]]; exact he7
                      obtain ⟨z, hz⟩ := HM.out p (List.mem_of_getElem? HP.out) e7
                      have hcv : ∀ w, (convert 25 3 (.float .f64 d)).run Tryd.prog w = .ok (.int .i64 z) w := fun w => run_convert_float_int w 25 3 .f64 .i64 d z (by rw [Tryd.underlying25]; rfl) Tryd.underlying3 (show floatToIntVal .f64 d .i64 = some z from by have h9 : d = p.2.num := hTd.out; rw [h9]; exact hz)
                      have HI := Lib.hid fun wX (xX : Ext w wX) => Tryd.strconv_Itoa z (int_bounds hz).1 (int_bounds hz).2 wX (HTen.out wX xX)
                      have HZ := Lib.hid hz
                      clear hz
                      have hy : Ext wr (wr.alloc (.cells #[.string p.1, .int .i64 k, .string x, .float .f64 d, .bool y, .slice ka kn kc, .slice ca m cc] 38)) := ext_alloc (ext_refl wr) _
                      go_wp2_with (first
                        | (go_at_call 32; refine (HI.out _ (ext_trans hx hy)).mono ?_; rintro r w2 ⟨rfl, hww⟩
                           have hx2 : Ext (wr.alloc (.cells #[.string p.1, .int .i64 k, .string x, .float .f64 d, .bool y, .slice ka kn kc, .slice ca m cc] 38)) w2 := by obtain ⟨kk, oo, e⟩ := hww; rw [e]; exact Lib.below_grow _ _ (Nat.le_refl _) _ _
                           have hy2 := ext_trans hy hx2
                           have hz2 := hy2.sz
                           clear hww
                           have hb2 := hbq.ext hy2
                           have hb2l := hb2.lt
                           have hd6 := hb2.cell 6 _ rfl
                           have hg6 := hb2.free 6)
                        | go_in
                        | fail)
                      go_roundw
                      case rel =>
                        have hk : Keeps (fun q => q ≠ bq) w2 (w2.setCell ⟨bq, 6, none⟩ (.string ⟨(Lib.itoa z).toArray⟩)) := fun q hq _ => Below.heap_setCell _ _ _ _ hq
                        have hkO : Keeps (OffB bq V1 V2 V3 V4) w2 (w2.setCell ⟨bq, 6, none⟩ (.string ⟨(Lib.itoa z).toArray⟩)) := fun q hq hl => hk q hq.1 hl
                        have hBS4 : BS (w.heap.size + 1) bq (w2.setCell ⟨bq, 6, none⟩ (.string ⟨(Lib.itoa z).toArray⟩)) V1 V2 V3 V4 ((clsOf (ps.take (j + 1)) s_must).map jFull) ((clsOf (ps.take (j + 1)) s_must_not).map jFull) ((clsOf (ps.take (j + 1)) s_filter).map jFull) ((clsOf (ps.take (j + 1)) s_should).map jFull) := by
                          rw [cls_other (k := s_must) HP.out e7 (seq_false.2 (by decide)), cls_other (k := s_must_not) HP.out e7 (seq_false.2 (by decide)), cls_other (k := s_filter) HP.out e7 (seq_false.2 (by decide)), cls_other (k := s_should) HP.out e7 (seq_false.2 (by decide))]
                          exact (HBS.out.ext hy2).setB (by omega) 6 _
                        refine ⟨ext_set (ext_trans hx hy2) (by simp only; omega) _, by simp; omega, (hb0.ext hy2).other (by simp only; omega) _, j + 1, V1, V2, V3, V4, v5, _, v7, v8, by omega, by go_num, hb2.set 6 _, hBS4, by rw [last_other HP.out e7 (seq_false.2 (by decide))]; exact FN.keep (fun _ h _ => h) hkO (FN.ext hy2 H5.out), ?_, by rw [last_other HP.out e7 (seq_false.2 (by decide))]; exact FY.keep (fun _ h _ => h) hkO (FY.ext hy2 H7.out), by rw [last_other HP.out e7 (seq_false.2 (by decide))]; exact H8.out⟩
                        rw [least_num HP.out e7]
                        exact (least_itoa HZ.out).symm
                      case measure => simp [intOf]; omega
                  · have e6 : seq p.1 s_minimum_should_match = true := by rw [seq, show s_minimum_should_match.toList = [109, 105, 110, 105, 109, 117, 109, 95, 115, 104, 111, 117, 108, 100, 95, 109, 97, 116, 99, 104] by rw [Lib.toList_data]]; exact he6
                    go_wp2_with go_in
                    go_roundw
                    case rel =>
                      have hk : Keeps (fun q => q ≠ bq) wr ((wr.setCell ⟨bq, 6, none⟩ (.string x)).alloc (.cells #[.string p.1, .int .i64 k, .string x, .float .f64 d, .bool y, .slice ka kn kc, .slice ca m cc] 38)) := fun q hq hlt => (Below.heap_alloc _ _ _ (by simpa using hlt)).trans (Below.heap_setCell _ _ _ _ (by simp; omega))
                      have hkO : Keeps (OffB bq V1 V2 V3 V4) wr ((wr.setCell ⟨bq, 6, none⟩ (.string x)).alloc (.cells #[.string p.1, .int .i64 k, .string x, .float .f64 d, .bool y, .slice ka kn kc, .slice ca m cc] 38)) := fun q hq hl => hk q hq.1 hl
                      have hBS4 : BS (w.heap.size + 1) bq ((wr.setCell ⟨bq, 6, none⟩ (.string x)).alloc (.cells #[.string p.1, .int .i64 k, .string x, .float .f64 d, .bool y, .slice ka kn kc, .slice ca m cc] 38)) V1 V2 V3 V4 ((clsOf (ps.take (j + 1)) s_must).map jFull) ((clsOf (ps.take (j + 1)) s_must_not).map jFull) ((clsOf (ps.take (j + 1)) s_filter).map jFull) ((clsOf (ps.take (j + 1)) s_should).map jFull) := by
                        rw [cls_other (k := s_must) HP.out e6 (seq_false.2 (by decide)), cls_other (k := s_must_not) HP.out e6 (seq_false.2 (by decide)), cls_other (k := s_filter) HP.out e6 (seq_false.2 (by decide)), cls_other (k := s_should) HP.out e6 (seq_false.2 (by decide))]
                        exact ((HBS.out.setB (by omega) 6 _).ext (ext_alloc (ext_refl _) _))
                      exact ⟨ext_alloc (ext_set hx (by simp; omega) _) _, by simp; omega, (hb0.other (by simp; omega) _).alloc _, j + 1, V1, V2, V3, V4, v5, x, v7, v8, by omega, by go_num, (hbq.set 6 _).alloc _, hBS4, by rw [last_other HP.out e6 (seq_false.2 (by decide))]; exact FN.keep (fun _ h _ => h) hkO H5.out, by rw [least_text HP.out e6]; exact hTx.out, by rw [last_other HP.out e6 (seq_false.2 (by decide))]; exact FY.keep (fun _ h _ => h) hkO H7.out, by rw [last_other HP.out e6 (seq_false.2 (by decide))]; exact H8.out⟩
                    case measure => simp [intOf]; omega
                · have e5 : seq p.1 s_boost = true := by rw [seq, show s_boost.toList = [98, 111, 111, 115, 116] by rw [Lib.toList_data]]; exact he5
                  go_wp2_with go_in
                  go_roundw
                  case rel =>
                    have hk : Keeps (fun q => q ≠ bq) wr (((wr.setCell ⟨bq, 5, none⟩ (.pointer (some ⟨wr.heap.size + 1, 0, none⟩))).alloc (.cells #[.string p.1, .int .i64 k, .string x, .float .f64 d, .bool y, .slice ka kn kc, .slice ca m cc] 38)).alloc (.cells #[.float .f64 d] 25)) := fun q hq hlt => (Below.heap_alloc _ _ _ (by simp; omega)).trans ((Below.heap_alloc _ _ _ (by simpa using hlt)).trans (Below.heap_setCell _ _ _ _ (by simp; omega)))
                    have hnew : (((wr.setCell ⟨bq, 5, none⟩ (.pointer (some ⟨wr.heap.size + 1, 0, none⟩))).alloc (.cells #[.string p.1, .int .i64 k, .string x, .float .f64 d, .bool y, .slice ka kn kc, .slice ca m cc] 38)).alloc (.cells #[.float .f64 d] 25)).cell? ⟨wr.heap.size + 1, 0, none⟩ = some (.float .f64 d) := (Box.at (by simp) _ _).cell 0 _ rfl
                    have hkO : Keeps (OffB bq V1 V2 V3 V4) wr (((wr.setCell ⟨bq, 5, none⟩ (.pointer (some ⟨wr.heap.size + 1, 0, none⟩))).alloc (.cells #[.string p.1, .int .i64 k, .string x, .float .f64 d, .bool y, .slice ka kn kc, .slice ca m cc] 38)).alloc (.cells #[.float .f64 d] 25)) := fun q hq hl => hk q hq.1 hl
                    have hBS4 : BS (w.heap.size + 1) bq (((wr.setCell ⟨bq, 5, none⟩ (.pointer (some ⟨wr.heap.size + 1, 0, none⟩))).alloc (.cells #[.string p.1, .int .i64 k, .string x, .float .f64 d, .bool y, .slice ka kn kc, .slice ca m cc] 38)).alloc (.cells #[.float .f64 d] 25)) V1 V2 V3 V4 ((clsOf (ps.take (j + 1)) s_must).map jFull) ((clsOf (ps.take (j + 1)) s_must_not).map jFull) ((clsOf (ps.take (j + 1)) s_filter).map jFull) ((clsOf (ps.take (j + 1)) s_should).map jFull) := by
                      rw [cls_other (k := s_must) HP.out e5 (seq_false.2 (by decide)), cls_other (k := s_must_not) HP.out e5 (seq_false.2 (by decide)), cls_other (k := s_filter) HP.out e5 (seq_false.2 (by decide)), cls_other (k := s_should) HP.out e5 (seq_false.2 (by decide))]
                      exact ((HBS.out.setB (by omega) 5 _).ext (ext_alloc (ext_alloc (ext_refl _) _) _))
                    exact ⟨ext_alloc (ext_alloc (ext_set hx (by simp; omega) _) _) _, by simp; omega, ((hb0.other (by simp; omega) _).alloc _).alloc _, j + 1, V1, V2, V3, V4, some ⟨wr.heap.size + 1, 0, none⟩, v6, v7, v8, by omega, by go_num, ((hbq.set 5 _).alloc _).alloc _, hBS4, by rw [last_hit HP.out e5]; exact ⟨wr.heap.size + 1, rfl, HBS.out.fresh (by omega) (by omega), by rw [← hTd.out]; exact hnew⟩, by rw [least_other HP.out e5 (seq_false.2 (by decide)) (seq_false.2 (by decide))]; exact H6.out, by rw [last_other HP.out e5 (seq_false.2 (by decide))]; exact FY.keep (fun _ h _ => h) hkO H7.out, by rw [last_other HP.out e5 (seq_false.2 (by decide))]; exact H8.out⟩
                  case measure => simp [intOf]; omega
              · have e4 : seq p.1 s_adjust_pure_negative = true := by rw [seq, show s_adjust_pure_negative.toList = [97, 100, 106, 117, 115, 116, 95, 112, 117, 114, 101, 95, 110, 101, 103, 97, 116, 105, 118, 101] by rw [Lib.toList_data]]; exact he4
                go_wp2_with go_in
                go_roundw
                case rel =>
                  have hk : Keeps (fun q => q ≠ bq) wr (((wr.setCell ⟨bq, 7, none⟩ (.pointer (some ⟨wr.heap.size + 1, 0, none⟩))).alloc (.cells #[.string p.1, .int .i64 k, .string x, .float .f64 d, .bool y, .slice ka kn kc, .slice ca m cc] 38)).alloc (.cells #[.bool y] 4)) := fun q hq hlt => (Below.heap_alloc _ _ _ (by simp; omega)).trans ((Below.heap_alloc _ _ _ (by simpa using hlt)).trans (Below.heap_setCell _ _ _ _ (by simp; omega)))
                  have hnew : (((wr.setCell ⟨bq, 7, none⟩ (.pointer (some ⟨wr.heap.size + 1, 0, none⟩))).alloc (.cells #[.string p.1, .int .i64 k, .string x, .float .f64 d, .bool y, .slice ka kn kc, .slice ca m cc] 38)).alloc (.cells #[.bool y] 4)).cell? ⟨wr.heap.size + 1, 0, none⟩ = some (.bool y) := (Box.at (by simp) _ _).cell 0 _ rfl
                  have hkO : Keeps (OffB bq V1 V2 V3 V4) wr (((wr.setCell ⟨bq, 7, none⟩ (.pointer (some ⟨wr.heap.size + 1, 0, none⟩))).alloc (.cells #[.string p.1, .int .i64 k, .string x, .float .f64 d, .bool y, .slice ka kn kc, .slice ca m cc] 38)).alloc (.cells #[.bool y] 4)) := fun q hq hl => hk q hq.1 hl
                  have hBS4 : BS (w.heap.size + 1) bq (((wr.setCell ⟨bq, 7, none⟩ (.pointer (some ⟨wr.heap.size + 1, 0, none⟩))).alloc (.cells #[.string p.1, .int .i64 k, .string x, .float .f64 d, .bool y, .slice ka kn kc, .slice ca m cc] 38)).alloc (.cells #[.bool y] 4)) V1 V2 V3 V4 ((clsOf (ps.take (j + 1)) s_must).map jFull) ((clsOf (ps.take (j + 1)) s_must_not).map jFull) ((clsOf (ps.take (j + 1)) s_filter).map jFull) ((clsOf (ps.take (j + 1)) s_should).map jFull) := by
                    rw [cls_other (k := s_must) HP.out e4 (seq_false.2 (by decide)), cls_other (k := s_must_not) HP.out e4 (seq_false.2 (by decide)), cls_other (k := s_filter) HP.out e4 (seq_false.2 (by decide)), cls_other (k := s_should) HP.out e4 (seq_false.2 (by decide))]
                    exact ((HBS.out.setB (by omega) 7 _).ext (ext_alloc (ext_alloc (ext_refl _) _) _))
                  exact ⟨ext_alloc (ext_alloc (ext_set hx (by simp; omega) _) _) _, by simp; omega, ((hb0.other (by simp; omega) _).alloc _).alloc _, j + 1, V1, V2, V3, V4, v5, v6, some ⟨wr.heap.size + 1, 0, none⟩, v8, by omega, by go_num, ((hbq.set 7 _).alloc _).alloc _, hBS4, by rw [last_other HP.out e4 (seq_false.2 (by decide))]; exact FN.keep (fun _ h _ => h) hkO H5.out, by rw [least_other HP.out e4 (seq_false.2 (by decide)) (seq_false.2 (by decide))]; exact H6.out, by rw [last_hit HP.out e4]; exact ⟨wr.heap.size + 1, rfl, HBS.out.fresh (by omega) (by omega), by rw [← hTy.out]; exact hnew⟩, by rw [last_other HP.out e4 (seq_false.2 (by decide))]; exact H8.out⟩
                case measure => simp [intOf]; omega
            · have e3 : seq p.1 s_filter = true := by rw [seq, show s_filter.toList = [102, 105, 108, 116, 101, 114] by rw [Lib.toList_data]]; exact he3
              have hCl := HC.out p (List.mem_of_getElem? HP.out) s_filter (by simp) e3
              have hroom := cls_room HP.out e3
              have hy : Ext wr (wr.alloc (.cells #[.string p.1, .int .i64 k, .string x, .float .f64 d, .bool y, .slice ka kn kc, .slice ca m cc] 38)) := ext_alloc (ext_refl wr) _
              have hca := Lib.hid (clauses_any (S := fun b => b < w.heap.size) (⟨k, x, d, y, ka, kn, kc, ca, m, cc⟩ : El) p.2 (wr.alloc (.cells #[.string p.1, .int .i64 k, .string x, .float .f64 d, .bool y, .slice ka kn kc, .slice ca m cc] 38)) (hTe.out.ext (ext_trans hx hy)) hCl.1 (by omega) hCl.2)
              obtain ⟨-, -, ⟨⟨vs, hO, hG⟩, hnv⟩, -⟩ := HBS.out
              have hvl : vs.length = (clsOf (ps.take j) s_filter).length := by rw [hG.1, List.length_map]
              have HO := Lib.hid hO
              have HG := Lib.hid hG
              have HCl := Lib.hid hCl
              clear hO hG hCl
              go_wp2_with (first
                | (go_at_call 14; refine hca.out.mono ?_; rintro r w2 ⟨g, cn, ccap, us, rfl, hcn, hcp, hul, hcell, hGu, hx2⟩
                   subst hcn
                   have hy2 := ext_trans hy hx2
                   have hz2 := hy2.sz
                   have hms := Lib.hid (boolFilter_any (S := fun q => q < w.heap.size + 1) w2 bq (w.heap.size + 1) V3 vs (.nilIface) (V1) (V2) (V4) (.pointer v5) (.string v6) (.pointer v7) (.string v8) _ _ (hbq.ext hy2) (HO.out.ext hy2) (by omega) hnv (fun q hq => ⟨by omega, fun e => by have := (HO.out.block e).1; omega⟩) (HG.out.keep (fun _ h _ => h) (hy2.keeps _) hy2.sz) g _ ccap us hul hcp (by omega) hcell (hGu.keep (S' := fun q => q < w.heap.size + 1) (fun q hq _ => by omega) (fun _ _ _ => rfl) (Nat.le_refl _)))
                   have Hcell := Lib.hid hcell
                   clear hcell hGu hul)
                | (go_at_call 17; refine hms.out.mono ?_; rintro r w3 ⟨rfl, g3, cap3, hO3, hG3, hb3, hL3, hgl, hgb, hsz3, hk3, how3, hx3⟩)
                | fail)
              have hx4 := hx3 w (ext_trans hx hy2) (by omega) (by omega)
              have hb04 : Box w3 w.heap.size (El.arr El0) 29 := by
                have h1 := hb0.ext hy2
                exact (hk3 _ ⟨by omega, fun e => by have := (HO.out.block e).1; omega⟩ h1.lt).trans h1
              have hBS4 : BS (w.heap.size + 1) bq w3 V1 V2 (.slice (some ⟨g3, 0, none⟩) (vs.length + (clT p.2).length) cap3) V4 ((clsOf (ps.take (j + 1)) s_must).map jFull) ((clsOf (ps.take (j + 1)) s_must_not).map jFull) ((clsOf (ps.take (j + 1)) s_filter).map jFull) ((clsOf (ps.take (j + 1)) s_should).map jFull) := by
                rw [cls_other (k := s_must) HP.out e3 (seq_false.2 (by decide)), cls_other (k := s_must_not) HP.out e3 (seq_false.2 (by decide)), cls_hit (k := s_filter) HP.out e3, List.map_append, cls_other (k := s_should) HP.out e3 (seq_false.2 (by decide))]
                exact BS.push3 (HBS.out.ext hy2) (by omega) hO3 hG3 hL3 hgb (fun v2 vs2 h1 h2 h3 => how3 _ v2 vs2 h1 h2 h3) hk3 hsz3
              have hkO : Keeps (OffB bq V1 V2 V3 V4) w2 w3 := fun q hq hl => hk3 q ⟨hq.1, hq.2.2.2.1⟩ hl
              have hF5 : FN (OffB bq V1 V2 (.slice (some ⟨g3, 0, none⟩) (vs.length + (clT p.2).length) cap3) V4) w3 v5 (lastOf (ps.take (j + 1)) s_boost) := by rw [last_other HP.out e3 (seq_false.2 (by decide))]; exact FN.keep (fun q hq hl => OffB.push3 hq hl hL3) hkO (FN.ext hy2 H5.out)
              have hF6 : v6 = fT (leastOf (ps.take (j + 1))) := by rw [least_other HP.out e3 (seq_false.2 (by decide)) (seq_false.2 (by decide))]; exact H6.out
              have hF7 : FY (OffB bq V1 V2 (.slice (some ⟨g3, 0, none⟩) (vs.length + (clT p.2).length) cap3) V4) w3 v7 (lastOf (ps.take (j + 1)) s_adjust_pure_negative) := by rw [last_other HP.out e3 (seq_false.2 (by decide))]; exact FY.keep (fun q hq hl => OffB.push3 hq hl hL3) hkO (FY.ext hy2 H7.out)
              have hF8 : v8 = fT (lastOf (ps.take (j + 1)) s_name) := by rw [last_other HP.out e3 (seq_false.2 (by decide))]; exact H8.out
              have HE := Lib.hid (And.intro hx4 (And.intro hb04 (And.intro hb3 (And.intro hBS4 (And.intro hF5 (And.intro hF6 (And.intro hF7 hF8)))))))
              clear hx4 hb04 hb3 hBS4 hF5 hF6 hF7 hF8 hO3 hG3 hL3 hk3 how3 hx3 hkO
              go_roundw
              case rel =>
                obtain ⟨hx4, hb04, hb3, hBS4, hF5, hF6, hF7, hF8⟩ := HE.out
                exact ⟨hx4, by omega, hb04, j + 1, V1, V2, (.slice (some ⟨g3, 0, none⟩) (vs.length + (clT p.2).length) cap3), V4, v5, v6, v7, v8, by omega, by go_num, hb3, hBS4, hF5, hF6, hF7, hF8⟩
              case measure => simp [intOf]; omega
          · have e2 : seq p.1 s_should = true := by rw [seq, show s_should.toList = [115, 104, 111, 117, 108, 100] by rw [Lib.toList_data]]; exact he2
            have hCl := HC.out p (List.mem_of_getElem? HP.out) s_should (by simp) e2
            have hroom := cls_room HP.out e2
            have hy : Ext wr (wr.alloc (.cells #[.string p.1, .int .i64 k, .string x, .float .f64 d, .bool y, .slice ka kn kc, .slice ca m cc] 38)) := ext_alloc (ext_refl wr) _
            have hca := Lib.hid (clauses_any (S := fun b => b < w.heap.size) (⟨k, x, d, y, ka, kn, kc, ca, m, cc⟩ : El) p.2 (wr.alloc (.cells #[.string p.1, .int .i64 k, .string x, .float .f64 d, .bool y, .slice ka kn kc, .slice ca m cc] 38)) (hTe.out.ext (ext_trans hx hy)) hCl.1 (by omega) hCl.2)
            obtain ⟨-, -, -, ⟨⟨vs, hO, hG⟩, hnv⟩, -⟩ := HBS.out
            have hvl : vs.length = (clsOf (ps.take j) s_should).length := by rw [hG.1, List.length_map]
            have HO := Lib.hid hO
            have HG := Lib.hid hG
            have HCl := Lib.hid hCl
            clear hO hG hCl
            go_wp2_with (first
              | (go_at_call 14; refine hca.out.mono ?_; rintro r w2 ⟨g, cn, ccap, us, rfl, hcn, hcp, hul, hcell, hGu, hx2⟩
                 subst hcn
                 have hy2 := ext_trans hy hx2
                 have hz2 := hy2.sz
                 have hms := Lib.hid (boolShould_any (S := fun q => q < w.heap.size + 1) w2 bq (w.heap.size + 1) V4 vs (.nilIface) (V1) (V2) (V3) (.pointer v5) (.string v6) (.pointer v7) (.string v8) _ _ (hbq.ext hy2) (HO.out.ext hy2) (by omega) hnv (fun q hq => ⟨by omega, fun e => by have := (HO.out.block e).1; omega⟩) (HG.out.keep (fun _ h _ => h) (hy2.keeps _) hy2.sz) g _ ccap us hul hcp (by omega) hcell (hGu.keep (S' := fun q => q < w.heap.size + 1) (fun q hq _ => by omega) (fun _ _ _ => rfl) (Nat.le_refl _)))
                 have Hcell := Lib.hid hcell
                 clear hcell hGu hul)
              | (go_at_call 16; refine hms.out.mono ?_; rintro r w3 ⟨rfl, g3, cap3, hO3, hG3, hb3, hL3, hgl, hgb, hsz3, hk3, how3, hx3⟩)
              | fail)
            have hx4 := hx3 w (ext_trans hx hy2) (by omega) (by omega)
            have hb04 : Box w3 w.heap.size (El.arr El0) 29 := by
              have h1 := hb0.ext hy2
              exact (hk3 _ ⟨by omega, fun e => by have := (HO.out.block e).1; omega⟩ h1.lt).trans h1
            have hBS4 : BS (w.heap.size + 1) bq w3 V1 V2 V3 (.slice (some ⟨g3, 0, none⟩) (vs.length + (clT p.2).length) cap3) ((clsOf (ps.take (j + 1)) s_must).map jFull) ((clsOf (ps.take (j + 1)) s_must_not).map jFull) ((clsOf (ps.take (j + 1)) s_filter).map jFull) ((clsOf (ps.take (j + 1)) s_should).map jFull) := by
              rw [cls_other (k := s_must) HP.out e2 (seq_false.2 (by decide)), cls_other (k := s_must_not) HP.out e2 (seq_false.2 (by decide)), cls_other (k := s_filter) HP.out e2 (seq_false.2 (by decide)), cls_hit (k := s_should) HP.out e2, List.map_append]
              exact BS.push4 (HBS.out.ext hy2) (by omega) hO3 hG3 hL3 hgb (fun v2 vs2 h1 h2 h3 => how3 _ v2 vs2 h1 h2 h3) hk3 hsz3
            have hkO : Keeps (OffB bq V1 V2 V3 V4) w2 w3 := fun q hq hl => hk3 q ⟨hq.1, hq.2.2.2.2⟩ hl
            have hF5 : FN (OffB bq V1 V2 V3 (.slice (some ⟨g3, 0, none⟩) (vs.length + (clT p.2).length) cap3)) w3 v5 (lastOf (ps.take (j + 1)) s_boost) := by rw [last_other HP.out e2 (seq_false.2 (by decide))]; exact FN.keep (fun q hq hl => OffB.push4 hq hl hL3) hkO (FN.ext hy2 H5.out)
            have hF6 : v6 = fT (leastOf (ps.take (j + 1))) := by rw [least_other HP.out e2 (seq_false.2 (by decide)) (seq_false.2 (by decide))]; exact H6.out
            have hF7 : FY (OffB bq V1 V2 V3 (.slice (some ⟨g3, 0, none⟩) (vs.length + (clT p.2).length) cap3)) w3 v7 (lastOf (ps.take (j + 1)) s_adjust_pure_negative) := by rw [last_other HP.out e2 (seq_false.2 (by decide))]; exact FY.keep (fun q hq hl => OffB.push4 hq hl hL3) hkO (FY.ext hy2 H7.out)
            have hF8 : v8 = fT (lastOf (ps.take (j + 1)) s_name) := by rw [last_other HP.out e2 (seq_false.2 (by decide))]; exact H8.out
            have HE := Lib.hid (And.intro hx4 (And.intro hb04 (And.intro hb3 (And.intro hBS4 (And.intro hF5 (And.intro hF6 (And.intro hF7 hF8)))))))
            clear hx4 hb04 hb3 hBS4 hF5 hF6 hF7 hF8 hO3 hG3 hL3 hk3 how3 hx3 hkO
            go_roundw
            case rel =>
              obtain ⟨hx4, hb04, hb3, hBS4, hF5, hF6, hF7, hF8⟩ := HE.out
              exact ⟨hx4, by omega, hb04, j + 1, V1, V2, V3, (.slice (some ⟨g3, 0, none⟩) (vs.length + (clT p.2).length) cap3), v5, v6, v7, v8, by omega, by go_num, hb3, hBS4, hF5, hF6, hF7, hF8⟩
            case measure => simp [intOf]; omega
        · have e1 : seq p.1 s_must_not = true := by rw [seq, show s_must_not.toList = [109, 117, 115, 116, 95, 110, 111, 116] by rw [Lib.toList_data]]; exact he1
          have hCl := HC.out p (List.mem_of_getElem? HP.out) s_must_not (by simp) e1
          have hroom := cls_room HP.out e1
          have hy : Ext wr (wr.alloc (.cells #[.string p.1, .int .i64 k, .string x, .float .f64 d, .bool y, .slice ka kn kc, .slice ca m cc] 38)) := ext_alloc (ext_refl wr) _
          have hca := Lib.hid (clauses_any (S := fun b => b < w.heap.size) (⟨k, x, d, y, ka, kn, kc, ca, m, cc⟩ : El) p.2 (wr.alloc (.cells #[.string p.1, .int .i64 k, .string x, .float .f64 d, .bool y, .slice ka kn kc, .slice ca m cc] 38)) (hTe.out.ext (ext_trans hx hy)) hCl.1 (by omega) hCl.2)
          obtain ⟨-, ⟨⟨vs, hO, hG⟩, hnv⟩, -⟩ := HBS.out
          have hvl : vs.length = (clsOf (ps.take j) s_must_not).length := by rw [hG.1, List.length_map]
          have HO := Lib.hid hO
          have HG := Lib.hid hG
          have HCl := Lib.hid hCl
          clear hO hG hCl
          go_wp2_with (first
            | (go_at_call 14; refine hca.out.mono ?_; rintro r w2 ⟨g, cn, ccap, us, rfl, hcn, hcp, hul, hcell, hGu, hx2⟩
               subst hcn
               have hy2 := ext_trans hy hx2
               have hz2 := hy2.sz
               have hms := Lib.hid (boolMustNot_any (S := fun q => q < w.heap.size + 1) w2 bq (w.heap.size + 1) V2 vs (.nilIface) (V1) (V3) (V4) (.pointer v5) (.string v6) (.pointer v7) (.string v8) _ _ (hbq.ext hy2) (HO.out.ext hy2) (by omega) hnv (fun q hq => ⟨by omega, fun e => by have := (HO.out.block e).1; omega⟩) (HG.out.keep (fun _ h _ => h) (hy2.keeps _) hy2.sz) g _ ccap us hul hcp (by omega) hcell (hGu.keep (S' := fun q => q < w.heap.size + 1) (fun q hq _ => by omega) (fun _ _ _ => rfl) (Nat.le_refl _)))
               have Hcell := Lib.hid hcell
               clear hcell hGu hul)
            | (go_at_call 15; refine hms.out.mono ?_; rintro r w3 ⟨rfl, g3, cap3, hO3, hG3, hb3, hL3, hgl, hgb, hsz3, hk3, how3, hx3⟩)
            | fail)
          have hx4 := hx3 w (ext_trans hx hy2) (by omega) (by omega)
          have hb04 : Box w3 w.heap.size (El.arr El0) 29 := by
            have h1 := hb0.ext hy2
            exact (hk3 _ ⟨by omega, fun e => by have := (HO.out.block e).1; omega⟩ h1.lt).trans h1
          have hBS4 : BS (w.heap.size + 1) bq w3 V1 (.slice (some ⟨g3, 0, none⟩) (vs.length + (clT p.2).length) cap3) V3 V4 ((clsOf (ps.take (j + 1)) s_must).map jFull) ((clsOf (ps.take (j + 1)) s_must_not).map jFull) ((clsOf (ps.take (j + 1)) s_filter).map jFull) ((clsOf (ps.take (j + 1)) s_should).map jFull) := by
            rw [cls_other (k := s_must) HP.out e1 (seq_false.2 (by decide)), cls_hit (k := s_must_not) HP.out e1, List.map_append, cls_other (k := s_filter) HP.out e1 (seq_false.2 (by decide)), cls_other (k := s_should) HP.out e1 (seq_false.2 (by decide))]
            exact BS.push2 (HBS.out.ext hy2) (by omega) hO3 hG3 hL3 hgb (fun v2 vs2 h1 h2 h3 => how3 _ v2 vs2 h1 h2 h3) hk3 hsz3
          have hkO : Keeps (OffB bq V1 V2 V3 V4) w2 w3 := fun q hq hl => hk3 q ⟨hq.1, hq.2.2.1⟩ hl
          have hF5 : FN (OffB bq V1 (.slice (some ⟨g3, 0, none⟩) (vs.length + (clT p.2).length) cap3) V3 V4) w3 v5 (lastOf (ps.take (j + 1)) s_boost) := by rw [last_other HP.out e1 (seq_false.2 (by decide))]; exact FN.keep (fun q hq hl => OffB.push2 hq hl hL3) hkO (FN.ext hy2 H5.out)
          have hF6 : v6 = fT (leastOf (ps.take (j + 1))) := by rw [least_other HP.out e1 (seq_false.2 (by decide)) (seq_false.2 (by decide))]; exact H6.out
          have hF7 : FY (OffB bq V1 (.slice (some ⟨g3, 0, none⟩) (vs.length + (clT p.2).length) cap3) V3 V4) w3 v7 (lastOf (ps.take (j + 1)) s_adjust_pure_negative) := by rw [last_other HP.out e1 (seq_false.2 (by decide))]; exact FY.keep (fun q hq hl => OffB.push2 hq hl hL3) hkO (FY.ext hy2 H7.out)
          have hF8 : v8 = fT (lastOf (ps.take (j + 1)) s_name) := by rw [last_other HP.out e1 (seq_false.2 (by decide))]; exact H8.out
          have HE := Lib.hid (And.intro hx4 (And.intro hb04 (And.intro hb3 (And.intro hBS4 (And.intro hF5 (And.intro hF6 (And.intro hF7 hF8)))))))
          clear hx4 hb04 hb3 hBS4 hF5 hF6 hF7 hF8 hO3 hG3 hL3 hk3 how3 hx3 hkO
          go_roundw
          case rel =>
            obtain ⟨hx4, hb04, hb3, hBS4, hF5, hF6, hF7, hF8⟩ := HE.out
            exact ⟨hx4, by omega, hb04, j + 1, V1, (.slice (some ⟨g3, 0, none⟩) (vs.length + (clT p.2).length) cap3), V3, V4, v5, v6, v7, v8, by omega, by go_num, hb3, hBS4, hF5, hF6, hF7, hF8⟩
          case measure => simp [intOf]; omega
      · have e0 : seq p.1 s_must = true := by rw [seq, show s_must.toList = [109, 117, 115, 116] by rw [Lib.toList_data]]; exact he0
        have hCl := HC.out p (List.mem_of_getElem? HP.out) s_must (by simp) e0
        have hroom := cls_room HP.out e0
        have hy : Ext wr (wr.alloc (.cells #[.string p.1, .int .i64 k, .string x, .float .f64 d, .bool y, .slice ka kn kc, .slice ca m cc] 38)) := ext_alloc (ext_refl wr) _
        have hca := Lib.hid (clauses_any (S := fun b => b < w.heap.size) (⟨k, x, d, y, ka, kn, kc, ca, m, cc⟩ : El) p.2 (wr.alloc (.cells #[.string p.1, .int .i64 k, .string x, .float .f64 d, .bool y, .slice ka kn kc, .slice ca m cc] 38)) (hTe.out.ext (ext_trans hx hy)) hCl.1 (by omega) hCl.2)
        obtain ⟨⟨⟨vs, hO, hG⟩, hnv⟩, -⟩ := HBS.out
        have hvl : vs.length = (clsOf (ps.take j) s_must).length := by rw [hG.1, List.length_map]
        have HO := Lib.hid hO
        have HG := Lib.hid hG
        have HCl := Lib.hid hCl
        clear hO hG hCl
        go_wp2_with (first
          | (go_at_call 14; refine hca.out.mono ?_; rintro r w2 ⟨g, cn, ccap, us, rfl, hcn, hcp, hul, hcell, hGu, hx2⟩
             subst hcn
             have hy2 := ext_trans hy hx2
             have hz2 := hy2.sz
             have hms := Lib.hid (boolMust_any (S := fun q => q < w.heap.size + 1) w2 bq (w.heap.size + 1) V1 vs (.nilIface) (V2) (V3) (V4) (.pointer v5) (.string v6) (.pointer v7) (.string v8) _ _ (hbq.ext hy2) (HO.out.ext hy2) (by omega) hnv (fun q hq => ⟨by omega, fun e => by have := (HO.out.block e).1; omega⟩) (HG.out.keep (fun _ h _ => h) (hy2.keeps _) hy2.sz) g _ ccap us hul hcp (by omega) hcell (hGu.keep (S' := fun q => q < w.heap.size + 1) (fun q hq _ => by omega) (fun _ _ _ => rfl) (Nat.le_refl _)))
             have Hcell := Lib.hid hcell
             clear hcell hGu hul)
          | (go_at_call 13; refine hms.out.mono ?_; rintro r w3 ⟨rfl, g3, cap3, hO3, hG3, hb3, hL3, hgl, hgb, hsz3, hk3, how3, hx3⟩)
          | fail)
        have hx4 := hx3 w (ext_trans hx hy2) (by omega) (by omega)
        have hb04 : Box w3 w.heap.size (El.arr El0) 29 := by
          have h1 := hb0.ext hy2
          exact (hk3 _ ⟨by omega, fun e => by have := (HO.out.block e).1; omega⟩ h1.lt).trans h1
        have hBS4 : BS (w.heap.size + 1) bq w3 (.slice (some ⟨g3, 0, none⟩) (vs.length + (clT p.2).length) cap3) V2 V3 V4 ((clsOf (ps.take (j + 1)) s_must).map jFull) ((clsOf (ps.take (j + 1)) s_must_not).map jFull) ((clsOf (ps.take (j + 1)) s_filter).map jFull) ((clsOf (ps.take (j + 1)) s_should).map jFull) := by
          rw [cls_hit (k := s_must) HP.out e0, List.map_append, cls_other (k := s_must_not) HP.out e0 (seq_false.2 (by decide)), cls_other (k := s_filter) HP.out e0 (seq_false.2 (by decide)), cls_other (k := s_should) HP.out e0 (seq_false.2 (by decide))]
          exact BS.push1 (HBS.out.ext hy2) (by omega) hO3 hG3 hL3 hgb (fun v2 vs2 h1 h2 h3 => how3 _ v2 vs2 h1 h2 h3) hk3 hsz3
        have hkO : Keeps (OffB bq V1 V2 V3 V4) w2 w3 := fun q hq hl => hk3 q ⟨hq.1, hq.2.1⟩ hl
        have hF5 : FN (OffB bq (.slice (some ⟨g3, 0, none⟩) (vs.length + (clT p.2).length) cap3) V2 V3 V4) w3 v5 (lastOf (ps.take (j + 1)) s_boost) := by rw [last_other HP.out e0 (seq_false.2 (by decide))]; exact FN.keep (fun q hq hl => OffB.push1 hq hl hL3) hkO (FN.ext hy2 H5.out)
        have hF6 : v6 = fT (leastOf (ps.take (j + 1))) := by rw [least_other HP.out e0 (seq_false.2 (by decide)) (seq_false.2 (by decide))]; exact H6.out
        have hF7 : FY (OffB bq (.slice (some ⟨g3, 0, none⟩) (vs.length + (clT p.2).length) cap3) V2 V3 V4) w3 v7 (lastOf (ps.take (j + 1)) s_adjust_pure_negative) := by rw [last_other HP.out e0 (seq_false.2 (by decide))]; exact FY.keep (fun q hq hl => OffB.push1 hq hl hL3) hkO (FY.ext hy2 H7.out)
        have hF8 : v8 = fT (lastOf (ps.take (j + 1)) s_name) := by rw [last_other HP.out e0 (seq_false.2 (by decide))]; exact H8.out
        have HE := Lib.hid (And.intro hx4 (And.intro hb04 (And.intro hb3 (And.intro hBS4 (And.intro hF5 (And.intro hF6 (And.intro hF7 hF8)))))))
        clear hx4 hb04 hb3 hBS4 hF5 hF6 hF7 hF8 hO3 hG3 hL3 hk3 how3 hx3 hkO
        go_roundw
        case rel =>
          obtain ⟨hx4, hb04, hb3, hBS4, hF5, hF6, hF7, hF8⟩ := HE.out
          exact ⟨hx4, by omega, hb04, j + 1, (.slice (some ⟨g3, 0, none⟩) (vs.length + (clT p.2).length) cap3), V2, V3, V4, v5, v6, v7, v8, by omega, by go_num, hb3, hBS4, hF5, hF6, hF7, hF8⟩
        case measure => simp [intOf]; omega
    · have hjn : j = n := by omega
      have hfull : ps.take j = ps := List.take_of_length_le (by have := HL.out; omega)
      rw [hfull] at HBS H5 H6 H7 H8
      obtain ⟨⟨a1, m1, c1, rfl, hm1, hq1⟩, ⟨a2, m2, c2, rfl, hm2, hq2⟩, ⟨a3, m3, c3, rfl, hm3, hq3⟩, ⟨a4, m4, c4, rfl, hm4, hq4⟩⟩ := HBS.out.qs (by omega)
      rw [List.length_map] at hm1 hm2 hm3 hm4
      have hn1 := clsOf_len ps s_must
      have hn2 := clsOf_len ps s_must_not
      have hn3 := clsOf_len ps s_filter
      have hn4 := clsOf_len ps s_should
      have hS := Lib.hid (bool_src (S := fun q => q ≠ bq) wr bq a1 m1 c1 _ hq1 (by omega) a2 m2 c2 _ hq2 (by omega) a3 m3 c3 _ hq3 (by omega) a4 m4 c4 _ hq4 (by omega) v5 _ (FN.keep (fun q hq _ => hq.1) (fun _ _ _ => rfl) H5.out) v6 _ H6.out v7 _ (FY.keep (fun q hq _ => hq.1) (fun _ _ _ => rfl) H7.out) v8 _ H8.out hbq)
      clear hq1 hq2 hq3 hq4
      go_wp2_with (first
        | (go_at_call 24; refine hS.out.mono ?_; rintro r w2 ⟨v, rfl, hJ, hx2⟩)
        | (go_at_call 23; refine (told_any v _ _ hJ).mono ?_; rintro r w3 ⟨e2, rfl, hT3, hx3⟩; simp only [El.val]
           have hb := (hb0.ext hx2).ext hx3; obtain ⟨o0, o1, o2, o3, o4, o5⟩ := hb.six; have f0 := hb.free 0; have f1 := hb.free 1; have f2 := hb.free 2; have f3 := hb.free 3; have f4 := hb.free 4; have f5 := hb.free 5))
      have hx4 := ext_trans hx (ext_trans hx2 hx3)
      have hs2 := hx2.sz
      refine post_tree2 rfl rfl (hb.sto e2) rfl ⟨e2, rfl, ?_, ext_sto6 hx4 (by omega) _ _ _ _ _ _⟩
      have hfin := TreeAt.keep (S := fun b => w2.heap.size ≤ b) (S' := fun b => w.heap.size + 1 ≤ b) (fun b hb _ => by omega) (keeps_sto (b := w.heap.size) w3 (by omega) e2) _ hT3
      exact hfin
end Go.Proofs.YtfngaoicoecncaaDoor

namespace Go.Proofs.YtfngaoicoecncaaDoor
open Go.RowKit

/-- Two settings with different names that stand behind each other have changed places, or none. -/
def Exch (ps qs : List (ByteArray × T)) : Prop := qs = ps ∨ ∃ k p q, ps[k]? = some p ∧ ps[k + 1]? = some q ∧ seq p.1 q.1 = false ∧ qs = (ps.set k q).set (k + 1) p
theorem exch_split {p q : ByteArray × T} : ∀ (k : Nat) (ps : List (ByteArray × T)), ps[k]? = some p → ps[k + 1]? = some q → ∃ pre post, ps = pre ++ p :: q :: post ∧ (ps.set k q).set (k + 1) p = pre ++ q :: p :: post
  | 0, ps, h1, h2 => by
    match ps, h1, h2 with
    | [], h1, _ => simp at h1
    | [_], _, h2 => simp at h2
    | x :: y :: r, h1, h2 =>
      simp at h1 h2
      subst h1 h2
      exact ⟨[], r, rfl, rfl⟩
  | k + 1, ps, h1, h2 => by
    match ps, h1, h2 with
    | [], h1, _ => simp at h1
    | x :: r, h1, h2 =>
      simp only [List.getElem?_cons_succ] at h1 h2
      obtain ⟨pre, post, e1, e2⟩ := exch_split k r h1 h2
      refine ⟨x :: pre, post, by rw [e1]; rfl, ?_⟩
      simp only [List.set_cons_succ, List.cons_append, e2]
theorem pairs_els {S : Nat → Prop} {w : World} {b off n c : Nat} {ps : List (ByteArray × T)} (h : PairsAt S w (some ⟨b, off, none⟩) n c ps) : ∃ es : List (ByteArray × El), es.length = n ∧ Pk S w es ps ∧ ∀ i f, es[i]? = some f → Cells7 w b (off + i * 7) f.1 f.2 := by
  obtain ⟨hl, hn, hm, hc⟩ := h
  obtain ⟨es, h1, h2⟩ := choose_list (fun i (x : ByteArray × El) => ∀ q, ps[i]? = some q → x.1 = q.1 ∧ Cells7 w b (off + i * 7) x.1 x.2 ∧ TreeAt S w x.2 q.2) n fun i hi => by
    obtain ⟨p, hp⟩ := some_of_lt hl hi
    obtain ⟨b', off', e, he, -, h7, hT⟩ := hc i p hp
    cases he
    exact ⟨(p.1, e), fun q hq => by rw [hp] at hq; cases hq; exact ⟨rfl, h7, hT⟩⟩
  refine ⟨es, h1, ⟨by omega, fun i e p he hp => ⟨(h2 i e he p hp).1, (h2 i e he p hp).2.2⟩⟩, fun i f hf => ?_⟩
  obtain ⟨p, hp⟩ := some_of_lt hl (show i < n by have := (List.getElem?_eq_some_iff.1 hf).1; omega)
  exact (h2 i f hf p hp).2.1
def set7 (a : Array Value) (i : Nat) (e : ByteArray × El) : Array Value :=
  ((((((a.setIfInBounds i (.string e.1)).setIfInBounds (i + 1) (.int .i64 e.2.k)).setIfInBounds (i + 2) (.string e.2.x)).setIfInBounds (i + 3) (.float .f64 e.2.d)).setIfInBounds (i + 4) (.bool e.2.y)).setIfInBounds (i + 5) (.slice e.2.ka e.2.n e.2.kc)).setIfInBounds (i + 6) (.slice e.2.ca e.2.m e.2.cc)
theorem set7_size (a : Array Value) (i : Nat) (e : ByteArray × El) : (set7 a i e).size = a.size := by simp [set7]
theorem set7_same {a : Array Value} {i : Nat} {e : ByteArray × El} (h : i + 7 ≤ a.size) {j : Nat} {v : Value} (hj : (cells7 e)[j]? = some v) : (set7 a i e)[i + j]? = some v := by
  unfold set7
  match j, hj with
  | 0, hj => simp [cells7, El.cells] at hj; subst hj; simp [Array.getElem?_setIfInBounds]; omega
  | 1, hj => simp [cells7, El.cells] at hj; subst hj; simp [Array.getElem?_setIfInBounds]; omega
  | 2, hj => simp [cells7, El.cells] at hj; subst hj; simp [Array.getElem?_setIfInBounds]; omega
  | 3, hj => simp [cells7, El.cells] at hj; subst hj; simp [Array.getElem?_setIfInBounds]; omega
  | 4, hj => simp [cells7, El.cells] at hj; subst hj; simp [Array.getElem?_setIfInBounds]; omega
  | 5, hj => simp [cells7, El.cells] at hj; subst hj; simp [Array.getElem?_setIfInBounds]; omega
  | 6, hj => simp [cells7, El.cells] at hj; subst hj; simp [Array.getElem?_setIfInBounds]; omega
  | j + 7, hj => simp [cells7, El.cells] at hj
theorem set7_other (a : Array Value) (i : Nat) (e : ByteArray × El) {m : Nat} (h : m < i ∨ i + 7 ≤ m) : (set7 a i e)[m]? = a[m]? := by
  unfold set7
  simp only [Array.getElem?_setIfInBounds]
  rw [if_neg (by omega), if_neg (by omega), if_neg (by omega), if_neg (by omega), if_neg (by omega), if_neg (by omega), if_neg (by omega)]
theorem cells7_lt {e : ByteArray × El} {j : Nat} {v : Value} (h : (cells7 e)[j]? = some v) : j < 7 := by
  have := (List.getElem?_eq_some_iff.1 h).1
  simpa [cells7, El.cells] using this
theorem swap_cells {cur : Array Value} {es : List (ByteArray × El)} {k : Nat} {e1 e2 : ByteArray × El} (hk : k + 1 < es.length) (hs : es.length * 7 ≤ cur.size) (hc : ∀ i f, es[i]? = some f → ∀ j v, (cells7 f)[j]? = some v → cur[i * 7 + j]? = some v) :
    ∀ i f, ((es.set k e2).set (k + 1) e1)[i]? = some f → ∀ j v, (cells7 f)[j]? = some v → (set7 (set7 cur (k * 7) e2) ((k + 1) * 7) e1)[i * 7 + j]? = some v := fun i f hf j v hv => by
  have hj := cells7_lt hv
  rw [List.getElem?_set] at hf
  by_cases h1 : k + 1 = i
  · subst h1
    rw [if_pos rfl, if_pos (by rw [List.length_set]; exact hk)] at hf
    cases hf
    exact set7_same (by rw [set7_size]; omega) hv
  · rw [if_neg h1, List.getElem?_set] at hf
    rw [set7_other _ _ _ (by omega)]
    by_cases h2 : k = i
    · subst h2
      rw [if_pos rfl, if_pos (by omega)] at hf
      cases hf
      exact set7_same (by omega) hv
    · rw [if_neg h2] at hf
      rw [set7_other _ _ _ (by omega)]
      exact hc i f hf j v hv
/-- What is appended is nothing: what is there stays as it is. -/
theorem sets_append_nothing {ops : Array Oper} {rest : List Oper} {o : Oper} {a : Act} {Q : Exit → Act → World → Prop} (w : World) (hgd : o.guard = none) (s x : Operand)
    (ho : o.op = .call { callee := .builtin .append, args := #[s, x], argTypes := #[22, 22] })
    (base : Nat) (v : Value) (es : List (ByteArray × El)) (hs : a.eval s = v) (hown : OwnSets w base v es) (ad : Option Addr) (c : Nat) (hx : a.eval x = .slice ad 0 c)
    (h : wpList Tryd.prog ops Q rest (a.put o.dst v) w) : wpList Tryd.prog ops Q (o :: rest) a w := by
  refine wpList_plain hgd fun K hK => ?_
  obtain ⟨i, hi, -, -, -⟩ := info_parts info_set
  have ht : Tryd.prog.underlying 22 = some (.slice 38) := Tryd.underlying22
  have hrun : (Builtin.append_ #[22, 22] o.type #[v, .slice ad 0 c]).run Tryd.prog w = .ok v w := by
    cases ad with
    | none =>
      rcases hown.2 with ⟨rfl, h0⟩ | ⟨g, cap, cur, rfl, _, _, hnc, _⟩
      · rw [h0] at *
        simp [Builtin.append_, run_underlying ht, sizeOf, typeInfo, hi, Builtin.lenOf, Builtin.firstCells]
      · simp [Builtin.append_, run_underlying ht, sizeOf, typeInfo, hi, Builtin.lenOf, Builtin.firstCells, hnc, storeCells]
    | some ad =>
      rcases hown.2 with ⟨rfl, h0⟩ | ⟨g, cap, cur, rfl, _, _, hnc, _⟩
      · simp [Builtin.append_, run_underlying ht, sizeOf, typeInfo, hi, Builtin.lenOf, Builtin.firstCells, loadCells, loadCellsFrom]
      · simp [Builtin.append_, run_underlying ht, sizeOf, typeInfo, hi, Builtin.lenOf, Builtin.firstCells, hnc, storeCells, loadCells, loadCellsFrom]
  unfold Oper.wp
  simp [execOp, ho, resolve, invoke, builtin, hs, hx, hrun, Result.andThen]
  exact hK _ _ h
theorem list_append_setsN {ops : Array Oper} {rest : List Oper} {o : Oper} {a : Act} {Q : Exit → Act → World → Prop} (w : World) (hgd : o.guard = none) (s x : Operand) (ho : o.op = .call { callee := .builtin .append, args := #[s, x], argTypes := #[22, 22] })
    (base : Nat) (v : Value) (es : List (ByteArray × El)) (hs : a.eval s = v) (hown : OwnSets w base v es) (b off n cap : Nat) (fs : List (ByteArray × El)) (hn : fs.length = n) (hf : 0 < n) (hx : a.eval x = .slice (some ⟨b, off, none⟩) n cap) (hc : ∀ i f, fs[i]? = some f → Cells7 w b (off + i * 7) f.1 f.2)
    (hb : (es.length + n) * 104 ≤ 140737488355328) (hbase : base ≤ w.heap.size)
    (h : ∀ g cap w', OwnSets w' base (.slice (some ⟨g, 0, none⟩) (es.length + n) cap) (es ++ fs) → w.grownBy w' v.ownBlock → Lies w v g → g < w'.heap.size → wpList Tryd.prog ops Q rest (a.put o.dst (.slice (some ⟨g, 0, none⟩) (es.length + n) cap)) w') : wpList Tryd.prog ops Q (o :: rest) a w := by
  subst hn
  exact wpList_plain hgd fun _ hK => wp_append_sets w s x ho base v es hs hown b off cap fs hf hx hc hb hbase fun g cap w' h1 h2 h3 h4 => hK _ _ (h g cap w' h1 h2 h3 h4)
end Go.Proofs.YtfngaoicoecncaaDoor

namespace Go.Proofs.YtfngaoicoecncaaDoor
open Go.RowKit

theorem cells_pairs {w' : World} {g n cap : Nat} {cur : Array Value} {es : List (ByteArray × El)} {ps : List (ByteArray × T)} (hB : Box w' g cur 38) (hc : ∀ i f, es[i]? = some f → ∀ j v, (cells7 f)[j]? = some v → cur[i * 7 + j]? = some v) (hl : es.length = n) (hnc : n ≤ cap) (hcm : cap ≤ maxLen) (hP : Pk (fun _ => True) w' es ps) : PairsAt (fun _ => True) w' (some ⟨g, 0, none⟩) n cap ps :=
  ⟨hP.1.trans hl, hnc, hcm, fun i p hp => by
    obtain ⟨f, hf⟩ := some_of_lt hl (show i < n by have := (List.getElem?_eq_some_iff.1 hp).1; have := hP.1; omega)
    obtain ⟨e1, e2⟩ := hP.2 i f p hf hp
    have hq : ∀ j v, (cells7 f)[j]? = some v → w'.cell? ⟨g, 0 + i * 7 + j, none⟩ = some v := fun j v hv => hB.cell _ _ (by rw [Nat.zero_add]; exact hc i f hf j v hv)
    exact ⟨g, 0, f.2, rfl, trivial, ⟨by rw [← e1]; exact hq 0 _ rfl, hq 1 _ rfl, hq 2 _ rfl, hq 3 _ rfl, hq 4 _ rfl, hq 5 _ rfl, hq 6 _ rfl⟩, e2⟩⟩
theorem Pk.swap {S : Nat → Prop} {w : World} {es : List (ByteArray × El)} {ps : List (ByteArray × T)} (h : Pk S w es ps) {k : Nat} {e1 e2 : ByteArray × El} {p q : ByteArray × T} (h1 : es[k]? = some e1) (h2 : es[k + 1]? = some e2) (g1 : ps[k]? = some p) (g2 : ps[k + 1]? = some q) : Pk S w ((es.set k e2).set (k + 1) e1) ((ps.set k q).set (k + 1) p) := by
  refine ⟨by simp [h.1], fun i e r he hr => ?_⟩
  have hk1 := (List.getElem?_eq_some_iff.1 h2).1
  have hk2 := (List.getElem?_eq_some_iff.1 g2).1
  rw [List.getElem?_set] at he hr
  by_cases a : k + 1 = i
  · subst a
    rw [if_pos rfl, if_pos (by rw [List.length_set]; omega)] at he hr
    cases he
    cases hr
    exact h.2 k e1 p h1 g1
  · rw [if_neg a, List.getElem?_set] at he hr
    by_cases b : k = i
    · subst b
      rw [if_pos rfl, if_pos (by omega)] at he hr
      cases he
      cases hr
      exact h.2 (k + 1) e2 q h2 g2
    · rw [if_neg b] at he hr
      exact h.2 i e r he hr
abbrev w7 (w : World) (g i : Nat) (e : ByteArray × El) : World := ((((((w.setCell ⟨g, i, none⟩ (.string e.1)).setCell ⟨g, i + 1, none⟩ (.int .i64 e.2.k)).setCell ⟨g, i + 2, none⟩ (.string e.2.x)).setCell ⟨g, i + 3, none⟩ (.float .f64 e.2.d)).setCell ⟨g, i + 4, none⟩ (.bool e.2.y)).setCell ⟨g, i + 5, none⟩ (.slice e.2.ka e.2.n e.2.kc)).setCell ⟨g, i + 6, none⟩ (.slice e.2.ca e.2.m e.2.cc)
theorem Box.w7 {w : World} {g : Nat} {cur : Array Value} {t : TypeId} (h : Box w g cur t) (i : Nat) (e : ByteArray × El) : Box (w7 w g i e) g (set7 cur i e) t := ((((((h.set i _).set (i + 1) _).set (i + 2) _).set (i + 3) _).set (i + 4) _).set (i + 5) _).set (i + 6) _
theorem ext_set7 {w0 w : World} (h : Ext w0 w) {g : Nat} (hg : w0.heap.size ≤ g) (i : Nat) (v0 v1 v2 v3 v4 v5 v6 : Value) : Ext w0 (((((((w.setCell ⟨g, i, none⟩ v0).setCell ⟨g, i + 1, none⟩ v1).setCell ⟨g, i + 2, none⟩ v2).setCell ⟨g, i + 3, none⟩ v3).setCell ⟨g, i + 4, none⟩ v4).setCell ⟨g, i + 5, none⟩ v5).setCell ⟨g, i + 6, none⟩ v6) :=
  ext_set (ext_set (ext_set (ext_set (ext_set (ext_set (ext_set h hg _) hg _) hg _) hg _) hg _) hg _) hg _
set_option maxRecDepth 20000 in
set_option maxHeartbeats 8000000 in
theorem exchanged_any {S : Nat → Prop} (a : Option Addr) (n c : Nat) (ps : List (ByteArray × T)) (z : Int) (w : World) (h : PairsAt S w a n c ps) (hb : n ≤ 2147483647) :
    Calls Tryd.prog 7 #[.slice a n c, .int .i64 z] w fun r w' => ∃ a' c', r = .returned (.slice a' n c') ∧ ∃ qs, Exch ps qs ∧ PairsAt (fun _ => True) w' a' n c' qs ∧ Ext w w' := by
  have hlen := h.1
  have hO : OwnSets (w.alloc (.cells #[] 38)) w.heap.size (.slice (some ⟨w.heap.size, 0, none⟩) 0 0) [] := ⟨rfl, .inr ⟨w.heap.size, 0, #[], rfl, Nat.le_refl _, Box.at rfl _ _, Nat.le_refl _, by simp [maxLen], rfl, rfl⟩⟩
  by_cases h0 : n = 0
  · subst h0
    have hps : ps = [] := List.length_eq_zero_iff.1 hlen
    subst hps
    clear h
    have hfin : PairsAt (fun _ => True) (w.alloc (.cells #[] 38)).drew (some ⟨w.heap.size, 0, none⟩) 0 0 [] := ⟨rfl, Nat.le_refl _, by simp [maxLen], fun i p hp => by simp at hp⟩
    have hw1 : IntKind.i64.wrap (-1) = -1 := by decide
    go_enter Tryd.func7, Tryd.ntmps7
    go_upto_region 2 with (first
      | (at_builtin; refine sets_append_nothing _ rfl _ _ rfl w.heap.size _ [] rfl hO a c rfl ?_)
      | fail)
    by_cases hz : 0 ≤ z
    · have hz3 : ¬ z < -1 := by omega
      refine wp_region_order (fun _ : World => True) [0, 1, 2, 3, 4, 5, 6, 7, 8, 9, 10, 11, 12, 13, 14, 15, 16, 17, 18, 19, 20, 21, 22] [0, 1, 2, 3, 4, 5, 6, 7, 8, 9, 10, 11, 12, 13, 14, 15, 16, 17, 18, 19, 20, 21, 22] (by kernel_rfl) (by kernel_rfl) (fun d _ _ _ _ h => by cases d <;> exact h) (by kernel_rfl) ?_
      have hS : (fun _ : World => True) (w.alloc (.cells #[] 38)).drew := trivial
      iterate 3 (apply ord_held rfl rfl (by assumption) rfl; (focus ((intro w' hS'); go_simp; (try with_reducible rfl))); (try simp only [Act.put, List.setIfInBounds_toArray, List.set_cons_zero, List.set_cons_succ]))
      iterate 5 (first | (apply ord_guard rfl rfl (by assumption) rfl; (focus ((intro w' hS'); go_simp; (try with_reducible rfl))); (try simp only [Act.put, List.setIfInBounds_toArray, List.set_cons_zero, List.set_cons_succ])) | (apply ord_pass rfl rfl (by assumption) rfl; (try simp only [Act.put, List.setIfInBounds_toArray, List.set_cons_zero, List.set_cons_succ])))
      try simp only [hw1, hz3, decide_false]
      iterate 2 (apply ord_held rfl rfl (by assumption) rfl; (focus ((intro w' hS'); go_simp; (try with_reducible rfl))); (try simp only [Act.put, List.setIfInBounds_toArray, List.set_cons_zero, List.set_cons_succ]))
      iterate 12 (first | (apply ord_guard rfl rfl (by assumption) rfl; (focus ((intro w' hS'); go_simp; (try with_reducible rfl))); (try simp only [Act.put, List.setIfInBounds_toArray, List.set_cons_zero, List.set_cons_succ])) | (apply ord_pass rfl rfl (by assumption) rfl; (try simp only [Act.put, List.setIfInBounds_toArray, List.set_cons_zero, List.set_cons_succ])))
      (apply ord_held rfl rfl (by assumption) rfl; (focus ((intro w' hS'); go_simp; (try with_reducible rfl))); (try simp only [Act.put, List.setIfInBounds_toArray, List.set_cons_zero, List.set_cons_succ]))
      refine ord_end ?_
      clear hS
      go_wp2_with fail
      go_ret
      exact ⟨_, _, rfl, [], .inl rfl, hfin, ext_drew (ext_alloc (ext_refl _) _)⟩
    · skip
      refine wp_region_order (fun _ : World => True) [0, 1, 2, 3, 4, 5, 6, 7, 8, 9, 10, 11, 12, 13, 14, 15, 16, 17, 18, 19, 20, 21, 22] [0, 1, 2, 3, 4, 5, 6, 7, 8, 9, 10, 11, 12, 13, 14, 15, 16, 17, 18, 19, 20, 21, 22] (by kernel_rfl) (by kernel_rfl) (fun d _ _ _ _ h => by cases d <;> exact h) (by kernel_rfl) ?_
      have hS : (fun _ : World => True) (w.alloc (.cells #[] 38)).drew := trivial
      iterate 3 (apply ord_held rfl rfl (by assumption) rfl; (focus ((intro w' hS'); go_simp; (try with_reducible rfl))); (try simp only [Act.put, List.setIfInBounds_toArray, List.set_cons_zero, List.set_cons_succ]))
      iterate 5 (first | (apply ord_guard rfl rfl (by assumption) rfl; (focus ((intro w' hS'); go_simp; (try with_reducible rfl))); (try simp only [Act.put, List.setIfInBounds_toArray, List.set_cons_zero, List.set_cons_succ])) | (apply ord_pass rfl rfl (by assumption) rfl; (try simp only [Act.put, List.setIfInBounds_toArray, List.set_cons_zero, List.set_cons_succ])))
      iterate 2 (apply ord_held rfl rfl (by assumption) rfl; (focus ((intro w' hS'); go_simp; (try with_reducible rfl))); (try simp only [Act.put, List.setIfInBounds_toArray, List.set_cons_zero, List.set_cons_succ]))
      iterate 12 (first | (apply ord_guard rfl rfl (by assumption) rfl; (focus ((intro w' hS'); go_simp; (try with_reducible rfl))); (try simp only [Act.put, List.setIfInBounds_toArray, List.set_cons_zero, List.set_cons_succ])) | (apply ord_pass rfl rfl (by assumption) rfl; (try simp only [Act.put, List.setIfInBounds_toArray, List.set_cons_zero, List.set_cons_succ])))
      (apply ord_held rfl rfl (by assumption) rfl; (focus ((intro w' hS'); go_simp; (try with_reducible rfl))); (try simp only [Act.put, List.setIfInBounds_toArray, List.set_cons_zero, List.set_cons_succ]))
      refine ord_end ?_
      clear hS
      go_wp2_with fail
      go_ret
      exact ⟨_, _, rfl, [], .inl rfl, hfin, ext_drew (ext_alloc (ext_refl _) _)⟩
  · obtain ⟨p0, hp0⟩ := some_of_lt hlen (show 0 < n by omega)
    obtain ⟨b, off, -, rfl, -⟩ := h.2.2.2 0 p0 hp0
    obtain ⟨es, hel, hPk, hcs⟩ := pairs_els h
    have hx0 : Ext w (w.alloc (.cells #[] 38)) := ext_alloc (ext_refl _) _
    have HCS := Lib.hid (show ∀ i f, es[i]? = some f → Cells7 (w.alloc (.cells #[] 38)) b (off + i * 7) f.1 f.2 from fun i f hf => Cells7.ext hx0 (hcs i f hf))
    have HP := Lib.hid hPk
    clear h hp0 hcs hPk
    go_enter Tryd.func7, Tryd.ntmps7
    go_upto_region 2 with (first
      | (at_builtin; refine list_append_setsN _ rfl _ _ rfl w.heap.size (.slice (some ⟨w.heap.size, 0, none⟩) 0 0) [] rfl hO b off n c es hel (by omega) rfl HCS.out (by simp; omega) (by simp) ?_; intro g cap w1 hown hgrow hlies hglt)
      | fail)
    simp only [List.length_nil, Nat.zero_add, List.nil_append] at hown ⊢
    have hx1 : Ext w w1 := ext_grown hx0 hgrow (fun k hk => by simp only [Value.ownBlock, Option.some.injEq] at hk; subst hk; exact Nat.le_refl _)
    clear hgrow hlies hO HCS
    obtain ⟨hfl, hown⟩ := hown
    rcases hown with ⟨e, -⟩ | ⟨g', cap', cur, e, hbg, hBox, hnc, hcm, hcsz, htk⟩
    · cases e
    · obtain ⟨rfl, rfl⟩ : g = g' ∧ cap = cap' := by
        injection e with e1 e2 e3
        injection e1 with e1
        injection e1 with e1
        exact ⟨e1, e3⟩
      have hBox : Box w1 g cur 38 := hBox
      try rw [hel] at hnc
      try rw [hel] at htk
      have hcell : ∀ i f, es[i]? = some f → ∀ j v, (cells7 f)[j]? = some v → cur[i * 7 + j]? = some v := fun i f hf j v hv => by
        have h1 := flat7_get es i f hf j v hv
        rw [← htk, List.getElem?_take] at h1
        split at h1
        · simpa using h1
        · cases h1
      have HCE := Lib.hid hcell
      have hxd : Ext w w1.drew := ext_drew hx1
      have hfin : PairsAt (fun _ => True) w1.drew (some ⟨g, 0, none⟩) n cap ps := cells_pairs hBox.drew hcell hel hnc hcm ((HP.out.keep (S' := fun _ => True) (fun _ _ _ => trivial) (fun _ _ _ => rfl)).ext hxd)
      have hw1 : IntKind.i64.wrap ((n : Int) - 1) = (n : Int) - 1 := IntWalk.i64_in _ ⟨by omega, by omega⟩
      clear hcell htk hfl
      by_cases hz : 0 ≤ z
      · by_cases hzn : z < (n : Int) - 1
        · obtain ⟨k, rfl⟩ : ∃ k : Nat, z = (k : Int) := ⟨z.toNat, by omega⟩
          have hk : k + 1 < n := by omega
          obtain ⟨e1, he1⟩ := some_of_lt hel (show k < n by omega)
          obtain ⟨e2, he2⟩ := some_of_lt hel hk
          obtain ⟨p, hp⟩ := some_of_lt hlen (show k < n by omega)
          obtain ⟨q, hq⟩ := some_of_lt hlen hk
          have hn1 := (HP.out.2 k e1 p he1 hp).1
          have hn2 := (HP.out.2 (k + 1) e2 q he2 hq).1
          have hc1 : ∀ j v, (cells7 e1)[j]? = some v → w1.cell? ⟨g, k * 7 + j, none⟩ = some v := fun j v hv => hBox.cell _ _ (HCE.out k e1 he1 j v hv)
          have hc2 : ∀ j v, (cells7 e2)[j]? = some v → w1.cell? ⟨g, (k + 1) * 7 + j, none⟩ = some v := fun j v hv => hBox.cell _ _ (HCE.out (k + 1) e2 he2 j v hv)
          obtain ⟨x1, ⟨k1, s1, d1, y1, ka1, m1, kc1, ca1, l1, cc1⟩⟩ := e1
          obtain ⟨x2, ⟨k2, s2, d2, y2, ka2, m2, kc2, ca2, l2, cc2⟩⟩ := e2
          simp only at hn1 hn2
          subst hn1 hn2
          have HE1 := Lib.hid he1
          have HE2 := Lib.hid he2
          have HPP := Lib.hid hp
          have HQQ := Lib.hid hq
          clear he1 he2 hp hq
          have hw2 : IntKind.i64.wrap ((k : Int) + 1) = (k : Int) + 1 := IntWalk.i64_in _ ⟨by omega, by omega⟩
          have hk1 : ((k : Int) + 1).toNat = k + 1 := by omega
          have hk2 : (0 : Int) ≤ (k : Int) + 1 := by omega
          have hk3 : (k : Int) + 1 < (n : Int) := by omega
          have hk4 : k < n := by omega
          have a0 : w1.cell? ⟨g, k * 7, none⟩ = some (.string p.1) := hc1 0 _ rfl
          have a1 := hc1 1 _ rfl
          have a2 := hc1 2 _ rfl
          have a3 := hc1 3 _ rfl
          have a4 := hc1 4 _ rfl
          have a5 := hc1 5 _ rfl
          have a6 := hc1 6 _ rfl
          have b0 : w1.cell? ⟨g, (k + 1) * 7, none⟩ = some (.string q.1) := hc2 0 _ rfl
          have b1 := hc2 1 _ rfl
          have b2 := hc2 2 _ rfl
          have b3 := hc2 3 _ rfl
          have b4 := hc2 4 _ rfl
          have b5 := hc2 5 _ rfl
          have b6 := hc2 6 _ rfl
          clear hc1 hc2
          cases hse : p.1.toList == q.1.toList
          · skip
            refine wp_region_order (fun w' => w'.cell? ⟨g, k * 7, none⟩ = some (.string p.1) ∧ w'.cell? ⟨g, (k + 1) * 7, none⟩ = some (.string q.1)) [0, 1, 2, 3, 4, 5, 6, 7, 8, 9, 10, 11, 12, 13, 14, 15, 16, 17, 18, 19, 20, 21, 22] [0, 1, 2, 3, 4, 5, 6, 7, 8, 9, 10, 11, 12, 13, 14, 15, 16, 17, 18, 19, 20, 21, 22] (by kernel_rfl) (by kernel_rfl) (fun d _ _ _ _ h => by cases d <;> exact h) (by kernel_rfl) ?_
            have hS : (fun w' => w'.cell? ⟨g, k * 7, none⟩ = some (.string p.1) ∧ w'.cell? ⟨g, (k + 1) * 7, none⟩ = some (.string q.1)) w1.drew := ⟨a0, b0⟩
            iterate 3 (apply ord_held rfl rfl (by assumption) rfl; (focus ((intro w' hS'); go_simp; (try with_reducible rfl))); (try simp only [Act.put, List.setIfInBounds_toArray, List.set_cons_zero, List.set_cons_succ]))
            iterate 5 (first | (apply ord_guard rfl rfl (by assumption) rfl; (focus ((intro w' hS'); go_simp; (try with_reducible rfl))); (try simp only [Act.put, List.setIfInBounds_toArray, List.set_cons_zero, List.set_cons_succ])) | (apply ord_pass rfl rfl (by assumption) rfl; (try simp only [Act.put, List.setIfInBounds_toArray, List.set_cons_zero, List.set_cons_succ])))
            try simp only [hw1, hzn, decide_true]
            iterate 2 (apply ord_held rfl rfl (by assumption) rfl; (focus ((intro w' hS'); go_simp; (try with_reducible rfl))); (try simp only [Act.put, List.setIfInBounds_toArray, List.set_cons_zero, List.set_cons_succ]))
            iterate 12 (first | (apply ord_guard rfl rfl (by assumption) rfl; (focus ((intro w' hS'); go_simp; (try with_reducible rfl))); (try simp only [Act.put, List.setIfInBounds_toArray, List.set_cons_zero, List.set_cons_succ])) | (apply ord_pass rfl rfl (by assumption) rfl; (try simp only [Act.put, List.setIfInBounds_toArray, List.set_cons_zero, List.set_cons_succ])))
            (apply ord_held rfl rfl (by assumption) rfl; (focus ((intro w' hS'); go_simp; (try with_reducible rfl))); (try simp only [Act.put, List.setIfInBounds_toArray, List.set_cons_zero, List.set_cons_succ]))
            refine ord_end ?_
            clear hS
            have hgw : g < w1.heap.size := hBox.lt
            have hgne : g ≠ w1.heap.size := by omega
            have f0 := hBox.free (k * 7)
            have f7 := hBox.free ((k + 1) * 7)
            have f1 := hBox.free (k * 7 + 1)
            have f8 := hBox.free ((k + 1) * 7 + 1)
            have f2 := hBox.free (k * 7 + 2)
            have f9 := hBox.free ((k + 1) * 7 + 2)
            have f3 := hBox.free (k * 7 + 3)
            have f10 := hBox.free ((k + 1) * 7 + 3)
            have f4 := hBox.free (k * 7 + 4)
            have f11 := hBox.free ((k + 1) * 7 + 4)
            have f5 := hBox.free (k * 7 + 5)
            have f12 := hBox.free ((k + 1) * 7 + 5)
            have f6 := hBox.free (k * 7 + 6)
            have f13 := hBox.free ((k + 1) * 7 + 6)
            go_upto_region 5 with fail
            have hB3 : Box ((w7 w1 g (k * 7) (q.1, (⟨k2, s2, d2, y2, ka2, m2, kc2, ca2, l2, cc2⟩ : El))).alloc (.cells #[.string p.1, .int .i64 k1, .string s1, .float .f64 d1, .bool y1, .slice ka1 m1 kc1, .slice ca1 l1 cc1] 38)).drew g (set7 cur (k * 7) (q.1, (⟨k2, s2, d2, y2, ka2, m2, kc2, ca2, l2, cc2⟩ : El))) 38 := ((hBox.w7 (k * 7) (q.1, (⟨k2, s2, d2, y2, ka2, m2, kc2, ca2, l2, cc2⟩ : El))).alloc _).drew
            have hBM : Box ((w7 w1 g (k * 7) (q.1, (⟨k2, s2, d2, y2, ka2, m2, kc2, ca2, l2, cc2⟩ : El))).alloc (.cells #[.string p.1, .int .i64 k1, .string s1, .float .f64 d1, .bool y1, .slice ka1 m1 kc1, .slice ca1 l1 cc1] 38)).drew w1.heap.size #[.string p.1, .int .i64 k1, .string s1, .float .f64 d1, .bool y1, .slice ka1 m1 kc1, .slice ca1 l1 cc1] 38 := (Box.at (by simp) _ _).drew
            have hB5 : Box ((w7 (w7 w1 g (k * 7) (q.1, (⟨k2, s2, d2, y2, ka2, m2, kc2, ca2, l2, cc2⟩ : El))) g ((k + 1) * 7) (p.1, (⟨k1, s1, d1, y1, ka1, m1, kc1, ca1, l1, cc1⟩ : El))).alloc (.cells #[.string p.1, .int .i64 k1, .string s1, .float .f64 d1, .bool y1, .slice ka1 m1 kc1, .slice ca1 l1 cc1] 38)).drew g (set7 (set7 cur (k * 7) (q.1, (⟨k2, s2, d2, y2, ka2, m2, kc2, ca2, l2, cc2⟩ : El))) ((k + 1) * 7) (p.1, (⟨k1, s1, d1, y1, ka1, m1, kc1, ca1, l1, cc1⟩ : El))) 38 := (((hBox.w7 (k * 7) (q.1, (⟨k2, s2, d2, y2, ka2, m2, kc2, ca2, l2, cc2⟩ : El))).w7 ((k + 1) * 7) (p.1, (⟨k1, s1, d1, y1, ka1, m1, kc1, ca1, l1, cc1⟩ : El))).alloc _).drew
            have hx5 : Ext w ((w7 (w7 w1 g (k * 7) (q.1, (⟨k2, s2, d2, y2, ka2, m2, kc2, ca2, l2, cc2⟩ : El))) g ((k + 1) * 7) (p.1, (⟨k1, s1, d1, y1, ka1, m1, kc1, ca1, l1, cc1⟩ : El))).alloc (.cells #[.string p.1, .int .i64 k1, .string s1, .float .f64 d1, .bool y1, .slice ka1 m1 kc1, .slice ca1 l1 cc1] 38)).drew := ext_drew (ext_alloc (ext_set7 (ext_set7 hx1 hbg _ _ _ _ _ _ _ _) hbg _ _ _ _ _ _ _ _) _)
            have hPk5 := (((HP.out.keep (S' := fun _ => True) (fun _ _ _ => trivial) (fun _ _ _ => rfl)).ext hx5).swap HE1.out HE2.out HPP.out HQQ.out)
            have hfin5 := Lib.hid (cells_pairs hB5 (swap_cells (by omega) (by omega) HCE.out) (by simp [hel]) hnc hcm hPk5)
            clear hPk5 hfin
            have m0 := hBM.cell 0 _ rfl
            have m1' := hBM.cell 1 _ rfl
            have m2' := hBM.cell 2 _ rfl
            have m3 := hBM.cell 3 _ rfl
            have m4 := hBM.cell 4 _ rfl
            have m5 := hBM.cell 5 _ rfl
            have m6 := hBM.cell 6 _ rfl
            have t0 := hB3.free ((k + 1) * 7)
            have t1 := hB3.free ((k + 1) * 7 + 1)
            have t2 := hB3.free ((k + 1) * 7 + 2)
            have t3 := hB3.free ((k + 1) * 7 + 3)
            have t4 := hB3.free ((k + 1) * 7 + 4)
            have t5 := hB3.free ((k + 1) * 7 + 5)
            have t6 := hB3.free ((k + 1) * 7 + 6)
            go_wp2_with fail
            go_ret
            exact ⟨_, _, rfl, _, .inr ⟨k, p, q, HPP.out, HQQ.out, hse, rfl⟩, hfin5.out, hx5⟩
          · skip
            refine wp_region_order (fun w' => w'.cell? ⟨g, k * 7, none⟩ = some (.string p.1) ∧ w'.cell? ⟨g, (k + 1) * 7, none⟩ = some (.string q.1)) [0, 1, 2, 3, 4, 5, 6, 7, 8, 9, 10, 11, 12, 13, 14, 15, 16, 17, 18, 19, 20, 21, 22] [0, 1, 2, 3, 4, 5, 6, 7, 8, 9, 10, 11, 12, 13, 14, 15, 16, 17, 18, 19, 20, 21, 22] (by kernel_rfl) (by kernel_rfl) (fun d _ _ _ _ h => by cases d <;> exact h) (by kernel_rfl) ?_
            have hS : (fun w' => w'.cell? ⟨g, k * 7, none⟩ = some (.string p.1) ∧ w'.cell? ⟨g, (k + 1) * 7, none⟩ = some (.string q.1)) w1.drew := ⟨a0, b0⟩
            iterate 3 (apply ord_held rfl rfl (by assumption) rfl; (focus ((intro w' hS'); go_simp; (try with_reducible rfl))); (try simp only [Act.put, List.setIfInBounds_toArray, List.set_cons_zero, List.set_cons_succ]))
            iterate 5 (first | (apply ord_guard rfl rfl (by assumption) rfl; (focus ((intro w' hS'); go_simp; (try with_reducible rfl))); (try simp only [Act.put, List.setIfInBounds_toArray, List.set_cons_zero, List.set_cons_succ])) | (apply ord_pass rfl rfl (by assumption) rfl; (try simp only [Act.put, List.setIfInBounds_toArray, List.set_cons_zero, List.set_cons_succ])))
            try simp only [hw1, hzn, decide_true]
            iterate 2 (apply ord_held rfl rfl (by assumption) rfl; (focus ((intro w' hS'); go_simp; (try with_reducible rfl))); (try simp only [Act.put, List.setIfInBounds_toArray, List.set_cons_zero, List.set_cons_succ]))
            iterate 12 (first | (apply ord_guard rfl rfl (by assumption) rfl; (focus ((intro w' hS'); go_simp; (try with_reducible rfl))); (try simp only [Act.put, List.setIfInBounds_toArray, List.set_cons_zero, List.set_cons_succ])) | (apply ord_pass rfl rfl (by assumption) rfl; (try simp only [Act.put, List.setIfInBounds_toArray, List.set_cons_zero, List.set_cons_succ])))
            (apply ord_held rfl rfl (by assumption) rfl; (focus ((intro w' hS'); go_simp; (try with_reducible rfl))); (try simp only [Act.put, List.setIfInBounds_toArray, List.set_cons_zero, List.set_cons_succ]))
            refine ord_end ?_
            clear hS
            go_wp2_with fail
            go_ret
            exact ⟨_, _, rfl, ps, .inl rfl, hfin, hxd⟩
        · skip
          refine wp_region_order (fun _ : World => True) [0, 1, 2, 3, 4, 5, 6, 7, 8, 9, 10, 11, 12, 13, 14, 15, 16, 17, 18, 19, 20, 21, 22] [0, 1, 2, 3, 4, 5, 6, 7, 8, 9, 10, 11, 12, 13, 14, 15, 16, 17, 18, 19, 20, 21, 22] (by kernel_rfl) (by kernel_rfl) (fun d _ _ _ _ h => by cases d <;> exact h) (by kernel_rfl) ?_
          have hS : (fun _ : World => True) w1.drew := trivial
          iterate 3 (apply ord_held rfl rfl (by assumption) rfl; (focus ((intro w' hS'); go_simp; (try with_reducible rfl))); (try simp only [Act.put, List.setIfInBounds_toArray, List.set_cons_zero, List.set_cons_succ]))
          iterate 5 (first | (apply ord_guard rfl rfl (by assumption) rfl; (focus ((intro w' hS'); go_simp; (try with_reducible rfl))); (try simp only [Act.put, List.setIfInBounds_toArray, List.set_cons_zero, List.set_cons_succ])) | (apply ord_pass rfl rfl (by assumption) rfl; (try simp only [Act.put, List.setIfInBounds_toArray, List.set_cons_zero, List.set_cons_succ])))
          try simp only [hw1, hzn, decide_false]
          iterate 2 (apply ord_held rfl rfl (by assumption) rfl; (focus ((intro w' hS'); go_simp; (try with_reducible rfl))); (try simp only [Act.put, List.setIfInBounds_toArray, List.set_cons_zero, List.set_cons_succ]))
          iterate 12 (first | (apply ord_guard rfl rfl (by assumption) rfl; (focus ((intro w' hS'); go_simp; (try with_reducible rfl))); (try simp only [Act.put, List.setIfInBounds_toArray, List.set_cons_zero, List.set_cons_succ])) | (apply ord_pass rfl rfl (by assumption) rfl; (try simp only [Act.put, List.setIfInBounds_toArray, List.set_cons_zero, List.set_cons_succ])))
          (apply ord_held rfl rfl (by assumption) rfl; (focus ((intro w' hS'); go_simp; (try with_reducible rfl))); (try simp only [Act.put, List.setIfInBounds_toArray, List.set_cons_zero, List.set_cons_succ]))
          refine ord_end ?_
          clear hS
          go_wp2_with fail
          go_ret
          exact ⟨_, _, rfl, ps, .inl rfl, hfin, hxd⟩
      · skip
        refine wp_region_order (fun _ : World => True) [0, 1, 2, 3, 4, 5, 6, 7, 8, 9, 10, 11, 12, 13, 14, 15, 16, 17, 18, 19, 20, 21, 22] [0, 1, 2, 3, 4, 5, 6, 7, 8, 9, 10, 11, 12, 13, 14, 15, 16, 17, 18, 19, 20, 21, 22] (by kernel_rfl) (by kernel_rfl) (fun d _ _ _ _ h => by cases d <;> exact h) (by kernel_rfl) ?_
        have hS : (fun _ : World => True) w1.drew := trivial
        iterate 3 (apply ord_held rfl rfl (by assumption) rfl; (focus ((intro w' hS'); go_simp; (try with_reducible rfl))); (try simp only [Act.put, List.setIfInBounds_toArray, List.set_cons_zero, List.set_cons_succ]))
        iterate 5 (first | (apply ord_guard rfl rfl (by assumption) rfl; (focus ((intro w' hS'); go_simp; (try with_reducible rfl))); (try simp only [Act.put, List.setIfInBounds_toArray, List.set_cons_zero, List.set_cons_succ])) | (apply ord_pass rfl rfl (by assumption) rfl; (try simp only [Act.put, List.setIfInBounds_toArray, List.set_cons_zero, List.set_cons_succ])))
        iterate 2 (apply ord_held rfl rfl (by assumption) rfl; (focus ((intro w' hS'); go_simp; (try with_reducible rfl))); (try simp only [Act.put, List.setIfInBounds_toArray, List.set_cons_zero, List.set_cons_succ]))
        iterate 12 (first | (apply ord_guard rfl rfl (by assumption) rfl; (focus ((intro w' hS'); go_simp; (try with_reducible rfl))); (try simp only [Act.put, List.setIfInBounds_toArray, List.set_cons_zero, List.set_cons_succ])) | (apply ord_pass rfl rfl (by assumption) rfl; (try simp only [Act.put, List.setIfInBounds_toArray, List.set_cons_zero, List.set_cons_succ])))
        (apply ord_held rfl rfl (by assumption) rfl; (focus ((intro w' hS'); go_simp; (try with_reducible rfl))); (try simp only [Act.put, List.setIfInBounds_toArray, List.set_cons_zero, List.set_cons_succ]))
        refine ord_end ?_
        clear hS
        go_wp2_with fail
        go_ret
        exact ⟨_, _, rfl, ps, .inl rfl, hfin, hxd⟩
end Go.Proofs.YtfngaoicoecncaaDoor

namespace Go.Proofs.YtfngaoicoecncaaDoor
open Go.RowKit

def Selfs (l : List (ByteArray × T)) : Prop := ∀ p ∈ l, sameT p.2 p.2 = true
theorem Selfs.same {l : List (ByteArray × T)} (h : Selfs l) : SameL l l := fun x => by
  cases hl : lastOf l x with
  | none => trivial
  | some t => exact h (x, t) (lastOf_mem hl)
theorem Selfs.append {a b : List (ByteArray × T)} (h : Selfs a) (k : Selfs b) : Selfs (a ++ b) := fun p hp => (List.mem_append.1 hp).elim (h p) (k p)
theorem Selfs.nil : Selfs [] := fun p hp => by simp at hp
theorem Selfs.one {k : ByteArray} {t : T} (h : sameT t t = true) : Selfs [(k, t)] := fun p hp => by simp at hp; subst hp; exact h
theorem order_eq {a x : Nat} (h : orderB2 a x = true) : orderB2 a a = true := by
  simp only [orderB2, beq_iff_eq] at h ⊢
  unfold Ieee.Format.order at h ⊢
  cases hr : FloatKind.f64.format.read a with
  | nan s f => rw [hr] at h; simp [Ieee.Datum.order] at h
  | infinity s => cases s <;> simp [Ieee.Datum.order]
  | number s m i =>
    simp only [Ieee.Datum.order]
    exact congrArg some (Int.compare_eq_eq.2 rfl)
theorem num_self {t : T} (h1 : t.kind = 2) (h2 : scalarT t = true) : sameT (numT t.num) (numT t.num) = true := by
  have h3 := same_num h1 h2
  obtain ⟨k, x, d, y, ks, xs⟩ := t
  simp only [T.kind] at h1
  subst h1
  simp only [numT, sameT, T.num] at h3 ⊢
  have h4 : orderB2 d d = true := by simp_all
  simp [h4]
theorem jT_self (k : ByteArray) (o : Option T) : Selfs (jTree (jT k o)) := fun p hp => by
  unfold jT at hp
  split at hp
  · simp at hp
  · simp at hp; subst hp; exact sameT_self _ (okT_text _)
theorem jY_self (k : ByteArray) (o : Option T) : Selfs (jTree (jY k o)) := fun p hp => by
  cases o with
  | none => simp [jY] at hp
  | some t => simp [jY] at hp; subst hp; exact sameT_self _ (okT_yes _)
theorem jN_self {rs : List (ByteArray × ByteArray)} {ps : List (ByteArray × T)} (hF : FitsP rs ps) {k : ByteArray} (hk : kindL rs k = ⟨#[110]⟩) : Selfs (jTree (jN k (lastOf ps k))) := fun p hp => by
  cases ho : lastOf ps k with
  | none => rw [ho] at hp; simp [jN] at hp
  | some t =>
    rw [ho] at hp
    simp [jN] at hp
    subst hp
    have hf := fits_last hF ho
    rw [hk] at hf
    obtain ⟨hs, h | h | h | h | h⟩ := hf
    · exact absurd h.1 (by decide)
    · exact num_self h.2 hs
    · exact absurd h.1 (by decide)
    · exact absurd h.1 (by decide)
    · exact absurd h (by decide)
theorem jOf_self {t : T} (h : scalarT t = true) : sameT (treeJ (jOf t)) (treeJ (jOf t)) = true := by
  unfold jOf
  rcases scalar_kind h with hk | hk | hk
  · rw [if_pos hk]; exact sameT_self _ (okT_text _)
  · rw [if_neg (by omega), if_pos hk]; exact num_self hk h
  · rw [if_neg (by omega), if_neg (by omega)]; exact sameT_self _ (okT_yes _)
theorem jV_self {rs : List (ByteArray × ByteArray)} {ps : List (ByteArray × T)} (hF : FitsP rs ps) (k : ByteArray) : Selfs (jTree (jV k (lastOf ps k))) := fun p hp => by
  cases ho : lastOf ps k with
  | none => rw [ho] at hp; simp [jV] at hp
  | some t => rw [ho] at hp; simp [jV] at hp; subst hp; exact jOf_self (fits_last hF ho).1
theorem jW_self {rs : List (ByteArray × ByteArray)} {ps : List (ByteArray × T)} (hF : FitsP rs ps) {k : ByteArray} (hk : kindL rs k = ⟨#[119]⟩) : Selfs (jTree (jW k (lastOf ps k))) := fun p hp => by
  cases ho : lastOf ps k with
  | none => rw [ho] at hp; simp [jW] at hp
  | some t =>
    rw [ho] at hp
    have hf := fits_last hF ho
    rw [hk] at hf
    obtain ⟨hs, h | h | h | h | h⟩ := hf
    · exact absurd h.1 (by decide)
    · exact absurd h.1 (by decide)
    · obtain ⟨-, h2, z, hz, hq⟩ := h
      rw [jW_some hz] at hp
      simp at hp
      subst hp
      have := order_eq hq
      simp [treeJ, numT, sameT, this]
    · exact absurd h.1 (by decide)
    · exact absurd h (by decide)
theorem selfs_map {l : List (ByteArray × T)} (h : Selfs l) : sameT (mapT l) (mapT l) = true := sameT_map h.same
theorem short_self {v : J} {fix opts : List (ByteArray × J)} (hv : sameT (treeJ v) (treeJ v) = true) (hf : Selfs (jTree fix)) (ho : Selfs (jTree opts)) : sameT (treeJ (jShort v fix opts)) (treeJ (jShort v fix opts)) = true := by
  unfold jShort
  split
  · exact hv
  · rw [treeJ_jMap, List.map_append]
    exact selfs_map (hf.append ho)
/-- The same settings from the last one to the first one fit, too. -/
theorem fits_back {rs : List (ByteArray × ByteArray)} {ps : List (ByteArray × T)} (h : FitsP rs ps) : FitsP rs ps.reverse := fun i p hp => by
  obtain ⟨j, hj⟩ := List.getElem?_of_mem (List.mem_reverse.1 (List.mem_of_getElem? hp))
  exact h j p hj
end Go.Proofs.YtfngaoicoecncaaDoor

namespace Go.Proofs.YtfngaoicoecncaaDoor
open Go.RowKit

mutual
theorem full_self : ∀ t : T, FullT t → sameT (treeJ (jFull t)) (treeJ (jFull t)) = true
  | .mk k x d y keys kids, h => by
    rw [FullT] at h
    rcases h with h | ⟨⟨rfl, rfl⟩ | ⟨rfl, hl, hr⟩, -, -, hk⟩
    · rw [jFull_scalar (scalar_kind h)]
      exact jOf_self h
    · have hj : jFull (.mk 4 x d y [] kids) = .list (jFulls kids) := by simp [jFull]
      have hs := fulls_self kids hk
      rw [hj]
      simp [treeJ, listT, sameT, hs, seqs]
    · have hj : jFull (.mk 5 x d y keys kids) = .map keys (jFulls kids) := by simp [jFull]
      have hs := fulls_self kids hk
      have hlen : (treesJ (jFulls kids)).length = kids.length := by rw [treesJ_len, jFulls_eq, List.length_map]
      rw [hj, treeJ, mapT_zip (by rw [hlen]; exact hl) hr]
      simp [sameT, hs, seqs_self]
theorem fulls_self : ∀ l : List T, FullTs l → samesT (treesJ (jFulls l)) (treesJ (jFulls l)) = true
  | [], _ => by simp [jFulls, treesJ, samesT]
  | t :: r, h => by
    rw [FullTs] at h
    rw [jFulls, treesJ, samesT, full_self t h.1, fulls_self r h.2]
    rfl
end
theorem jQ_self (k : ByteArray) {l : List T} (h : ∀ t ∈ l, FullT t) : Selfs (jTree (jQ k (l.map jFull))) := by
  match l, h with
  | [], _ => exact Selfs.nil
  | [t], h => exact Selfs.one (full_self t (h t (by simp)))
  | t :: u :: r, h =>
    refine Selfs.one ?_
    have h1 : samesT (treesJ (jFull t :: jFulls (u :: r))) (treesJ (jFull t :: jFulls (u :: r))) = true := by
      have h0 := fulls_self (t :: u :: r) (fullTs_of h)
      rw [jFulls] at h0
      exact h0
    rw [← jFulls_eq]
    simp only [treeJ, listT, sameT]
    simp [h1, seqs]
/-- A name with its trees behind it. -/
theorem exch_parts {ps qs : List (ByteArray × T)} (h : Exch ps qs) : qs = ps ∨ ∃ pre p q post, ps = pre ++ p :: q :: post ∧ qs = pre ++ q :: p :: post ∧ seq p.1 q.1 = false := by
  rcases h with h | ⟨k, p, q, h1, h2, h3, rfl⟩
  · exact .inl h
  · obtain ⟨pre, post, e1, e2⟩ := exch_split k ps h1 h2
    exact .inr ⟨pre, p, q, post, e1, e2, h3⟩
theorem not_both {a b k : ByteArray} (h : seq a b = false) (h1 : seq a k = true) (h2 : seq b k = true) : False := by
  rw [seq_iff.1 h1, seq_iff.1 h2, seq_self] at h
  cases h
theorem exch_last {ps qs : List (ByteArray × T)} (h : Exch ps qs) (k : ByteArray) : lastOf qs k = lastOf ps k := by
  rcases exch_parts h with rfl | ⟨pre, p, q, post, rfl, rfl, h3⟩
  · rfl
  · simp only [lastOf_append, lastOf_cons]
    cases h1 : seq p.1 k <;> cases h2 : seq q.1 k <;> first
      | exact (not_both h3 h1 h2).elim
      | simp
theorem exch_cls {ps qs : List (ByteArray × T)} (h : Exch ps qs) (k : ByteArray) : clsOf qs k = clsOf ps k := by
  rcases exch_parts h with rfl | ⟨pre, p, q, post, rfl, rfl, h3⟩
  · rfl
  · simp only [clsOf, List.flatMap_append, List.flatMap_cons]
    cases h1 : seq p.1 k <;> cases h2 : seq q.1 k <;> first
      | exact (not_both h3 h1 h2).elim
      | simp
theorem exch_all {ps qs : List (ByteArray × T)} (h : Exch ps qs) : clsAll qs = clsAll ps := by
  rcases exch_parts h with rfl | ⟨pre, p, q, post, rfl, rfl, -⟩
  · rfl
  · simp only [clsAll, List.map_append, List.map_cons, List.sum_append, List.sum_cons]
    omega
theorem exch_mem {ps qs : List (ByteArray × T)} (h : Exch ps qs) {x : ByteArray × T} (hx : x ∈ qs) : x ∈ ps := by
  rcases exch_parts h with rfl | ⟨pre, p, q, post, rfl, rfl, -⟩
  · exact hx
  · simp only [List.mem_append, List.mem_cons] at hx ⊢
    rcases hx with h | h | h | h
    · exact .inl h
    · exact .inr (.inr (.inl h))
    · exact .inr (.inl h)
    · exact .inr (.inr (.inr h))
theorem least_step {o : Option T} {p q : ByteArray × T} (h3 : seq p.1 q.1 = false) (hno : ¬ ((seq p.1 s_minimum_should_match = true ∧ seq q.1 s_minimum_number_should_match = true) ∨ (seq q.1 s_minimum_should_match = true ∧ seq p.1 s_minimum_number_should_match = true))) : leastStep (leastStep o q) p = leastStep (leastStep o p) q := by
  unfold leastStep
  cases h1 : seq p.1 s_minimum_should_match <;> cases h2 : seq q.1 s_minimum_should_match <;> cases g1 : seq p.1 s_minimum_number_should_match <;> cases g2 : seq q.1 s_minimum_number_should_match <;> first
    | exact (not_both h3 h1 h2).elim
    | exact (not_both h3 g1 g2).elim
    | exact (hno (.inl ⟨h1, g2⟩)).elim
    | exact (hno (.inr ⟨h2, g1⟩)).elim
    | rfl
theorem last_some {ps : List (ByteArray × T)} {p : ByteArray × T} (h : p ∈ ps) {k : ByteArray} (hk : seq p.1 k = true) : (lastOf ps k).isSome = true := by
  obtain ⟨v, hv⟩ := lastOf_isSome (ps := ps) (k := k) (List.mem_map.2 ⟨p, h, seq_iff.1 hk⟩)
  rw [hv]
  rfl
theorem exch_least {ps qs : List (ByteArray × T)} (h : Exch ps qs) (hno : ((lastOf ps s_minimum_should_match).isSome && (lastOf ps s_minimum_number_should_match).isSome) = false) : leastOf qs = leastOf ps := by
  rcases exch_parts h with rfl | ⟨pre, p, q, post, rfl, rfl, h3⟩
  · rfl
  · unfold leastOf
    simp only [List.foldl_append, List.foldl_cons]
    rw [least_step h3 (fun hh => by
      rcases hh with ⟨a, b⟩ | ⟨a, b⟩
      · rw [last_some (p := p) (by simp) a, last_some (p := q) (by simp) b] at hno
        cases hno
      · rw [last_some (p := q) (by simp) a, last_some (p := p) (by simp) b] at hno
        cases hno)]
theorem exch_boolJ {ps qs : List (ByteArray × T)} (h : Exch ps qs) (hno : ((lastOf ps s_minimum_should_match).isSome && (lastOf ps s_minimum_number_should_match).isSome) = false) : boolJ qs = boolJ ps := by
  unfold boolJ
  simp only [exch_cls h, exch_last h, exch_least h hno]

abbrev sBool : ByteArray := ⟨#[66, 111, 111, 108]⟩
abbrev tBool : ByteArray := ⟨#[109, 117, 115, 116, 32, 113, 44, 109, 117, 115, 116, 95, 110, 111, 116, 32, 113, 44, 115, 104, 111, 117, 108, 100, 32, 113, 44, 102, 105, 108, 116, 101, 114, 32, 113, 44, 97, 100, 106, 117, 115, 116, 95, 112, 117, 114, 101, 95, 110, 101, 103, 97, 116, 105, 118, 101, 32, 98, 44, 98, 111, 111, 115, 116, 32, 110, 44, 109, 105, 110, 105, 109, 117, 109, 95, 115, 104, 111, 117, 108, 100, 95, 109, 97, 116, 99, 104, 32, 116, 44, 109, 105, 110, 105, 109, 117, 109, 95, 110, 117, 109, 98, 101, 114, 95, 115, 104, 111, 117, 108, 100, 95, 109, 97, 116, 99, 104, 32, 119, 44, 95, 110, 97, 109, 101, 32, 116]⟩
abbrev rBool : List (ByteArray × ByteArray) := [(s_must, s_q), (s_must_not, s_q), (s_should, s_q), (s_filter, s_q), (s_adjust_pure_negative, ⟨#[98]⟩), (s_boost, ⟨#[110]⟩), (s_minimum_should_match, ⟨#[116]⟩), (s_minimum_number_should_match, ⟨#[119]⟩), (s_name, ⟨#[116]⟩)]
set_option maxHeartbeats 2000000 in
theorem table_bool (w : World) : Calls Tryd.prog 38 #[.string sBool] w fun r w' => r = .returned (.string tBool) ∧ w' = w := by
  go_enter Tryd.func38, Tryd.ntmps38
  go_wp2
  go_ret
  exact ⟨rfl, rfl⟩
set_option maxRecDepth 20000 in
theorem rows_bool (w : World) : Calls Tryd.prog 30 #[.string sBool] w fun r w' => ∃ v, r = .returned v ∧ Own2 w' w.heap.size v rBool ∧ Ext w w' :=
  rows_any sBool tBool w table_bool 12 (by decide) (by decide)
/-- Settings that came in are small. -/
def SmallSets (ps : List (ByteArray × T)) : Prop := (∀ p ∈ ps, SmallT 1048576 p.2) ∧ clsAll ps ≤ 1048576
theorem fitB_mem {ps : List (ByteArray × T)} (hF : FitsB rBool ps) {p : ByteArray × T} (hp : p ∈ ps) {k : ByteArray} (hk : seq p.1 k = true) : FitB (kindL rBool k) p.2 := by
  obtain ⟨i, hi⟩ := List.getElem?_of_mem hp
  have := hF i p hi
  rwa [seq_iff.1 hk] at this
theorem query_clauses {t : T} (h : QueryP t) (hs : SmallT 1048576 t) : (∀ k ∈ clT t, FullT k) ∧ 0 < (clT t).length := by
  rcases h with ⟨hk, hP⟩ | ⟨hk, hP, hl⟩
  · rw [clT, if_neg (by omega)]
    exact ⟨fun k hkk => by simp at hkk; subst hkk; exact FullT.of (by omega) hP hs, by simp⟩
  · rw [clT, if_pos hk]
    obtain ⟨k, x, d, y, keys, kids⟩ := t
    rw [SmallT] at hs
    exact ⟨fun u hu => FullT.of (N := 1048576) (by omega) (hP u hu).2 ((smallTs_iff _ _).1 hs.2.2.2.2 u hu), hl⟩
theorem clauses_of {ps : List (ByteArray × T)} (hF : FitsB rBool ps) (hS : SmallSets ps) : ClauseP ps := fun p hp k hk hs => by
  have h1 := fitB_mem hF hp hs
  have h2 : kindL rBool k = s_q := by
    simp only [List.mem_cons, List.not_mem_nil, or_false] at hk
    rcases hk with rfl | rfl | rfl | rfl <;> (rw [kindL_dec]; decide)
  rw [h2] at h1
  rcases h1 with ⟨-, h1⟩ | ⟨h1, -⟩
  · exact query_clauses h1 (hS.1 p hp)
  · exact (h1 rfl).elim
theorem least_of {ps : List (ByteArray × T)} (hF : FitsB rBool ps) : LeastP ps := fun p hp hs => by
  have h1 := fitB_mem hF hp hs
  have h2 : kindL rBool s_minimum_number_should_match = ⟨#[119]⟩ := by rw [kindL_dec]; decide
  rw [h2] at h1
  rcases h1 with ⟨h1, -⟩ | ⟨-, -, h | h | h | h | h⟩
  · exact absurd h1 (by decide)
  · exact absurd h.1 (by decide)
  · exact absurd h.1 (by decide)
  · obtain ⟨n, hn, -⟩ := h.2.2
    exact ⟨n, hn⟩
  · exact absurd h.1 (by decide)
  · exact absurd h (by decide)
theorem clsOf_full {ps : List (ByteArray × T)} (hC : ClauseP ps) {k : ByteArray} (hk : k ∈ [s_must, s_must_not, s_filter, s_should]) : ∀ t ∈ clsOf ps k, FullT t := fun t ht => by
  unfold clsOf at ht
  obtain ⟨p, hp, h1⟩ := List.mem_flatMap.1 ht
  split at h1
  · rename_i hs
    exact (hC p hp k hk hs).1 t h1
  · cases h1
theorem boost_self {ps : List (ByteArray × T)} (hF : FitsB rBool ps) : Selfs (jTree (jN s_boost (lastOf ps s_boost))) := fun p hp => by
  cases ho : lastOf ps s_boost with
  | none => rw [ho] at hp; simp [jN] at hp
  | some t =>
    rw [ho] at hp
    simp [jN] at hp
    subst hp
    have h1 := fitB_mem hF (lastOf_mem ho) (k := s_boost) (seq_self _)
    have h2 : kindL rBool s_boost = ⟨#[110]⟩ := by rw [kindL_dec]; decide
    rw [h2] at h1
    rcases h1 with ⟨h1, -⟩ | ⟨-, hs, h | h | h | h | h⟩
    · exact absurd h1 (by decide)
    · exact absurd h.1 (by decide)
    · exact num_self h.2 hs
    · exact absurd h.1 (by decide)
    · exact absurd h.1 (by decide)
    · exact absurd h (by decide)
theorem bool_self {ps : List (ByteArray × T)} (hF : FitsB rBool ps) (hC : ClauseP ps) : sameT (treeJ (jMap [(s_bool, jMap (boolJ ps))])) (treeJ (jMap [(s_bool, jMap (boolJ ps))])) = true := by
  rw [treeJ_jMap]
  refine selfs_map (Selfs.one ?_)
  rw [treeJ_jMap]
  refine selfs_map ?_
  unfold boolJ
  rw [List.map_append, List.map_append, List.map_append, List.map_append, List.map_append, List.map_append, List.map_append]
  exact (((((((jQ_self _ (clsOf_full hC (by simp))).append (jQ_self _ (clsOf_full hC (by simp)))).append (jQ_self _ (clsOf_full hC (by simp)))).append (jQ_self _ (clsOf_full hC (by simp)))).append (boost_self hF)).append (jT_self _ _)).append (jY_self _ _)).append (jT_self _ _)
theorem bool_same {ps qs : List (ByteArray × T)} (hF : FitsB rBool ps) (hC : ClauseP ps) (h : Exch ps qs) (hno : ((lastOf ps s_minimum_should_match).isSome && (lastOf ps s_minimum_number_should_match).isSome) = false) : sameT (treeJ (jMap [(s_bool, jMap (boolJ ps))])) (treeJ (jMap [(s_bool, jMap (boolJ qs))])) = true := by
  rw [exch_boolJ h hno]
  exact bool_self hF hC
theorem exch_clauses {ps qs : List (ByteArray × T)} (h : Exch ps qs) (hC : ClauseP ps) : ClauseP qs := fun p hp => hC p (exch_mem h hp)
theorem exch_leastP {ps qs : List (ByteArray × T)} (h : Exch ps qs) (hC : LeastP ps) : LeastP qs := fun p hp => hC p (exch_mem h hp)
end Go.Proofs.YtfngaoicoecncaaDoor

namespace Go.Proofs.YtfngaoicoecncaaDoor
open Go.RowKit

set_option maxHeartbeats 8000000 in
theorem boolTurned_law {S : Nat → Prop} (a : Option Addr) (n c : Nat) (ps : List (ByteArray × T)) (z : Int) (w : World) (h : PairsAt S w a n c ps) (hTen : TenAt w) (hS : SmallSets ps) : Calls Tryd.prog 3 #[.slice a n c, .int .i64 z] w fun r w' => r = .returned (.bool true) ∧ Ext w w' := by
  have hnl := Nat.le_trans h.2.1 h.2.2.1
  unfold maxLen at hnl
  have hPs := Lib.hid fun w' (x : Ext w w') => (h.keep (S' := fun _ => True) (fun _ _ _ => trivial) (fun _ _ _ => rfl)).ext x
  have hF := Lib.hid fun w' (x : Ext w w') => fitsB_any sBool rBool a n c ps w' rows_bool (by simp [plainK]) (h.ext x)
  have hI := Lib.hid fun name w' (x : Ext w w') => is_any a n c ps name w' (h.ext x)
  have HTen := Lib.hid hTen
  have HS := Lib.hid hS
  clear h hTen hS
  go_enter Tryd.func3, Tryd.ntmps3
  by_cases hsz0 : 2147483647 < n
  · go_wp2_with fail
    all_goals (go_ret; exact ⟨rfl, by (repeat (first | exact ext_refl _ | assumption | refine ext_alloc ?_ _ | refine ext_drew ?_ | refine ext_set ?_ (by simp) _ | refine ext_trans ?_ (by assumption)))⟩)
  · have tok1 := trivial
    go_wp2_with (first
      | (go_at_call 4; refine (hF.out _ (by (repeat (first | exact ext_refl _ | assumption | refine ext_alloc ?_ _ | refine ext_drew ?_ | refine ext_set ?_ (by simp) _ | refine ext_trans ?_ (by assumption))))).mono ?_; rintro r wff ⟨bff, rfl, hff, hxff⟩; have Hff := Lib.hid hff; clear hff; have hxw : Ext w wff := by (repeat (first | exact ext_refl _ | assumption | refine ext_alloc ?_ _ | refine ext_drew ?_ | refine ext_set ?_ (by simp) _ | refine ext_trans ?_ (by assumption)))
         cases bff)
      | (go_at_call 5; have _t := tok1; clear _t tok1; refine (hI.out s_minimum_should_match _ hxw).mono ?_; rintro r wi ⟨rfl, hxi⟩; have hxw := ext_trans hxw hxi; cases hi1 : (lastOf ps s_minimum_should_match).isSome)
      | (go_at_call 5; refine (hI.out s_minimum_number_should_match _ hxw).mono ?_; rintro r wi ⟨rfl, hxi⟩; have hxw := ext_trans hxw hxi; cases hi2 : (lastOf ps s_minimum_number_should_match).isSome)
      | fail)
    all_goals (try (go_ret; exact ⟨rfl, by (repeat (first | exact ext_refl _ | assumption | refine ext_alloc ?_ _ | refine ext_drew ?_ | refine ext_set ?_ (by simp) _ | refine ext_trans ?_ (by assumption)))⟩))
    all_goals
      have hno : ((lastOf ps s_minimum_should_match).isSome && (lastOf ps s_minimum_number_should_match).isSome) = false := by first | (rw [hi1]; rfl) | (rw [hi1, hi2]; rfl)
      have hff := Hff.out (by trivial)
      have hC := clauses_of hff HS.out
      have hL := least_of hff
      have hA := HS.out.2
      refine (bool_any a n c ps _ (HTen.out.ext hxw) hC hL (by omega) (hPs.out _ hxw)).mono ?_
      rintro r w3 ⟨e, rfl, hT, hx3⟩
      simp only [El.val]
      go_upto_region 6 with fail
      have hxa : Ext w (w3.alloc (.cells e.arr 29)) := ext_alloc (ext_trans hxw hx3) _
      have hb3 : Box (w3.alloc (.cells e.arr 29)) w3.heap.size e.arr 29 := Box.at rfl _ _
      have hT3 := Lib.hid (hT.ext (ext_alloc (ext_refl w3) (.cells e.arr 29)))
      clear hT
      generalize w3.alloc (.cells e.arr 29) = w4 at hxa hb3 hT3 ⊢
      generalize w3.heap.size = b3 at hb3 ⊢
      have HCC := Lib.hid hC
      have HLL := Lib.hid hL
      have HNO := Lib.hid hno
      clear hC hL hno
      have tokB := trivial
      go_upto_region 7 with (first
        | (go_at_call 7; have _t := tokB; clear _t tokB; refine (exchanged_any a n c ps z _ (hPs.out _ hxa) (by omega)).mono ?_; rintro r w5 ⟨ba, bc, rfl, qs, hE, hPq, hx5⟩
           have hxb := ext_trans hxa hx5
           have HE := Lib.hid hE
           have hA2 : clsAll qs ≤ 2147483647 := by rw [exch_all hE]; omega
           have HPq := Lib.hid hPq
           clear hE hPq)
        | (go_at_call 6; refine (bool_any ba n bc qs _ (HTen.out.ext hxb) (exch_clauses HE.out HCC.out) (exch_leastP HE.out HLL.out) hA2 HPq.out).mono ?_; rintro r w6 ⟨e2, rfl, hT2, hx6⟩; simp only [El.val])
        | fail)
      have hx7 : Ext w4 (w6.alloc (.cells e2.arr 29)) := ext_alloc (ext_trans hx5 hx6) _
      have hb4 : Box (w6.alloc (.cells e2.arr 29)) w6.heap.size e2.arr 29 := Box.at rfl _ _
      have hb5 := hb3.ext hx7
      obtain ⟨o0, o1, o2, o3, o4, o5⟩ := hb4.six
      obtain ⟨s0, s1, s2, s3, s4, s5⟩ := hb5.six
      have hSm := Lib.hid (same_any (S := fun _ => True) _ _ e e2 _ ((hT3.out.ext hx7).any) ((hT2.ext (ext_alloc (ext_refl w6) _)).any))
      have hfit := bool_same hff HCC.out HE.out HNO.out
      clear hT2
      go_wp2_with (go_at_call 8; refine hSm.out.mono ?_; rintro r w8 ⟨rfl, hx12⟩; rw [hfit])
      go_ret
      exact ⟨rfl, ext_trans (ext_trans hxa hx7) hx12⟩
end Go.Proofs.YtfngaoicoecncaaDoor

namespace Go.Proofs.YtfngaoicoecncaaDoor
open Go.ChangeShapes Go.WideShapes Go.ChangeAt Go.RowKit

theorem bulk_part {H : Type} {d : DataW H} {l : List (DataW H)} (h : d ∈ l) : Rows.uptoBulk d ≤ Rows.uptoBulkAll l := by
  induction l with
  | nil => cases h
  | cons x r ih =>
    simp only [Rows.uptoBulkAll]
    cases List.mem_cons.1 h with
    | inl e => subst e; omega
    | inr e => have := ih e; omega
section
variable {H : Type} {enc : TypeId × Value → H} {w : World} {base : Nat} {spare : Nat → Bool} {held : Bool}
set_option maxRecDepth 20000 in
theorem text_bulk {fuel : Nat} {e : El} {x : DataW H × List MemPlace} (h : DataW.trod enc Tryd.prog w base spare held fuel 29 e.cells = some x) : e.x.size ≤ Rows.uptoBulk x.1 := by
  obtain ⟨xs, n, rfl, rfl, hcl, hxl, hf⟩ := DataW.trod_struct Tryd.underlying29 h
  match xs, hxl with
  | [x0, x1, x2, x3, x4, x5], _ =>
    have f1 : DataW.trod enc Tryd.prog w base spare held n 9 (List.take (Tryd.prog.cellsOf 9) (List.drop 1 e.cells)) = some x1 := hf 1 _ rfl
    rw [cells_string] at f1
    have f1 : DataW.trod enc Tryd.prog w base spare held n 9 [.string e.x] = some x1 := f1
    obtain ⟨s, e1, e2, -⟩ := DataW.trod_string Tryd.underlying9 f1
    simp only [List.cons.injEq, Value.string.injEq, and_true] at e1
    subst e1
    subst e2
    have h1 : Rows.uptoBulk (DataW.lit (H := H) (.string e.x.data.toList)) = e.x.data.toList.length + 1 := by simp [Rows.uptoBulk]
    have h2 := Lib.size_eq e.x
    simp only [Rows.uptoBulk, List.map_cons, List.map_nil, Rows.uptoBulkAll] at h1 ⊢
    omega
set_option maxRecDepth 20000 in
theorem set_bulk {fuel : Nat} {s : ByteArray} {e : El} {x : DataW H × List MemPlace} (h : DataW.trod enc Tryd.prog w base spare held fuel 38 (.string s :: e.cells) = some x) : e.x.size ≤ Rows.uptoBulk x.1 := by
  obtain ⟨xs, n, rfl, rfl, hcl, hxl, hf⟩ := DataW.trod_struct Tryd.underlying38 h
  match xs, hxl with
  | [x0, x1], _ =>
    have f1 : DataW.trod enc Tryd.prog w base spare held n 29 (List.take (Tryd.prog.cellsOf 29) (List.drop 1 (.string s :: e.cells))) = some x1 := hf 1 _ rfl
    rw [cells_tree, List.drop_succ_cons, List.drop_zero, List.take_of_length_le (by simp [El.cells])] at f1
    have := text_bulk f1
    simp only [Rows.uptoBulk, List.map_cons, List.map_nil, Rows.uptoBulkAll]
    omega
theorem sets_bulk {S : Nat → Prop} {fuel : Nat} {a : Option Addr} {n c : Nat} {ps : List (ByteArray × T)} {x : DataW H × List MemPlace} (h : DataW.trod enc Tryd.prog w base spare held fuel 22 [.slice a n c] = some x) (hP : PairsAt S w a n c ps) : ∀ p ∈ ps, p.2.text.size ≤ Rows.uptoBulk x.1 := by
  intro p hp
  obtain ⟨i, hi⟩ := List.getElem?_of_mem hp
  have hlt : i < n := by rw [← hP.1]; exact (List.getElem?_eq_some_iff.1 hi).1
  obtain ⟨b, off, e, rfl, -, hc, hT⟩ := hP.2.2.2 i p hi
  rcases DataW.trod_slice Tryd.underlying22 h with ⟨h0, -⟩ | ⟨a, len, cap, elems, rest, n', -, h0, rfl, -, hl, hm, hlen, hel, -, -⟩
  · simp at h0
  · simp only [List.cons.injEq, Value.slice.injEq, Option.some.injEq, and_true] at h0
    obtain ⟨rfl, rfl, rfl⟩ := h0
    rw [cells_set] at hel
    have h1 := hel i hlt
    obtain ⟨q, hq⟩ := some_of_lt hlen hlt
    rw [hq, Option.bind_eq_some_iff] at h1
    obtain ⟨cs', hc', ht⟩ := h1
    obtain ⟨-, hl7, hat⟩ := World.cells?_some hc'
    obtain ⟨s', e', t', rfl, -⟩ := set_of ht
    have hx : e'.x = e.x := by
      have h2 := hat 2 (by omega)
      rw [Addr.add_add, Addr.add_lit, show off + (i * 7 + 2) = off + i * 7 + 1 + 1 by omega, hc.2.2.1] at h2
      simp [El.cells] at h2
      exact h2.symm
    have h3 := set_bulk ht
    have h4 : p.2.text = e.x := hT.parts.2.1.symm
    rw [h4, ← hx]
    refine Nat.le_trans h3 ?_
    have h5 : q.1 ∈ List.map (fun x => x.fst) elems := List.mem_map.2 ⟨q, List.mem_of_getElem? hq, rfl⟩
    have h6 := bulk_part h5
    simp only [Rows.uptoBulk]
    omega
end
end Go.Proofs.YtfngaoicoecncaaDoor

namespace Go.Proofs.YtfngaoicoecncaaDoor
open Go.ChangeShapes Go.WideShapes Go.ChangeAt Go.RowKit

section
variable {H : Type} {enc : TypeId × Value → H} {w : World} {base : Nat} {spare : Nat → Bool} {held : Bool}
set_option maxRecDepth 20000 in
theorem tree_val {fuel : Nat} {r : Reach} {b0 : Nat} {v : Value} {x : DataW H × List MemPlace} {W : World} (hv : Value.okWide Tryd.prog W r b0 29 v) (h : DataW.trod enc Tryd.prog w base spare held fuel 29 v.cells.toList = some x) :
    ∃ (e : El) (t : T), v = e.val ∧ TreeAt (fun _ => True) w e t := by
  obtain ⟨cs, rfl, -⟩ := okWide_struct Tryd.underlying29 hv
  obtain ⟨e, t, he, hT⟩ := tree_of fuel _ _ h
  refine ⟨e, t, ?_, hT⟩
  have he : cs.toList = e.cells := he
  have : cs = e.cells.toArray := by rw [← he]
  subst this
  rfl
set_option maxRecDepth 20000 in
theorem kids_of {fuel : Nat} {cs : List Value} {x : DataW H × List MemPlace} (h : DataW.trod enc Tryd.prog w base spare held fuel 27 cs = some x) :
    ∃ a n c ts, cs = [.slice a n c] ∧ KidsAt (fun _ => True) w a n c ts := by
  rcases DataW.trod_slice Tryd.underlying27 h with ⟨rfl, -⟩ | ⟨a, len, cap, elems, rest, n', -, rfl, -, -, hl, hm, hlen, hel, -, -⟩
  · exact ⟨none, 0, 0, [], rfl, KidsAt.of rfl (Nat.le_refl _) (by simp [maxLen]) fun _ _ h => by simp at h⟩
  · rw [cells_tree] at hel
    obtain ⟨Z, h1, h2⟩ := choose_list (fun i (z : El × T) => (∀ j v, z.1.cells[j]? = some v → w.cell? (a.add (i * 6 + j)) = some v) ∧ TreeAt (fun _ => True) w z.1 z.2) len fun i hi => by
      have h1 := hel i hi
      obtain ⟨q, hq⟩ := some_of_lt hlen hi
      rw [hq, Option.bind_eq_some_iff] at h1
      obtain ⟨cs', hc, ht⟩ := h1
      obtain ⟨-, hcl', hat⟩ := World.cells?_some hc
      obtain ⟨e, t, rfl, hT⟩ := tree_of n' cs' _ ht
      refine ⟨(e, t), fun j v hj => ?_, hT⟩
      have hj6 : j < 6 := by have := (List.getElem?_eq_some_iff.1 hj).1; simpa [El.cells] using this
      rw [← Addr.add_add, hat j hj6]
      exact hj
    refine ⟨some a, len, cap, Z.map Prod.snd, rfl, KidsAt.of (by simp [h1]) hl hm fun i t hi => ?_⟩
    simp only [List.getElem?_map, Option.map_eq_some_iff] at hi
    obtain ⟨z, hz, rfl⟩ := hi
    obtain ⟨hc, hT⟩ := h2 i z hz
    have h0 : a = ⟨a.block, a.off, none⟩ := by
      obtain ⟨z0, hz0⟩ := some_of_lt h1 (show 0 < len by have := (List.getElem?_eq_some_iff.1 hz).1; omega)
      have := (h2 0 z0 hz0).1 0 _ rfl
      exact spot_none (by simpa [Addr.add] using this)
    rw [h0] at hc
    simp only [Addr.add_lit] at hc
    have ha : ∀ j, a.off + (i * 6 + j) = a.off + i * 6 + j := fun j => by omega
    simp only [ha] at hc
    exact ⟨a.block, a.off, z.1, by rw [← h0], trivial, ⟨hc 0 _ rfl, hc 1 _ rfl, hc 2 _ rfl, hc 3 _ rfl, hc 4 _ rfl, hc 5 _ rfl⟩, hT⟩
end
end Go.Proofs.YtfngaoicoecncaaDoor

namespace Go.Proofs.YtfngaoicoecncaaDoor
open Go.ChangeShapes Go.WideShapes Go.ChangeAt Go.RowKit

section
variable {H : Type} {enc : TypeId × Value → H} {w : World} {base : Nat} {spare : Nat → Bool} {held : Bool}
theorem bulk_pos (d : DataW H) : 1 ≤ Rows.uptoBulk d := by
  cases d with
  | lit l => cases l <;> simp [Rows.uptoBulk]
  | _ => simp [Rows.uptoBulk]
theorem bulk_len : ∀ l : List (DataW H), l.length ≤ Rows.uptoBulkAll l
  | [] => by simp
  | d :: r => by
    have h1 := bulk_len r
    have h2 := bulk_pos d
    simp only [List.length_cons, Rows.uptoBulkAll]
    omega
theorem strs_small {fuel : Nat} {cs : List Value} {x : DataW H × List MemPlace} (h : DataW.trod enc Tryd.prog w base spare held fuel 26 cs = some x) :
    ∃ a n c ss, cs = [.slice a n c] ∧ StrsAt (fun _ => True) w a n c ss ∧ ss.length ≤ Rows.uptoBulk x.1 ∧ ∀ s ∈ ss, s.size ≤ Rows.uptoBulk x.1 := by
  rcases DataW.trod_slice Tryd.underlying26 h with ⟨rfl, -⟩ | ⟨a, len, cap, elems, rest, n, -, rfl, hxx, -, hl, hm, hlen, hel, -, -⟩
  · exact ⟨none, 0, 0, [], rfl, ⟨rfl, Nat.le_refl _, by simp [maxLen], fun _ _ h => by simp at h⟩, Nat.zero_le _, fun s hs => by cases hs⟩
  · rw [cells_string] at hel
    obtain ⟨ss, h1, h2⟩ := choose_list (fun i s => w.cell? (a.add i) = some (.string s) ∧ s.size ≤ Rows.uptoBulk x.1) len fun i hi => by
      have h1 := hel i hi
      obtain ⟨y, hy⟩ := some_of_lt hlen hi
      rw [hy, Option.bind_eq_some_iff] at h1
      obtain ⟨cs', hc, ht⟩ := h1
      obtain ⟨-, -, hat⟩ := World.cells?_some hc
      obtain ⟨s, rfl, hyy, -⟩ := DataW.trod_string Tryd.underlying9 ht
      have := hat 0 (by omega)
      refine ⟨s, by simpa [Addr.add_add] using this, ?_⟩
      have h5 : y.1 ∈ List.map (fun x => x.fst) elems := List.mem_map.2 ⟨y, List.mem_of_getElem? hy, rfl⟩
      have h6 := bulk_part h5
      have h7 : Rows.uptoBulk y.1 = s.data.toList.length + 1 := by rw [hyy]; simp [Rows.uptoBulk]
      have h8 := Lib.size_eq s
      subst hxx
      simp only [Rows.uptoBulk]
      omega
    refine ⟨some a, len, cap, ss, rfl, ⟨h1, hl, hm, fun i s hi => ?_⟩, ?_, fun s hs => ?_⟩
    rotate_left
    · have h5 := bulk_len (List.map (fun x => x.fst) elems)
      rw [List.length_map] at h5
      subst hxx
      simp only [Rows.uptoBulk]
      omega
    · obtain ⟨i, hi⟩ := List.getElem?_of_mem hs
      exact (h2 i s hi).2
    have hc := (h2 i s hi).1
    have h0 : a = ⟨a.block, a.off, none⟩ := by
      obtain ⟨s0, hs0⟩ := some_of_lt h1 (show 0 < len by have := (List.getElem?_eq_some_iff.1 hi).1; omega)
      exact spot_none (by simpa [Addr.add] using (h2 0 s0 hs0).1)
    rw [h0, Addr.add_lit] at hc
    exact ⟨a.block, a.off, by rw [← h0], trivial, hc⟩
set_option maxRecDepth 20000 in
theorem tree_small : ∀ (fuel : Nat) (cs : List Value) (x : DataW H × List MemPlace), DataW.trod enc Tryd.prog w base spare held fuel 29 cs = some x → ∃ (e : El) (t : T), cs = e.cells ∧ TreeAt (fun _ => True) w e t ∧ SmallT (Rows.uptoBulk x.1) t := by
  intro fuel
  induction fuel using Nat.strongRecOn with
  | ind fuel ih =>
    intro cs x h
    obtain ⟨xs, n, rfl, rfl, hcl, hxl, hf⟩ := DataW.trod_struct Tryd.underlying29 h
    rw [cells_tree] at hcl
    match cs, hcl with
    | [c0, c1, c2, c3, c4, c5], _ =>
      match xs, hxl with
      | [x0, x1, x2, x3, x4, x5], _ =>
        have f0 : DataW.trod enc Tryd.prog w base spare held n 3 (List.take (Tryd.prog.cellsOf 3) (List.drop 0 [c0, c1, c2, c3, c4, c5])) = some x0 := hf 0 _ rfl
        rw [cells_int] at f0
        have f0 : DataW.trod enc Tryd.prog w base spare held n 3 [c0] = some x0 := f0
        have f1 : DataW.trod enc Tryd.prog w base spare held n 9 (List.take (Tryd.prog.cellsOf 9) (List.drop 1 [c0, c1, c2, c3, c4, c5])) = some x1 := hf 1 _ rfl
        rw [cells_string] at f1
        have f1 : DataW.trod enc Tryd.prog w base spare held n 9 [c1] = some x1 := f1
        have f2 : DataW.trod enc Tryd.prog w base spare held n 25 (List.take (Tryd.prog.cellsOf 25) (List.drop 2 [c0, c1, c2, c3, c4, c5])) = some x2 := hf 2 _ rfl
        rw [cells_float] at f2
        have f2 : DataW.trod enc Tryd.prog w base spare held n 25 [c2] = some x2 := f2
        have f3 : DataW.trod enc Tryd.prog w base spare held n 4 (List.take (Tryd.prog.cellsOf 4) (List.drop 3 [c0, c1, c2, c3, c4, c5])) = some x3 := hf 3 _ rfl
        rw [cells_bool] at f3
        have f3 : DataW.trod enc Tryd.prog w base spare held n 4 [c3] = some x3 := f3
        have f4 : DataW.trod enc Tryd.prog w base spare held n 26 (List.take (Tryd.prog.cellsOf 26) (List.drop 4 [c0, c1, c2, c3, c4, c5])) = some x4 := hf 4 _ rfl
        rw [cells_strings] at f4
        have f4 : DataW.trod enc Tryd.prog w base spare held n 26 [c4] = some x4 := f4
        have f5 : DataW.trod enc Tryd.prog w base spare held n 27 (List.take (Tryd.prog.cellsOf 27) (List.drop 5 [c0, c1, c2, c3, c4, c5])) = some x5 := hf 5 _ rfl
        rw [cells_trees] at f5
        have f5 : DataW.trod enc Tryd.prog w base spare held n 27 [c5] = some x5 := f5
        obtain ⟨k, e0, -, -⟩ := DataW.trod_int Tryd.underlying3 f0
        obtain ⟨s, e1, hx1, -⟩ := DataW.trod_string Tryd.underlying9 f1
        obtain ⟨d, e2⟩ := trod_float Tryd.underlying25 f2
        obtain ⟨y, e3, -⟩ := DataW.trod_bool Tryd.underlying4 f3
        obtain ⟨ka, kn, kc, ss, e4, hss, hsl, hsz⟩ := strs_small f4
        simp only [List.cons.injEq, and_true] at e0 e1 e2 e3 e4
        subst e0 e1 e2 e3 e4
        have hs1 : Rows.uptoBulk x1.1 = s.data.toList.length + 1 := by rw [hx1]; simp [Rows.uptoBulk]
        have hs2 := Lib.size_eq s
        have hB : Rows.uptoBulk (DataW.agg (List.map (fun x => x.fst) [x0, x1, x2, x3, x4, x5])) = Rows.uptoBulk x0.1 + (Rows.uptoBulk x1.1 + (Rows.uptoBulk x2.1 + (Rows.uptoBulk x3.1 + (Rows.uptoBulk x4.1 + (Rows.uptoBulk x5.1 + 0))))) + 1 := by simp only [Rows.uptoBulk, List.map_cons, List.map_nil, Rows.uptoBulkAll]
        have hSm : ∀ kids : List T, kids.length ≤ Rows.uptoBulk x5.1 → SmallTs (Rows.uptoBulk x5.1) kids → SmallT (Rows.uptoBulk (DataW.agg (List.map (fun x => x.fst) [x0, x1, x2, x3, x4, x5]))) (.mk k s d y ss kids) := fun kids hk1 hk2 => by
          rw [SmallT, hB]
          exact ⟨by omega, by omega, fun z hz => by have := hsz z hz; omega, by omega, SmallTs.mono (by omega) hk2⟩
        clear hB hs1 hsl hsz
        rcases DataW.trod_slice Tryd.underlying27 f5 with ⟨e5, -⟩ | ⟨a, len, cap, elems, rest, n', rfl, e5, hxx, -, hl, hm, hlen, hel, -, -⟩
        · cases e5
          exact ⟨⟨k, s, d, y, ka, kn, kc, none, 0, 0⟩, .mk k s d y ss [], rfl, TreeAt.of rfl rfl rfl rfl hss (KidsAt.of rfl (Nat.le_refl _) (by simp [maxLen]) fun _ _ h => by simp [T.kids] at h), hSm [] (Nat.zero_le _) (by rw [SmallTs]; trivial)⟩
        · cases e5
          rw [cells_tree] at hel
          obtain ⟨Z, h1, h2⟩ := choose_list (fun i (z : El × T) => (∀ j v, z.1.cells[j]? = some v → w.cell? (a.add (i * 6 + j)) = some v) ∧ TreeAt (fun _ => True) w z.1 z.2 ∧ SmallT (Rows.uptoBulk x5.1) z.2) len fun i hi => by
            have h1 := hel i hi
            obtain ⟨q, hq⟩ := some_of_lt hlen hi
            rw [hq, Option.bind_eq_some_iff] at h1
            obtain ⟨cs', hc, ht⟩ := h1
            obtain ⟨-, hcl', hat⟩ := World.cells?_some hc
            obtain ⟨e, t, rfl, hT, hSt⟩ := ih n' (by omega) cs' _ ht
            have h5 : q.1 ∈ List.map (fun x => x.fst) elems := List.mem_map.2 ⟨q, List.mem_of_getElem? hq, rfl⟩
            have h6 := bulk_part h5
            refine ⟨(e, t), fun j v hj => ?_, hT, SmallT.mono (by rw [hxx]; simp only [Rows.uptoBulk]; omega) hSt⟩
            have hj6 : j < 6 := by have := (List.getElem?_eq_some_iff.1 hj).1; simpa [El.cells] using this
            rw [← Addr.add_add, hat j hj6]
            exact hj
          have hZl : (Z.map Prod.snd).length ≤ Rows.uptoBulk x5.1 := by
            have h5 := bulk_len (List.map (fun x => x.fst) elems)
            rw [List.length_map] at h5
            rw [List.length_map, h1, hxx]
            simp only [Rows.uptoBulk]
            omega
          have hZs : SmallTs (Rows.uptoBulk x5.1) (Z.map Prod.snd) := (smallTs_iff _ _).2 fun t ht => by
            obtain ⟨z, hz, rfl⟩ := List.mem_map.1 ht
            obtain ⟨i, hi⟩ := List.getElem?_of_mem hz
            exact (h2 i z hi).2.2
          suffices hKA : KidsAt (fun _ => True) w (some a) len cap (Z.map Prod.snd) from ⟨⟨k, s, d, y, ka, kn, kc, some a, len, cap⟩, .mk k s d y ss (Z.map Prod.snd), rfl, TreeAt.of rfl rfl rfl rfl hss hKA, hSm _ hZl hZs⟩
          refine KidsAt.of (by simp [h1]) hl hm fun i t hi => ?_
          simp only [List.getElem?_map, Option.map_eq_some_iff] at hi
          obtain ⟨z, hz, rfl⟩ := hi
          obtain ⟨hc, hT, -⟩ := h2 i z hz
          have h0 : a = ⟨a.block, a.off, none⟩ := by
            obtain ⟨z0, hz0⟩ := some_of_lt h1 (show 0 < len by have := (List.getElem?_eq_some_iff.1 hz).1; omega)
            have := (h2 0 z0 hz0).1 0 _ rfl
            exact spot_none (by simpa [Addr.add] using this)
          rw [h0] at hc
          simp only [Addr.add_lit] at hc
          have ha : ∀ j, a.off + (i * 6 + j) = a.off + i * 6 + j := fun j => by omega
          simp only [ha] at hc
          exact ⟨a.block, a.off, z.1, by rw [← h0], trivial, ⟨hc 0 _ rfl, hc 1 _ rfl, hc 2 _ rfl, hc 3 _ rfl, hc 4 _ rfl, hc 5 _ rfl⟩, hT⟩
set_option maxRecDepth 20000 in
theorem tree_valS {fuel : Nat} {r : Reach} {b0 : Nat} {v : Value} {x : DataW H × List MemPlace} {W : World} (hv : Value.okWide Tryd.prog W r b0 29 v) (h : DataW.trod enc Tryd.prog w base spare held fuel 29 v.cells.toList = some x) :
    ∃ (e : El) (t : T), v = e.val ∧ TreeAt (fun _ => True) w e t ∧ SmallT (Rows.uptoBulk x.1) t := by
  obtain ⟨cs, rfl, -⟩ := okWide_struct Tryd.underlying29 hv
  obtain ⟨e, t, he, hT, hSt⟩ := tree_small fuel _ _ h
  refine ⟨e, t, ?_, hT, hSt⟩
  have he : cs.toList = e.cells := he
  have : cs = e.cells.toArray := by rw [← he]
  subst this
  rfl
set_option maxRecDepth 20000 in
theorem kids_small {fuel : Nat} {cs : List Value} {x : DataW H × List MemPlace} (h : DataW.trod enc Tryd.prog w base spare held fuel 27 cs = some x) :
    ∃ a n c ts, cs = [.slice a n c] ∧ KidsAt (fun _ => True) w a n c ts ∧ ts.length ≤ Rows.uptoBulk x.1 ∧ SmallTs (Rows.uptoBulk x.1) ts := by
  rcases DataW.trod_slice Tryd.underlying27 h with ⟨rfl, -⟩ | ⟨a, len, cap, elems, rest, n', -, rfl, hxx, -, hl, hm, hlen, hel, -, -⟩
  · exact ⟨none, 0, 0, [], rfl, KidsAt.of rfl (Nat.le_refl _) (by simp [maxLen]) fun _ _ h => by simp at h, Nat.zero_le _, by rw [SmallTs]; trivial⟩
  · rw [cells_tree] at hel
    obtain ⟨Z, h1, h2⟩ := choose_list (fun i (z : El × T) => (∀ j v, z.1.cells[j]? = some v → w.cell? (a.add (i * 6 + j)) = some v) ∧ TreeAt (fun _ => True) w z.1 z.2 ∧ SmallT (Rows.uptoBulk x.1) z.2) len fun i hi => by
      have h1 := hel i hi
      obtain ⟨q, hq⟩ := some_of_lt hlen hi
      rw [hq, Option.bind_eq_some_iff] at h1
      obtain ⟨cs', hc, ht⟩ := h1
      obtain ⟨-, hcl', hat⟩ := World.cells?_some hc
      obtain ⟨e, t, rfl, hT, hSt⟩ := tree_small n' cs' _ ht
      have h5 : q.1 ∈ List.map (fun x => x.fst) elems := List.mem_map.2 ⟨q, List.mem_of_getElem? hq, rfl⟩
      have h6 := bulk_part h5
      refine ⟨(e, t), fun j v hj => ?_, hT, SmallT.mono (by rw [hxx]; simp only [Rows.uptoBulk]; omega) hSt⟩
      have hj6 : j < 6 := by have := (List.getElem?_eq_some_iff.1 hj).1; simpa [El.cells] using this
      rw [← Addr.add_add, hat j hj6]
      exact hj
    have hZl : (Z.map Prod.snd).length ≤ Rows.uptoBulk x.1 := by
      have h5 := bulk_len (List.map (fun x => x.fst) elems)
      rw [List.length_map] at h5
      rw [List.length_map, h1, hxx]
      simp only [Rows.uptoBulk]
      omega
    have hZs : SmallTs (Rows.uptoBulk x.1) (Z.map Prod.snd) := (smallTs_iff _ _).2 fun t ht => by
      obtain ⟨z, hz, rfl⟩ := List.mem_map.1 ht
      obtain ⟨i, hi⟩ := List.getElem?_of_mem hz
      exact (h2 i z hi).2.2
    suffices hKA : KidsAt (fun _ => True) w (some a) len cap (Z.map Prod.snd) from ⟨some a, len, cap, Z.map Prod.snd, rfl, hKA, hZl, hZs⟩
    refine KidsAt.of (by simp [h1]) hl hm fun i t hi => ?_
    simp only [List.getElem?_map, Option.map_eq_some_iff] at hi
    obtain ⟨z, hz, rfl⟩ := hi
    obtain ⟨hc, hT, -⟩ := h2 i z hz
    have h0 : a = ⟨a.block, a.off, none⟩ := by
      obtain ⟨z0, hz0⟩ := some_of_lt h1 (show 0 < len by have := (List.getElem?_eq_some_iff.1 hz).1; omega)
      have := (h2 0 z0 hz0).1 0 _ rfl
      exact spot_none (by simpa [Addr.add] using this)
    rw [h0] at hc
    simp only [Addr.add_lit] at hc
    have ha : ∀ j, a.off + (i * 6 + j) = a.off + i * 6 + j := fun j => by omega
    simp only [ha] at hc
    exact ⟨a.block, a.off, z.1, by rw [← h0], trivial, ⟨hc 0 _ rfl, hc 1 _ rfl, hc 2 _ rfl, hc 3 _ rfl, hc 4 _ rfl, hc 5 _ rfl⟩, hT⟩
end
end Go.Proofs.YtfngaoicoecncaaDoor

namespace Go.Proofs.YtfngaoicoecncaaDoor
open Go.ChangeShapes Go.WideShapes Go.ChangeAt Go.RowKit

section
variable {H : Type} {enc : TypeId × Value → H} {w : World} {base : Nat} {spare : Nat → Bool} {held : Bool}
theorem sum_bulk {α : Type} (f : α → Nat) : ∀ (l : List α) (ds : List (DataW H)), l.length = ds.length → (∀ (i : Nat) (z : α) (d : DataW H), l[i]? = some z → ds[i]? = some d → f z ≤ Rows.uptoBulk d) → (l.map f).sum ≤ Rows.uptoBulkAll ds
  | [], _, _, _ => by simp
  | z :: r, [], h, _ => by simp at h
  | z :: r, d :: ds, h, hf => by
    have h1 := sum_bulk f r ds (by simpa using h) fun i z' d' hz hd => hf (i + 1) z' d' (by simpa using hz) (by simpa using hd)
    have h2 := hf 0 z d rfl rfl
    simp only [List.map_cons, List.sum_cons, Rows.uptoBulkAll]
    omega
set_option maxRecDepth 20000 in
theorem set_small {fuel : Nat} {cs : List Value} {x : DataW H × List MemPlace} (h : DataW.trod enc Tryd.prog w base spare held fuel 38 cs = some x) :
    ∃ (s : ByteArray) (e : El) (t : T), cs = .string s :: e.cells ∧ TreeAt (fun _ => True) w e t ∧ SmallT (Rows.uptoBulk x.1) t ∧ (clT t).length ≤ Rows.uptoBulk x.1 := by
  obtain ⟨xs, n, rfl, rfl, hcl, hxl, hf⟩ := DataW.trod_struct Tryd.underlying38 h
  rw [cells_set] at hcl
  match cs, hcl with
  | c0 :: r, hcl =>
    match xs, hxl with
    | [x0, x1], _ =>
      have f0 : DataW.trod enc Tryd.prog w base spare held n 9 (List.take (Tryd.prog.cellsOf 9) (List.drop 0 (c0 :: r))) = some x0 := hf 0 _ rfl
      rw [cells_string] at f0
      have f0 : DataW.trod enc Tryd.prog w base spare held n 9 [c0] = some x0 := f0
      have f1 : DataW.trod enc Tryd.prog w base spare held n 29 (List.take (Tryd.prog.cellsOf 29) (List.drop 1 (c0 :: r))) = some x1 := hf 1 _ rfl
      rw [cells_tree, List.drop_succ_cons, List.drop_zero, List.take_of_length_le (by simp at hcl; omega)] at f1
      obtain ⟨s, e0, -, -⟩ := DataW.trod_string Tryd.underlying9 f0
      obtain ⟨e, t, rfl, hT, hSt⟩ := tree_small n _ _ f1
      cases e0
      have hB : Rows.uptoBulk (DataW.agg (List.map (fun x => x.fst) [x0, x1])) = Rows.uptoBulk x0.1 + (Rows.uptoBulk x1.1 + 0) + 1 := by simp only [Rows.uptoBulk, List.map_cons, List.map_nil, Rows.uptoBulkAll]
      have hSm := SmallT.mono (M := Rows.uptoBulk (DataW.agg (List.map (fun x => x.fst) [x0, x1]))) (by rw [hB]; omega) hSt
      refine ⟨s, e, t, rfl, hT, hSm, ?_⟩
      unfold clT
      split
      · obtain ⟨k, x, d, y, keys, kids⟩ := t
        rw [SmallT] at hSm
        exact hSm.2.2.2.1
      · have := bulk_pos (DataW.agg (List.map (fun x => x.fst) [x0, x1]))
        simpa using this
set_option maxRecDepth 20000 in
theorem sets_small {fuel : Nat} {cs : List Value} {x : DataW H × List MemPlace} (h : DataW.trod enc Tryd.prog w base spare held fuel 22 cs = some x) :
    ∃ a n c ps, cs = [.slice a n c] ∧ PairsAt (fun _ => True) w a n c ps ∧ (∀ p ∈ ps, SmallT (Rows.uptoBulk x.1) p.2) ∧ clsAll ps ≤ Rows.uptoBulk x.1 := by
  rcases DataW.trod_slice Tryd.underlying22 h with ⟨rfl, -⟩ | ⟨a, len, cap, elems, rest, n', -, rfl, hxx, -, hl, hm, hlen, hel, -, -⟩
  · exact ⟨none, 0, 0, [], rfl, ⟨rfl, Nat.le_refl _, by simp [maxLen], fun _ _ h => by simp at h⟩, fun p hp => (by cases hp), Nat.zero_le _⟩
  · rw [cells_set] at hel
    obtain ⟨Z, h1, h2⟩ := choose_list (fun i (z : ByteArray × El × T) => w.cell? (a.add (i * 7)) = some (.string z.1) ∧ (∀ j v, z.2.1.cells[j]? = some v → w.cell? (a.add (i * 7 + 1 + j)) = some v) ∧ TreeAt (fun _ => True) w z.2.1 z.2.2 ∧ SmallT (Rows.uptoBulk x.1) z.2.2 ∧ ∀ y, elems[i]? = some y → (clT z.2.2).length ≤ Rows.uptoBulk y.1) len fun i hi => by
      have h1 := hel i hi
      obtain ⟨q, hq⟩ := some_of_lt hlen hi
      rw [hq, Option.bind_eq_some_iff] at h1
      obtain ⟨cs', hc, ht⟩ := h1
      obtain ⟨-, -, hat⟩ := World.cells?_some hc
      obtain ⟨s, e, t, rfl, hT, hSm, hCl⟩ := set_small ht
      have h5 : q.1 ∈ List.map (fun x => x.fst) elems := List.mem_map.2 ⟨q, List.mem_of_getElem? hq, rfl⟩
      have h6 := bulk_part h5
      refine ⟨(s, e, t), ?_, fun j v hj => ?_, hT, SmallT.mono (by rw [hxx]; simp only [Rows.uptoBulk]; omega) hSm, fun y hy => by rw [hq] at hy; cases hy; exact hCl⟩
      · have := hat 0 (by omega)
        simpa [Addr.add_add] using this
      · have hj6 : j < 6 := by have := (List.getElem?_eq_some_iff.1 hj).1; simpa [El.cells] using this
        have := hat (1 + j) (by omega)
        rw [Addr.add_add] at this
        rw [show i * 7 + 1 + j = i * 7 + (1 + j) by omega, this, show 1 + j = j + 1 by omega]
        simpa using hj
    have hSm : ∀ p ∈ Z.map fun z => (z.1, z.2.2), SmallT (Rows.uptoBulk x.1) p.2 := fun p hp => by
      obtain ⟨z, hz, rfl⟩ := List.mem_map.1 hp
      obtain ⟨i, hi⟩ := List.getElem?_of_mem hz
      exact (h2 i z hi).2.2.2.1
    have hCl : clsAll (Z.map fun z => (z.1, z.2.2)) ≤ Rows.uptoBulk x.1 := by
      have h3 := sum_bulk (fun z : ByteArray × El × T => (clT z.2.2).length) Z (List.map (fun x => x.fst) elems) (by rw [List.length_map, h1, hlen]) fun i z d hz hd => by
        rw [List.getElem?_map, Option.map_eq_some_iff] at hd
        obtain ⟨y, hy, rfl⟩ := hd
        exact (h2 i z hz).2.2.2.2 y hy
      have h4 : clsAll (Z.map fun z => (z.1, z.2.2)) = (Z.map fun z : ByteArray × El × T => (clT z.2.2).length).sum := by
        unfold clsAll
        rw [List.map_map]
        rfl
      rw [h4, hxx]
      simp only [Rows.uptoBulk]
      omega
    refine ⟨some a, len, cap, Z.map fun z => (z.1, z.2.2), rfl, ⟨by simp [h1], hl, hm, fun i p hi => ?_⟩, hSm, hCl⟩
    simp only [List.getElem?_map, Option.map_eq_some_iff] at hi
    obtain ⟨z, hz, rfl⟩ := hi
    obtain ⟨hs, hc, hT, -, -⟩ := h2 i z hz
    have h0 : a = ⟨a.block, a.off, none⟩ := by
      obtain ⟨z0, hz0⟩ := some_of_lt h1 (show 0 < len by have := (List.getElem?_eq_some_iff.1 hz).1; omega)
      have := (h2 0 z0 hz0).1
      exact spot_none (by simpa [Addr.add] using this)
    rw [h0] at hc hs
    simp only [Addr.add_lit] at hc hs
    have ha : ∀ j, a.off + (i * 7 + 1 + j) = a.off + i * 7 + 1 + j := fun j => by omega
    simp only [ha] at hc
    exact ⟨a.block, a.off, z.2.1, by rw [← h0], trivial, ⟨hs, hc 0 _ rfl, hc 1 _ rfl, hc 2 _ rfl, hc 3 _ rfl, hc 4 _ rfl, hc 5 _ rfl⟩, hT⟩
end
end Go.Proofs.YtfngaoicoecncaaDoor

namespace Go.Proofs.YtfngaoicoecncaaDoor
open Go.ChangeShapes Go.WideShapes Go.ChangeAt Go.RowKit

set_option maxRecDepth 100000 in
theorem bLay_shaped (os : Os) (args : Array Value) : World.Shaped Tryd.prog ((World.laidAll Tryd.prog os Rows.fnBoolTurnedUptoRow.laid).forCall (fun _ _ => 0) ⟨#[], args, []⟩) := World.shaped_of_ZipB (by kernel_rfl) (by kernel_rfl)
set_option maxRecDepth 100000 in
theorem bLay_met (os : Os) (args : Array Value) : laidMetH Tryd.prog Rows.fnBoolTurnedUptoRow.laid ((World.laidAll Tryd.prog os Rows.fnBoolTurnedUptoRow.laid).forCall (fun _ _ => 0) ⟨#[], args, []⟩).memory := by
  rw [MakeChecks.laidMetH_plain _ _ _ (by kernel_rfl)]
  exact laidMet_laidAll _ (by kernel_rfl) (by kernel_rfl)
theorem bWitness_laid {H : Type} {enc : TypeId × Value → H} (os : Os) (args : Array Value) {f : FuncId} {fn : Func} {s : OpenSpec} {conds : List PathCond} {apart : Bool} {laid : List (String × DataW Unit)}
    (hok : Input.okWideB Tryd.prog ((World.laidAll Tryd.prog os Rows.fnBoolTurnedUptoRow.laid).forCall (fun _ _ => 0) ⟨#[], args, []⟩) f ⟨#[], args, []⟩ = true)
    (hrow : s.preRow enc Tryd.prog fn conds apart laid ((World.laidAll Tryd.prog os Rows.fnBoolTurnedUptoRow.laid).forCall (fun _ _ => 0) ⟨#[], args, []⟩).memory args) :
    ∃ (w : World) (tape : Tape) (i : Input), w.os = os ∧ (w.forCall tape i).Shaped Tryd.prog ∧ i.vars = [] ∧ Input.okWide Tryd.prog (w.forCall tape i) .any w.heap.size f i ∧
      s.preRow enc Tryd.prog fn conds apart laid (w.forCall tape i).memory i.args ∧ ({} : Assume).holds Tryd.prog (lone (Frame.enter Tryd.prog f i.args .normal) [] (w.forCall tape i)) :=
  ⟨World.laidAll Tryd.prog os Rows.fnBoolTurnedUptoRow.laid, fun _ _ => 0, ⟨#[], args, []⟩, World.laidAll_os _ _ _, bLay_shaped os args, (Input.okWide_of_okWideB (base := 0) hok).1, (Input.okWide_of_okWideB hok).2, hrow, by
    simp only [Assume.holds]
    exact ⟨by simp, by simp, by simp, by simp, by simp⟩⟩
theorem ten_eq : (Rows.laid_internal_strconv_uint64pow10 : DataW Unit) = Lib.tabData .u64 Lib.pow10Tab := by kernel_rfl
theorem ten_at {W : World} (hL : laidMetH Tryd.prog Rows.fnBoolTurnedUptoRow.laid W) : TenAt W := by
  rw [MakeChecks.laidMetH_plain _ _ _ (by kernel_rfl)] at hL
  have h1 : laidMet Tryd.prog [("math/bits.deBruijn32tab", Rows.laid_math_bits_deBruijn32tab), ("math/bits.deBruijn64tab", Rows.laid_math_bits_deBruijn64tab), ("internal/strconv.uint64pow10", Rows.laid_internal_strconv_uint64pow10)] W := hL
  have h2 := h1.tail.tail
  rw [ten_eq] at h2
  have h3 : Lib.TabIs Tryd.prog W "internal/strconv.uint64pow10" .u64 Lib.pow10Tab := Lib.tabIs_of_head (g := 0) (t := 112) (e := 101) (n := 20) (by kernel_rfl) (by kernel_rfl) Tryd.underlying112 Tryd.underlying101 (by kernel_rfl) (by kernel_rfl) h2
  exact fun w' x => Lib.tabBelow_of_tabIs h3 w' x

set_option maxRecDepth 100000 in
theorem boolTurned_lifted (os : Os) (started : os.Started) (H : Type) (enc : TypeId × Value → H) (F : Stop.Interp) :
    ReturnsInHanded {} Tryd.checked os 3 .any ((Rows.OpenSpec.upto Rows.fnBoolTurnedSpec).preRow enc Tryd.prog Tryd.f3 Rows.fnBoolTurnedUptoRow.domain false Rows.fnBoolTurnedUptoRow.laid) (((Rows.OpenSpec.upto Rows.fnBoolTurnedSpec).at F).post enc Tryd.prog Tryd.f3 false true false false) := by
  have hx : DataW.whole enc Tryd.prog ((World.laidAll Tryd.prog os Rows.fnBoolTurnedUptoRow.laid).forCall (fun _ _ => 0) ⟨#[], #[.slice none 0 0, .int .i64 0], []⟩).memory Tryd.f3.params.toList Rows.fnBoolTurnedSpec.vars false (#[.slice none 0 0, .int .i64 0] : Array Value).toList 8 = some ([.nil, .lit (.int .i64 0)], [], []) := by kernel_rfl
  refine returnsInHanded_of_row (C := Tryd.checked) (s := Rows.OpenSpec.upto Rows.fnBoolTurnedSpec) ownKnobs started (by kernel_rfl) Tryd.func3
    (bWitness_laid os #[.slice none 0 0, .int .i64 0] (by kernel_rfl) (OpenSpec.preRow_of_cond 8 hx (by kernel_rfl) (fun k hk => by cases hk; kernel_rfl) (by kernel_rfl) (bLay_met os _))) ?_
  intro W base args ds gs before hval0 hW _ hcond _ hL _ _
  have hbulk : Rows.uptoBulkAll (ds ++ gs) ≤ 1048576 := of_decide_eq_true (hcond _ rfl)
  have hval : ∀ (j : Nat) t v, Tryd.f3.params[j]? = some t → args[j]? = some v → Value.okWide Tryd.prog W .any base t v := hval0
  have hW' := hW
  obtain ⟨p, q, hA, hV, rfl, hfz, hnd⟩ := hW'
  have hA : DataW.TrodAll enc Tryd.prog W 0 (fun _ => true) true Tryd.f3.params.toList args.toList ds p := hA
  rw [Tryd.params3] at hA hval
  obtain ⟨v0, vs0, d0, ds0, p0, q0, hargs, rfl, rfl, h0, r0⟩ := trodAll_cons hA
  obtain ⟨v1, vs1, d1, ds1, p1, q1, rfl, rfl, rfl, h1, r1⟩ := trodAll_cons r0
  obtain ⟨rfl, rfl, rfl⟩ := trodAll_nil r1
  obtain rfl : args = #[v0, v1] := by cases args; simp_all
  obtain ⟨rfl, rfl⟩ := trodVars_none hV
  obtain ⟨a0, n0, c0, rfl⟩ := okWide_slice Tryd.underlying22 (hval 0 22 v0 rfl rfl)
  obtain ⟨fuel0, hf0⟩ := h0
  obtain ⟨a0', n0', c0', ps0, e0, hP0, hS0, hC0⟩ := sets_small hf0
  simp only [Value.cells, List.cons.injEq, and_true, Value.slice.injEq] at e0
  obtain ⟨rfl, rfl, rfl⟩ := e0
  obtain ⟨b1, rfl, -⟩ := okWide_int Tryd.underlying3 (hval 1 3 v1 rfl rfl)
  have hd0 : Rows.uptoBulk d0 ≤ 1048576 := by
    simp only [List.append_nil, Rows.uptoBulkAll] at hbulk
    omega
  have hsm : SmallSets ps0 := ⟨fun p hp => SmallT.mono hd0 (hS0 p hp), Nat.le_trans hC0 hd0⟩
  refine (boolTurned_law a0 n0 c0 ps0 b1 W hP0 (ten_at hL) hsm).mono fun e W' ⟨he, hx⟩ => ?_
  subst he
  exact ⟨_, rfl, post_law (s := Rows.fnBoolTurnedSpec) laidOut (by kernel_rfl) (by kernel_rfl) Tryd.underlying4 rfl hW rfl hx⟩

theorem boolTurned_holds : Rows.FnBoolTurnedUptoSaid :=
  OpenClaim.holds_of_cond 3 Tryd.f3 rfl rfl rfl rfl rfl rfl rfl ⟨rfl, rfl, rfl, rfl, rfl⟩ rfl rfl rfl rfl rfl (by kernel_rfl) Tryd.func3 (by kernel_rfl)
    (of_decide_eq_true (by kernel_rfl)) (by unfold Func.isWrapper; first | (rw [if_pos (by decide +kernel)]; kernel_rfl) | (rw [if_neg (by decide +kernel)]; exact ⟨rfl, rfl⟩))
    (fun os started H enc _ F => by rw [OpenClaim.pre_eq_preRow]; exact boolTurned_lifted os started H enc F)

/-- Two settings of a bool query with different names may change places: where what comes in is of bulk at most 1048576. -/
theorem boolTurned_proved : Rows.FnBoolTurnedUptoCardSaid :=
  Claim7.holds_tied_plain_at .later [] _ _ _ _ boolTurned_holds (fun _ h => by cases h) (by kernel_rfl) (fun _ h => by cases h) fnBoolTurnedUpto_row_tie rfl ⟨rfl, rfl⟩ (by kernel_rfl) rfl
    (fun f fn hf hfn => by
      obtain rfl : f = 3 := Option.some.inj ((show Tryd.prog.funcNamed "loop.example/pub-g01525/laws.FnBoolTurned" = some 3 by kernel_rfl).symm.trans hf) |>.symm
      obtain rfl : fn = Tryd.f3 := (Option.some.inj (Tryd.func3.symm.trans hfn)).symm
      exact ⟨by kernel_rfl, fun j t ht => by
        rw [Tryd.params3] at ht
        have hm : t ∈ [22, 3] := by simpa using Array.mem_of_getElem? ht
        have hall : ([22, 3].all fun u => !Tryd.prog.wantsStandIn u) = true := by kernel_rfl
        exact (show Tryd.prog.wantsStandIn t = false by simpa using List.all_eq_true.1 hall t hm)⟩)
    (by kernel_rfl)
#print axioms boolTurned_proved
end Go.Proofs.YtfngaoicoecncaaDoor

