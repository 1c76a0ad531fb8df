/-
  What the builder of a query (Bool) makes of its settings.
-/
import Derived.Test.YtfngaoicoecncaaGreatDoorQs
import Derived.Test.YtfngaoicoecncaaGreatDoorNm2
import Derived.Test.YtfngaoicoecncaaGreatDoorTr
import Derived.Test.YtfngaoicoecncaaGreatDoorLq
import Derived.Test.YtfngaoicoecncaaGreatDoorPq
import Derived.Test.YtfngaoicoecncaaGreatDoorF3
import Derived.Lib.ItoaNum
import Derived.Lib.AppendIntMem
namespace Go.Proofs.YtfngaoicoecncaaGreatDoor
open Go.RowKit Go.Maps

theorem QsAt.addr {S : Nat → Prop} {w : World} {a : Option Addr} {n c : Nat} {js : List J} (h : QsAt S w a n c js) (hp : 0 < n) : ∃ b off vs, a = some ⟨b, off, none⟩ ∧ S b ∧ vs.length = n ∧ (∀ i u, vs[i]? = some u → w.cell? ⟨b, off + i, none⟩ = some u) ∧ GivesL S w vs js := by
  obtain ⟨vs, h1, h2, h3, h4, h5⟩ := h
  obtain ⟨u, hu⟩ := some_of_lt h1 hp
  obtain ⟨b, off, e, hS, -⟩ := h4 0 u hu
  refine ⟨b, off, vs, e, hS, h1, fun i v hv => ?_, h5⟩
  obtain ⟨b', off', e', -, hc⟩ := h4 i v hv
  rw [e] at e'
  cases e'
  exact hc
@[go_sem] theorem mk0q (w : World) : (Instr.makeSlice 87 (.int .i64 0) (.int .i64 0)).run Tryz.prog w = .ok (.slice (some ⟨w.heap.size, 0, none⟩) 0 0) (w.alloc (.cells #[] 82)) := by kernel_rfl
set_option maxRecDepth 20000 in
theorem newDisMax_any (w : World) : Calls Tryz.prog 82 #[] w fun r w' => r = .returned (.pointer (some ⟨w.heap.size + 1, 0, none⟩)) ∧ w' = (w.alloc (.cells #[] 82)).alloc (.cells #[.slice (some ⟨w.heap.size, 0, none⟩) 0 0, .pointer none, .pointer none, .string ⟨#[]⟩] 165) := by
  go_enter Tryz.func82, Tryz.ntmps82
  go_wp2_with fail
  go_ret
  exact ⟨by simp, rfl⟩
set_option maxRecDepth 20000 in
set_option maxHeartbeats 1000000 in
theorem disQuery_any {S : Nat → Prop} (w : World) (b base : Nat) (v : Value) (vs : List Value) (z1 z2 z3 : Value) (js ks : List J) (hb : Box w b #[v, z1, z2, z3] 165) (hO : OwnV 82 w base v vs) (hbase : base ≤ w.heap.size) (hne : v.ownBlock ≠ some b)
    (hS : ∀ q, S q → q ≠ b ∧ v.ownBlock ≠ some q) (hG : GivesL S w vs js) (qb qo n c : Nat) (us : List Value) (hul : us.length = n) (hp : 0 < n) (hn : vs.length + n ≤ 4294967296) (hc : ∀ i u, us[i]? = some u → w.cell? ⟨qb, qo + i, none⟩ = some u) (hU : GivesL S w us ks) :
    Calls Tryz.prog 83 #[.pointer (some ⟨b, 0, none⟩), .slice (some ⟨qb, qo, none⟩) n c] w fun r w' => r = .returned (.pointer (some ⟨b, 0, none⟩)) ∧ ∃ g cap, OwnV 82 w' base (.slice (some ⟨g, 0, none⟩) (vs.length + n) cap) (vs ++ us) ∧ GivesL S w' (vs ++ us) (js ++ ks) ∧
      Box w' b #[.slice (some ⟨g, 0, none⟩) (vs.length + n) cap, z1, z2, z3] 165 ∧ Lies w v g ∧ w.heap.size ≤ w'.heap.size ∧ Keeps (fun q => q ≠ b ∧ v.ownBlock ≠ some q) w w' ∧ ∀ w0, Ext w0 w → w0.heap.size ≤ base → w0.heap.size ≤ b → Ext w0 w' := by
  have c0 := hb.cell 0 _ rfl
  have f0 := hb.free 0
  have hl := hb.lt
  have HC := Lib.hid hc
  have HO := Lib.hid hO
  have HG := Lib.hid (GivesL.append hG hU)
  clear hc hO
  go_enter Tryz.func83, Tryz.ntmps83
  have tokC := trivial
  go_wp2_with (first
    | (at_builtin; have _t := tokC; clear _t tokC; refine list_append_query _ rfl _ _ rfl base v vs rfl HO.out qb qo n c us (by omega) hul hU.cells rfl HC.out (by omega) hbase ?_; intro g cap w1 hown hgrow hlies hglt
       have hb1 := hb.grown hgrow (fun e => hne e.symm)
       have c1 := hb1.cell 0 _ rfl
       have f1 := hb1.free 0
       have hBl := hb1.lt)
    | fail)
  go_ret
  have hgb : g ≠ b := by
    rcases hlies with h | h
    · intro e; subst e; exact hne h
    · omega
  have hsz : w.heap.size ≤ w1.heap.size := hgrow.size
  have hk1 : Keeps (fun q => q ≠ b ∧ v.ownBlock ≠ some q) w w1 := keeps_grown hgrow (fun q hq e => hq.2 e.symm)
  have hk2 : Keeps (fun q => q ≠ b) w1 (w1.setCell ⟨b, 0, none⟩ (.slice (some ⟨g, 0, none⟩) (vs.length + us.length) cap)) := fun q hq _ => Below.heap_setCell _ _ _ _ hq
  have hk : Keeps (fun q => q ≠ b ∧ v.ownBlock ≠ some q) w (w1.setCell ⟨b, 0, none⟩ (.slice (some ⟨g, 0, none⟩) (vs.length + us.length) cap)) := fun q hq hl2 => (hk2 q hq.1 (by omega)).trans (hk1 q hq hl2)
  subst hul
  refine ⟨rfl, g, cap, OwnV.grown hown (grown_set _ _ _) (.inr (by simp only [Value.ownBlock]; exact someNe hgb)), HG.out.keep (fun _ h _ => h) (fun q hq hl2 => hk q (hS q hq) hl2) (by simp; omega), hb1.set 0 _, hlies, by simp; omega, hk, ?_⟩
  intro w0 hx h1 h2
  exact ext_set (ext_grown hx hgrow (fun k hk => by have := HO.out.block (g := k) hk; omega)) h2 _
end Go.Proofs.YtfngaoicoecncaaGreatDoor

namespace Go.Proofs.YtfngaoicoecncaaGreatDoor
open Go.RowKit Go.Maps

section
variable {P : Program} {ops : Array Oper} {Q : Exit → Act → World → Prop}
def rdy4 (b0 b1 b2 b3 : Bool) : List Nat := (bif b0 then [] else [0]) ++ (bif b1 then [] else [1]) ++ (bif b2 then [] else [2]) ++ (bif b3 then [] else [3])
def cnt4 (b0 b1 b2 b3 : Bool) : Nat := (!b0).toNat + (!b1).toNat + (!b2).toNat + (!b3).toNat
/-- Four operations that may come up in any order, each of which keeps what is told of those that came up. -/
theorem wpAny_four (J : Bool → Bool → Bool → Bool → Act → World → Prop)
    (r : ∀ b0 b1 b2 b3, (b0 && b1 && b2 && b3) = false → Region.ready .any ops #[b0, b1, b2, b3, false, false, false] = rdy4 b0 b1 b2 b3)
    (s0 : ∀ b1 b2 b3 a w, J false b1 b2 b3 a w → wpOp P ops Q 0 (fun a' w' => J true b1 b2 b3 a' w') a w)
    (s1 : ∀ b0 b2 b3 a w, J b0 false b2 b3 a w → wpOp P ops Q 1 (fun a' w' => J b0 true b2 b3 a' w') a w)
    (s2 : ∀ b0 b1 b3 a w, J b0 b1 false b3 a w → wpOp P ops Q 2 (fun a' w' => J b0 b1 true b3 a' w') a w)
    (s3 : ∀ b0 b1 b2 a w, J b0 b1 b2 false a w → wpOp P ops Q 3 (fun a' w' => J b0 b1 b2 true a' w') a w)
    (fin : ∀ a w, J true true true true a w → wpAny P .any ops Q 3 #[true, true, true, true, false, false, false] a w) :
    ∀ (n : Nat) (b0 b1 b2 b3 : Bool), n = cnt4 b0 b1 b2 b3 → ∀ a w, J b0 b1 b2 b3 a w → wpAny P .any ops Q (n + 3) #[b0, b1, b2, b3, false, false, false] a w := by
  intro n
  induction n with
  | zero =>
    intro b0 b1 b2 b3 hn a w h
    cases b0 <;> cases b1 <;> cases b2 <;> cases b3 <;> first
      | exact fin a w h
      | exact absurd hn (by decide)
  | succ n ih =>
    intro b0 b1 b2 b3 hn a w h
    have hb : (b0 && b1 && b2 && b3) = false := by
      cases b0 <;> cases b1 <;> cases b2 <;> cases b3 <;> first
        | rfl
        | (simp [cnt4] at hn)
    have hr := r b0 b1 b2 b3 hb
    refine ⟨fun h0 => ?_, fun i hi => ?_⟩
    · rw [hr] at h0
      cases b0 <;> cases b1 <;> cases b2 <;> cases b3 <;> simp [rdy4] at h0 hb
    · rw [hr] at hi
      have h4 : (i = 0 ∧ b0 = false) ∨ (i = 1 ∧ b1 = false) ∨ (i = 2 ∧ b2 = false) ∨ (i = 3 ∧ b3 = false) := by
        cases b0 <;> cases b1 <;> cases b2 <;> cases b3 <;> simp [rdy4] at hi ⊢ <;> omega
      rcases h4 with ⟨rfl, rfl⟩ | ⟨rfl, rfl⟩ | ⟨rfl, rfl⟩ | ⟨rfl, rfl⟩
      · exact wpOp_mono (fun a' w' h' => ih true b1 b2 b3 (by simp [cnt4] at hn ⊢; omega) a' w' h') (s0 b1 b2 b3 a w h)
      · exact wpOp_mono (fun a' w' h' => ih b0 true b2 b3 (by simp [cnt4] at hn ⊢; omega) a' w' h') (s1 b0 b2 b3 a w h)
      · exact wpOp_mono (fun a' w' h' => ih b0 b1 true b3 (by simp [cnt4] at hn ⊢; omega) a' w' h') (s2 b0 b1 b3 a w h)
      · exact wpOp_mono (fun a' w' h' => ih b0 b1 b2 true (by simp [cnt4] at hn ⊢; omega) a' w' h') (s3 b0 b1 b2 a w h)
end
end Go.Proofs.YtfngaoicoecncaaGreatDoor

namespace Go.Proofs.YtfngaoicoecncaaGreatDoor
open Go.RowKit Go.Maps

set_option maxRecDepth 20000 in
set_option maxHeartbeats 2000000 in
theorem givensB_any {S : Nat → Prop} (a : Option Addr) (n c : Nat) (ts : List T) (w : World) (h : KidsAt S w a n c ts) (hF : ∀ t ∈ ts, FullT t) (hb : n ≤ 2147483647) :
    Calls Tryz.prog 90 #[.slice a n c] w fun r w' => ∃ g cap vs, r = .returned (.slice (some ⟨g, 0, none⟩) n cap) ∧ vs.length = n ∧ (∀ i u, vs[i]? = some u → w'.cell? ⟨g, 0 + i, none⟩ = some u) ∧ GivesL (fun b => S b ∧ b < w.heap.size) w' vs (ts.map jFull) ∧ Ext w w' := by
  have HK := Lib.hid h
  obtain ⟨hl, hn, hm, -⟩ := h
  unfold maxLen at hm
  have HL := Lib.hid hl
  have HF := Lib.hid hF
  clear hl hF
  go_enter Tryz.func90, Tryz.ntmps90
  go_wp2_with fail
  go_loopw [3, 9] (fun v i wr => Ext w wr ∧ ∃ (j : Nat) (vs : List Value) (g cap : Nat), j ≤ n ∧ i = .int .i64 j ∧ v = .slice (some ⟨g, 0, none⟩) j cap ∧ vs.length = j ∧ OwnV 82 wr w.heap.size (.slice (some ⟨g, 0, none⟩) j cap) vs ∧ GivesL (fun b => S b ∧ b < w.heap.size) wr vs ((ts.take j).map jFull)) (fun _ i _ => n - (intOf i).toNat)
  case atStart =>
    exact ⟨by (repeat (first | exact ext_refl _ | assumption | refine ext_alloc ?_ _ | refine ext_drew ?_ | refine ext_set ?_ (by simp) _ | refine ext_trans ?_ (by assumption))), 0, [], w.heap.size, 0, Nat.zero_le _, rfl, rfl, rfl, ⟨rfl, .inr ⟨w.heap.size, 0, #[], rfl, Nat.le_refl _, Box.at rfl _ _, Nat.le_refl _, by simp [maxLen], rfl, rfl⟩⟩, GivesL.nil _ _⟩
  case round =>
    obtain ⟨hx, j, vs, g0, cap0, hj, rfl, rfl, hvl, hO, hV⟩ := hrel
    have HO := Lib.hid hO
    have HV := Lib.hid hV
    have HVL := Lib.hid hvl
    have hg0 : w.heap.size ≤ g0 ∧ g0 < wr.heap.size := World.ownsRow.lt hO g0 rfl
    clear hO hV hvl
    by_cases hlt : j < n
    · obtain ⟨t, ht⟩ := some_of_lt HL.out hlt
      obtain ⟨b, off, ⟨k, x, d, y, ka, kn, kc, ca, m, cc⟩, rfl, -, hcell, hT⟩ := HK.out.get ht
      have hcell := CellsAt.ext hx hcell
      have hSc := Lib.hid (HF.out t (List.mem_of_getElem? ht))
      have HT := Lib.hid ht
      clear ht
      obtain ⟨c0, c1, c2, c3, c4, c5⟩ := hcell
      have hG := Lib.hid (given_gives (hT.to (S' := fun b => S b ∧ b < w.heap.size) (fun b h1 hb => ⟨h1, hb⟩)) hSc.out)
      clear hT
      have hsz := hx.sz
      have tokB := trivial
      go_wp2_with (first
        | (at_builtin; have _t := tokB; clear _t tokB; refine list_append_query _ rfl _ _ rfl w.heap.size (.slice (some ⟨g0, 0, none⟩) j cap0) vs rfl ((HO.out.ext (ext_alloc (ext_refl _) _)).ext (ext_alloc (ext_refl _) _)) (wr.heap.size + 1) 0 1 1 [.iface 136 (⟨k, x, d, y, ka, kn, kc, ca, m, cc⟩ : El).val] (by simp) rfl (fun u hu => by simp at hu; subst hu; rfl) rfl (fun i f hf => by
             cases i with
             | zero => simp at hf; subst hf; exact (Box.at (by simp) _ _).cell 0 _ rfl
             | succ i => simp at hf) (by have := HVL.out; simp; omega) (by simp; omega) ?_; intro g cap w4 hown hgrow hlies hglt)
        | fail)
      have hx5 : Ext w w4 := ext_grown (ext_alloc (ext_alloc hx _) _) hgrow (fun k hk => by simp only [Value.ownBlock, Option.some.injEq] at hk; omega)
      have hkp : Keeps (fun b => S b ∧ b < w.heap.size) wr w4 := fun q hq _ => (hx5.block q hq.2).trans (hx.block q hq.2).symm
      have hs4 : wr.heap.size ≤ w4.heap.size := by have := hgrow.size; simp at this; omega
      have hV5 := Lib.hid (GivesL.append (HV.out.keep (fun _ h _ => h) hkp hs4) (GivesL.one (hG.out.keep (fun _ h _ => h) (hx5.keeps _) hx5.sz)))
      have hown2 := Lib.hid hown
      clear hown hgrow hlies hkp
      go_roundw
      case rel =>
        refine ⟨hx5, j + 1, vs ++ [.iface 136 (⟨k, x, d, y, ka, kn, kc, ca, m, cc⟩ : El).val], g, cap, by omega, by go_num, by have := HVL.out; simp [this], by simp [HVL.out], by have := HVL.out; simpa [this] using hown2.out, ?_⟩
        rw [take_snoc HT.out, List.map_append]
        exact hV5.out
      case measure => simp [intOf]; omega
    · have hjn : j = n := by omega
      subst hjn
      have hfull : ts.take j = ts := List.take_of_length_le (by have := HL.out; omega)
      have hV := HV.out
      rw [hfull] at hV
      go_wp2_with fail
      go_ret
      have hcel : ∀ i u, vs[i]? = some u → wr.cell? ⟨g0, 0 + i, none⟩ = some u := fun i u hi => by
        obtain ⟨a, c, he, q1, q2, q3⟩ := HO.out.cells (S := fun _ => True) (fun _ _ => trivial)
        cases he
        obtain ⟨b, off, e, -, hc⟩ := q3 i u hi
        cases e
        exact hc
      exact ⟨g0, _, vs, rfl, HVL.out, hcel, hV, hx⟩
/-- The clauses that a value tells. -/
def clT (t : T) : List T := if t.kind = 4 then t.kids else [t]
set_option maxRecDepth 20000 in
set_option maxHeartbeats 2000000 in
theorem clauses_any {S : Nat → Prop} (e : El) (t : T) (w : World) (h : TreeAt S w e t) (hF : ∀ k ∈ clT t, FullT k) (hb : (clT t).length ≤ 2147483647) (hp : 0 < (clT t).length) :
    Calls Tryz.prog 54 #[e.val] w fun r w' => ∃ g n cap vs, r = .returned (.slice (some ⟨g, 0, none⟩) n cap) ∧ n = (clT t).length ∧ 0 < n ∧ vs.length = n ∧ (∀ i u, vs[i]? = some u → w'.cell? ⟨g, 0 + i, none⟩ = some u) ∧ GivesL (fun b => S b ∧ b < w.heap.size) w' vs ((clT t).map jFull) ∧ Ext w w' := by
  have hk := h.parts.1
  have hkids := h.parts.2.2.2.2.2
  have HT := Lib.hid h
  obtain ⟨k, x, d, y, ka, n, kc, ca, m, cc⟩ := e
  simp only at hk
  by_cases hk4 : t.kind = 4
  · have hcl : clT t = t.kids := if_pos hk4
    rw [hcl] at hF hb hp ⊢
    have hml : t.kids.length = m := hkids.1
    have hG := Lib.hid fun w' (xx : Ext w w') => givensB_any (S := fun b => S b ∧ b < w.heap.size) ca m cc t.kids w' (KidsAt.ext xx (hkids.keep (S' := fun b => S b ∧ b < w.heap.size) (fun b hS hb => ⟨hS, hb⟩) (fun _ _ _ => rfl))) hF (by omega)
    have HM := Lib.hid hml
    rw [hk4] at hk
    subst hk
    clear h hkids HT hF hml
    simp only [El.val]
    have hx1 : Ext w (w.alloc (.cells #[.int .i64 4, .string x, .float .f64 d, .bool y, .slice ka n kc, .slice ca m cc] 26)) := ext_alloc (ext_refl _) _
    go_enter Tryz.func54, Tryz.ntmps54
    go_wp2_with (first
      | (go_at_call 90; refine (hG.out _ hx1).mono ?_; rintro r w2 ⟨g, cap, vs, rfl, hvl, hvc, hV, hx⟩)
      | fail)
    go_ret
    have hM := HM.out
    exact ⟨g, m, cap, vs, rfl, hM.symm, by omega, hvl, hvc, hV.keep (fun b hb _ => hb.1) (fun _ _ _ => rfl) (Nat.le_refl _), ext_trans hx1 hx⟩
  · have hcl : clT t = [t] := if_neg hk4
    rw [hcl] at hF hb hp ⊢
    have hG := Lib.hid (given_gives (HT.out.to (S' := fun b => S b ∧ b < w.heap.size) (fun b h1 hb => ⟨h1, hb⟩)) (hF t (by simp)))
    rw [← hk] at hk4
    clear h hkids HT hk
    simp only [El.val]
    go_enter Tryz.func54, Tryz.ntmps54
    go_wp2_with fail
    go_ret
    refine ⟨_, 1, 1, [.iface 136 (⟨k, x, d, y, ka, n, kc, ca, m, cc⟩ : El).val], rfl, rfl, by omega, rfl, fun i u hu => ?_, ?_, ext_alloc (ext_alloc (ext_refl _) _) _⟩
    · cases i with
      | zero => simp at hu; subst hu; exact (Box.at (by simp) _ _).cell 0 _ rfl
      | succ i => simp at hu
    · exact GivesL.one (hG.out.ext (ext_alloc (ext_alloc (ext_refl _) _) _))
set_option maxRecDepth 20000 in
set_option maxHeartbeats 1000000 in
theorem boolMust_any {S : Nat → Prop} (w : World) (b base : Nat) (v : Value) (vs : List Value) (z0 z2 z3 z4 z5 z6 z7 z8 : Value) (js ks : List J) (hb : Box w b #[z0, v, z2, z3, z4, z5, z6, z7, z8] 133) (hO : OwnV 82 w base v vs) (hbase : base ≤ w.heap.size) (hne : v.ownBlock ≠ some b)
    (hS : ∀ q, S q → q ≠ b ∧ v.ownBlock ≠ some q) (hG : GivesL S w vs js) (qb n c : Nat) (us : List Value) (hul : us.length = n) (hp : 0 < n) (hn : vs.length + n ≤ 4398046511104) (hc : ∀ i u, us[i]? = some u → w.cell? ⟨qb, 0 + i, none⟩ = some u) (hU : GivesL S w us ks) :
    Calls Tryz.prog 53 #[.pointer (some ⟨b, 0, none⟩), .slice (some ⟨qb, 0, none⟩) n c] w fun r w' => r = .returned (.pointer (some ⟨b, 0, none⟩)) ∧ ∃ g cap, OwnV 82 w' base (.slice (some ⟨g, 0, none⟩) (vs.length + n) cap) (vs ++ us) ∧ GivesL S w' (vs ++ us) (js ++ ks) ∧
      Box w' b #[z0, .slice (some ⟨g, 0, none⟩) (vs.length + n) cap, z2, z3, z4, z5, z6, z7, z8] 133 ∧ Lies w v g ∧ g < w'.heap.size ∧ g ≠ b ∧ w.heap.size ≤ w'.heap.size ∧ Keeps (fun q => q ≠ b ∧ v.ownBlock ≠ some q) w w' ∧ (∀ base2 v2 vs2, OwnV 82 w base2 v2 vs2 → v2.ownBlock ≠ some b → (v2.ownBlock = none ∨ v2.ownBlock ≠ v.ownBlock) → OwnV 82 w' base2 v2 vs2) ∧ ∀ w0, Ext w0 w → w0.heap.size ≤ base → w0.heap.size ≤ b → Ext w0 w' := by
  have c0 := hb.cell 1 _ rfl
  have f0 := hb.free 1
  have hl := hb.lt
  have HC := Lib.hid hc
  have HO := Lib.hid hO
  have HG := Lib.hid (GivesL.append hG hU)
  clear hc hO
  go_enter Tryz.func53, Tryz.ntmps53
  have tokC := trivial
  go_wp2_with (first
    | (at_builtin; have _t := tokC; clear _t tokC; refine list_append_query _ rfl _ _ rfl base v vs rfl HO.out qb 0 n c us (by omega) hul hU.cells rfl HC.out (by omega) hbase ?_; intro g cap w1 hown hgrow hlies hglt
       have hb1 := hb.grown hgrow (fun e => hne e.symm)
       have c1 := hb1.cell 1 _ rfl
       have f1 := hb1.free 1
       have hBl := hb1.lt)
    | fail)
  go_ret
  have hgb : g ≠ b := by
    rcases hlies with h | h
    · intro e; subst e; exact hne h
    · omega
  have hsz : w.heap.size ≤ w1.heap.size := hgrow.size
  have hk1 : Keeps (fun q => q ≠ b ∧ v.ownBlock ≠ some q) w w1 := keeps_grown hgrow (fun q hq e => hq.2 e.symm)
  have hk2 : Keeps (fun q => q ≠ b) w1 (w1.setCell ⟨b, 1, none⟩ (.slice (some ⟨g, 0, none⟩) (vs.length + us.length) cap)) := fun q hq _ => Below.heap_setCell _ _ _ _ hq
  have hk : Keeps (fun q => q ≠ b ∧ v.ownBlock ≠ some q) w (w1.setCell ⟨b, 1, none⟩ (.slice (some ⟨g, 0, none⟩) (vs.length + us.length) cap)) := fun q hq hl2 => (hk2 q hq.1 (by omega)).trans (hk1 q hq hl2)
  subst hul
  refine ⟨rfl, g, cap, OwnV.grown hown (grown_set _ _ _) (.inr (by simp only [Value.ownBlock]; exact someNe hgb)), HG.out.keep (fun _ h _ => h) (fun q hq hl2 => hk q (hS q hq) hl2) (by simp; omega), hb1.set 1 _, hlies, by simpa using hglt, hgb, by simp; omega, hk, fun base2 v2 vs2 h1 h2 h3 => OwnV.grown (OwnV.grown h1 hgrow h3) (grown_set _ _ _) (.inr h2), ?_⟩
  intro w0 hx h1 h2
  exact ext_set (ext_grown hx hgrow (fun k hk => by have := HO.out.block (g := k) hk; omega)) h2 _
set_option maxRecDepth 20000 in
set_option maxHeartbeats 1000000 in
theorem boolMustNot_any {S : Nat → Prop} (w : World) (b base : Nat) (v : Value) (vs : List Value) (z0 z1 z3 z4 z5 z6 z7 z8 : Value) (js ks : List J) (hb : Box w b #[z0, z1, v, z3, z4, z5, z6, z7, z8] 133) (hO : OwnV 82 w base v vs) (hbase : base ≤ w.heap.size) (hne : v.ownBlock ≠ some b)
    (hS : ∀ q, S q → q ≠ b ∧ v.ownBlock ≠ some q) (hG : GivesL S w vs js) (qb n c : Nat) (us : List Value) (hul : us.length = n) (hp : 0 < n) (hn : vs.length + n ≤ 4398046511104) (hc : ∀ i u, us[i]? = some u → w.cell? ⟨qb, 0 + i, none⟩ = some u) (hU : GivesL S w us ks) :
    Calls Tryz.prog 55 #[.pointer (some ⟨b, 0, none⟩), .slice (some ⟨qb, 0, none⟩) n c] w fun r w' => r = .returned (.pointer (some ⟨b, 0, none⟩)) ∧ ∃ g cap, OwnV 82 w' base (.slice (some ⟨g, 0, none⟩) (vs.length + n) cap) (vs ++ us) ∧ GivesL S w' (vs ++ us) (js ++ ks) ∧
      Box w' b #[z0, z1, .slice (some ⟨g, 0, none⟩) (vs.length + n) cap, z3, z4, z5, z6, z7, z8] 133 ∧ Lies w v g ∧ g < w'.heap.size ∧ g ≠ b ∧ w.heap.size ≤ w'.heap.size ∧ Keeps (fun q => q ≠ b ∧ v.ownBlock ≠ some q) w w' ∧ (∀ base2 v2 vs2, OwnV 82 w base2 v2 vs2 → v2.ownBlock ≠ some b → (v2.ownBlock = none ∨ v2.ownBlock ≠ v.ownBlock) → OwnV 82 w' base2 v2 vs2) ∧ ∀ w0, Ext w0 w → w0.heap.size ≤ base → w0.heap.size ≤ b → Ext w0 w' := by
  have c0 := hb.cell 2 _ rfl
  have f0 := hb.free 2
  have hl := hb.lt
  have HC := Lib.hid hc
  have HO := Lib.hid hO
  have HG := Lib.hid (GivesL.append hG hU)
  clear hc hO
  go_enter Tryz.func55, Tryz.ntmps55
  have tokC := trivial
  go_wp2_with (first
    | (at_builtin; have _t := tokC; clear _t tokC; refine list_append_query _ rfl _ _ rfl base v vs rfl HO.out qb 0 n c us (by omega) hul hU.cells rfl HC.out (by omega) hbase ?_; intro g cap w1 hown hgrow hlies hglt
       have hb1 := hb.grown hgrow (fun e => hne e.symm)
       have c1 := hb1.cell 2 _ rfl
       have f1 := hb1.free 2
       have hBl := hb1.lt)
    | fail)
  go_ret
  have hgb : g ≠ b := by
    rcases hlies with h | h
    · intro e; subst e; exact hne h
    · omega
  have hsz : w.heap.size ≤ w1.heap.size := hgrow.size
  have hk1 : Keeps (fun q => q ≠ b ∧ v.ownBlock ≠ some q) w w1 := keeps_grown hgrow (fun q hq e => hq.2 e.symm)
  have hk2 : Keeps (fun q => q ≠ b) w1 (w1.setCell ⟨b, 2, none⟩ (.slice (some ⟨g, 0, none⟩) (vs.length + us.length) cap)) := fun q hq _ => Below.heap_setCell _ _ _ _ hq
  have hk : Keeps (fun q => q ≠ b ∧ v.ownBlock ≠ some q) w (w1.setCell ⟨b, 2, none⟩ (.slice (some ⟨g, 0, none⟩) (vs.length + us.length) cap)) := fun q hq hl2 => (hk2 q hq.1 (by omega)).trans (hk1 q hq hl2)
  subst hul
  refine ⟨rfl, g, cap, OwnV.grown hown (grown_set _ _ _) (.inr (by simp only [Value.ownBlock]; exact someNe hgb)), HG.out.keep (fun _ h _ => h) (fun q hq hl2 => hk q (hS q hq) hl2) (by simp; omega), hb1.set 2 _, hlies, by simpa using hglt, hgb, by simp; omega, hk, fun base2 v2 vs2 h1 h2 h3 => OwnV.grown (OwnV.grown h1 hgrow h3) (grown_set _ _ _) (.inr h2), ?_⟩
  intro w0 hx h1 h2
  exact ext_set (ext_grown hx hgrow (fun k hk => by have := HO.out.block (g := k) hk; omega)) h2 _
set_option maxRecDepth 20000 in
set_option maxHeartbeats 1000000 in
theorem boolFilter_any {S : Nat → Prop} (w : World) (b base : Nat) (v : Value) (vs : List Value) (z0 z1 z2 z4 z5 z6 z7 z8 : Value) (js ks : List J) (hb : Box w b #[z0, z1, z2, v, z4, z5, z6, z7, z8] 133) (hO : OwnV 82 w base v vs) (hbase : base ≤ w.heap.size) (hne : v.ownBlock ≠ some b)
    (hS : ∀ q, S q → q ≠ b ∧ v.ownBlock ≠ some q) (hG : GivesL S w vs js) (qb n c : Nat) (us : List Value) (hul : us.length = n) (hp : 0 < n) (hn : vs.length + n ≤ 4398046511104) (hc : ∀ i u, us[i]? = some u → w.cell? ⟨qb, 0 + i, none⟩ = some u) (hU : GivesL S w us ks) :
    Calls Tryz.prog 57 #[.pointer (some ⟨b, 0, none⟩), .slice (some ⟨qb, 0, none⟩) n c] w fun r w' => r = .returned (.pointer (some ⟨b, 0, none⟩)) ∧ ∃ g cap, OwnV 82 w' base (.slice (some ⟨g, 0, none⟩) (vs.length + n) cap) (vs ++ us) ∧ GivesL S w' (vs ++ us) (js ++ ks) ∧
      Box w' b #[z0, z1, z2, .slice (some ⟨g, 0, none⟩) (vs.length + n) cap, z4, z5, z6, z7, z8] 133 ∧ Lies w v g ∧ g < w'.heap.size ∧ g ≠ b ∧ w.heap.size ≤ w'.heap.size ∧ Keeps (fun q => q ≠ b ∧ v.ownBlock ≠ some q) w w' ∧ (∀ base2 v2 vs2, OwnV 82 w base2 v2 vs2 → v2.ownBlock ≠ some b → (v2.ownBlock = none ∨ v2.ownBlock ≠ v.ownBlock) → OwnV 82 w' base2 v2 vs2) ∧ ∀ w0, Ext w0 w → w0.heap.size ≤ base → w0.heap.size ≤ b → Ext w0 w' := by
  have c0 := hb.cell 3 _ rfl
  have f0 := hb.free 3
  have hl := hb.lt
  have HC := Lib.hid hc
  have HO := Lib.hid hO
  have HG := Lib.hid (GivesL.append hG hU)
  clear hc hO
  go_enter Tryz.func57, Tryz.ntmps57
  have tokC := trivial
  go_wp2_with (first
    | (at_builtin; have _t := tokC; clear _t tokC; refine list_append_query _ rfl _ _ rfl base v vs rfl HO.out qb 0 n c us (by omega) hul hU.cells rfl HC.out (by omega) hbase ?_; intro g cap w1 hown hgrow hlies hglt
       have hb1 := hb.grown hgrow (fun e => hne e.symm)
       have c1 := hb1.cell 3 _ rfl
       have f1 := hb1.free 3
       have hBl := hb1.lt)
    | fail)
  go_ret
  have hgb : g ≠ b := by
    rcases hlies with h | h
    · intro e; subst e; exact hne h
    · omega
  have hsz : w.heap.size ≤ w1.heap.size := hgrow.size
  have hk1 : Keeps (fun q => q ≠ b ∧ v.ownBlock ≠ some q) w w1 := keeps_grown hgrow (fun q hq e => hq.2 e.symm)
  have hk2 : Keeps (fun q => q ≠ b) w1 (w1.setCell ⟨b, 3, none⟩ (.slice (some ⟨g, 0, none⟩) (vs.length + us.length) cap)) := fun q hq _ => Below.heap_setCell _ _ _ _ hq
  have hk : Keeps (fun q => q ≠ b ∧ v.ownBlock ≠ some q) w (w1.setCell ⟨b, 3, none⟩ (.slice (some ⟨g, 0, none⟩) (vs.length + us.length) cap)) := fun q hq hl2 => (hk2 q hq.1 (by omega)).trans (hk1 q hq hl2)
  subst hul
  refine ⟨rfl, g, cap, OwnV.grown hown (grown_set _ _ _) (.inr (by simp only [Value.ownBlock]; exact someNe hgb)), HG.out.keep (fun _ h _ => h) (fun q hq hl2 => hk q (hS q hq) hl2) (by simp; omega), hb1.set 3 _, hlies, by simpa using hglt, hgb, by simp; omega, hk, fun base2 v2 vs2 h1 h2 h3 => OwnV.grown (OwnV.grown h1 hgrow h3) (grown_set _ _ _) (.inr h2), ?_⟩
  intro w0 hx h1 h2
  exact ext_set (ext_grown hx hgrow (fun k hk => by have := HO.out.block (g := k) hk; omega)) h2 _
set_option maxRecDepth 20000 in
set_option maxHeartbeats 1000000 in
theorem boolShould_any {S : Nat → Prop} (w : World) (b base : Nat) (v : Value) (vs : List Value) (z0 z1 z2 z3 z5 z6 z7 z8 : Value) (js ks : List J) (hb : Box w b #[z0, z1, z2, z3, v, z5, z6, z7, z8] 133) (hO : OwnV 82 w base v vs) (hbase : base ≤ w.heap.size) (hne : v.ownBlock ≠ some b)
    (hS : ∀ q, S q → q ≠ b ∧ v.ownBlock ≠ some q) (hG : GivesL S w vs js) (qb n c : Nat) (us : List Value) (hul : us.length = n) (hp : 0 < n) (hn : vs.length + n ≤ 4398046511104) (hc : ∀ i u, us[i]? = some u → w.cell? ⟨qb, 0 + i, none⟩ = some u) (hU : GivesL S w us ks) :
    Calls Tryz.prog 56 #[.pointer (some ⟨b, 0, none⟩), .slice (some ⟨qb, 0, none⟩) n c] w fun r w' => r = .returned (.pointer (some ⟨b, 0, none⟩)) ∧ ∃ g cap, OwnV 82 w' base (.slice (some ⟨g, 0, none⟩) (vs.length + n) cap) (vs ++ us) ∧ GivesL S w' (vs ++ us) (js ++ ks) ∧
      Box w' b #[z0, z1, z2, z3, .slice (some ⟨g, 0, none⟩) (vs.length + n) cap, z5, z6, z7, z8] 133 ∧ Lies w v g ∧ g < w'.heap.size ∧ g ≠ b ∧ w.heap.size ≤ w'.heap.size ∧ Keeps (fun q => q ≠ b ∧ v.ownBlock ≠ some q) w w' ∧ (∀ base2 v2 vs2, OwnV 82 w base2 v2 vs2 → v2.ownBlock ≠ some b → (v2.ownBlock = none ∨ v2.ownBlock ≠ v.ownBlock) → OwnV 82 w' base2 v2 vs2) ∧ ∀ w0, Ext w0 w → w0.heap.size ≤ base → w0.heap.size ≤ b → Ext w0 w' := by
  have c0 := hb.cell 4 _ rfl
  have f0 := hb.free 4
  have hl := hb.lt
  have HC := Lib.hid hc
  have HO := Lib.hid hO
  have HG := Lib.hid (GivesL.append hG hU)
  clear hc hO
  go_enter Tryz.func56, Tryz.ntmps56
  have tokC := trivial
  go_wp2_with (first
    | (at_builtin; have _t := tokC; clear _t tokC; refine list_append_query _ rfl _ _ rfl base v vs rfl HO.out qb 0 n c us (by omega) hul hU.cells rfl HC.out (by omega) hbase ?_; intro g cap w1 hown hgrow hlies hglt
       have hb1 := hb.grown hgrow (fun e => hne e.symm)
       have c1 := hb1.cell 4 _ rfl
       have f1 := hb1.free 4
       have hBl := hb1.lt)
    | fail)
  go_ret
  have hgb : g ≠ b := by
    rcases hlies with h | h
    · intro e; subst e; exact hne h
    · omega
  have hsz : w.heap.size ≤ w1.heap.size := hgrow.size
  have hk1 : Keeps (fun q => q ≠ b ∧ v.ownBlock ≠ some q) w w1 := keeps_grown hgrow (fun q hq e => hq.2 e.symm)
  have hk2 : Keeps (fun q => q ≠ b) w1 (w1.setCell ⟨b, 4, none⟩ (.slice (some ⟨g, 0, none⟩) (vs.length + us.length) cap)) := fun q hq _ => Below.heap_setCell _ _ _ _ hq
  have hk : Keeps (fun q => q ≠ b ∧ v.ownBlock ≠ some q) w (w1.setCell ⟨b, 4, none⟩ (.slice (some ⟨g, 0, none⟩) (vs.length + us.length) cap)) := fun q hq hl2 => (hk2 q hq.1 (by omega)).trans (hk1 q hq hl2)
  subst hul
  refine ⟨rfl, g, cap, OwnV.grown hown (grown_set _ _ _) (.inr (by simp only [Value.ownBlock]; exact someNe hgb)), HG.out.keep (fun _ h _ => h) (fun q hq hl2 => hk q (hS q hq) hl2) (by simp; omega), hb1.set 4 _, hlies, by simpa using hglt, hgb, by simp; omega, hk, fun base2 v2 vs2 h1 h2 h3 => OwnV.grown (OwnV.grown h1 hgrow h3) (grown_set _ _ _) (.inr h2), ?_⟩
  intro w0 hx h1 h2
  exact ext_set (ext_grown hx hgrow (fun k hk => by have := HO.out.block (g := k) hk; omega)) h2 _
def mkQV (b : Bool) (g : Nat) : Value := bif b then .slice (some ⟨g, 0, none⟩) 0 0 else undef
def BJ (w0 w : World) (b0 b1 b2 b3 : Bool) (g0 g1 g2 g3 : Nat) : Prop :=
  Ext w0 w ∧ (b0 = true → Box w g0 #[] 82 ∧ w0.heap.size ≤ g0) ∧ (b1 = true → Box w g1 #[] 82 ∧ w0.heap.size ≤ g1) ∧ (b2 = true → Box w g2 #[] 82 ∧ w0.heap.size ≤ g2) ∧ (b3 = true → Box w g3 #[] 82 ∧ w0.heap.size ≤ g3) ∧ (b0 = true → b1 = true → g0 ≠ g1) ∧ (b0 = true → b2 = true → g0 ≠ g2) ∧ (b0 = true → b3 = true → g0 ≠ g3) ∧ (b1 = true → b2 = true → g1 ≠ g2) ∧ (b1 = true → b3 = true → g1 ≠ g3) ∧ (b2 = true → b3 = true → g2 ≠ g3)
theorem BJ.s0 {w0 w : World} {b1 b2 b3 : Bool} {g0 g1 g2 g3 : Nat} (h : BJ w0 w false b1 b2 b3 g0 g1 g2 g3) : BJ w0 (w.alloc (.cells #[] 82)) true b1 b2 b3 w.heap.size g1 g2 g3 := by
  obtain ⟨x, -, h1, h2, h3, -, -, -, d12, d13, d23⟩ := h
  exact ⟨ext_alloc x _, fun _ => ⟨Box.at rfl _ _, x.sz⟩, fun e => ⟨(h1 e).1.alloc _, (h1 e).2⟩, fun e => ⟨(h2 e).1.alloc _, (h2 e).2⟩, fun e => ⟨(h3 e).1.alloc _, (h3 e).2⟩, fun _ e => by have := (h1 e).1.lt; omega, fun _ e => by have := (h2 e).1.lt; omega, fun _ e => by have := (h3 e).1.lt; omega, d12, d13, d23⟩
theorem BJ.s1 {w0 w : World} {b0 b2 b3 : Bool} {g0 g1 g2 g3 : Nat} (h : BJ w0 w b0 false b2 b3 g0 g1 g2 g3) : BJ w0 (w.alloc (.cells #[] 82)) b0 true b2 b3 g0 w.heap.size g2 g3 := by
  obtain ⟨x, h0, -, h2, h3, -, d02, d03, -, -, d23⟩ := h
  exact ⟨ext_alloc x _, fun e => ⟨(h0 e).1.alloc _, (h0 e).2⟩, fun _ => ⟨Box.at rfl _ _, x.sz⟩, fun e => ⟨(h2 e).1.alloc _, (h2 e).2⟩, fun e => ⟨(h3 e).1.alloc _, (h3 e).2⟩, fun e _ => by have := (h0 e).1.lt; omega, d02, d03, fun _ e => by have := (h2 e).1.lt; omega, fun _ e => by have := (h3 e).1.lt; omega, d23⟩
theorem BJ.s2 {w0 w : World} {b0 b1 b3 : Bool} {g0 g1 g2 g3 : Nat} (h : BJ w0 w b0 b1 false b3 g0 g1 g2 g3) : BJ w0 (w.alloc (.cells #[] 82)) b0 b1 true b3 g0 g1 w.heap.size g3 := by
  obtain ⟨x, h0, h1, -, h3, d01, -, d03, -, d13, -⟩ := h
  exact ⟨ext_alloc x _, fun e => ⟨(h0 e).1.alloc _, (h0 e).2⟩, fun e => ⟨(h1 e).1.alloc _, (h1 e).2⟩, fun _ => ⟨Box.at rfl _ _, x.sz⟩, fun e => ⟨(h3 e).1.alloc _, (h3 e).2⟩, d01, fun e _ => by have := (h0 e).1.lt; omega, d03, fun e _ => by have := (h1 e).1.lt; omega, d13, fun _ e => by have := (h3 e).1.lt; omega⟩
theorem BJ.s3 {w0 w : World} {b0 b1 b2 : Bool} {g0 g1 g2 g3 : Nat} (h : BJ w0 w b0 b1 b2 false g0 g1 g2 g3) : BJ w0 (w.alloc (.cells #[] 82)) b0 b1 b2 true g0 g1 g2 w.heap.size := by
  obtain ⟨x, h0, h1, h2, -, d01, d02, -, d12, -, -⟩ := h
  exact ⟨ext_alloc x _, fun e => ⟨(h0 e).1.alloc _, (h0 e).2⟩, fun e => ⟨(h1 e).1.alloc _, (h1 e).2⟩, fun e => ⟨(h2 e).1.alloc _, (h2 e).2⟩, fun _ => ⟨Box.at rfl _ _, x.sz⟩, d01, d02, fun e _ => by have := (h0 e).1.lt; omega, d12, fun e _ => by have := (h1 e).1.lt; omega, fun e _ => by have := (h2 e).1.lt; omega⟩
@[go_sem] theorem mk0b (w : World) : (Instr.makeSlice 87 (.int .i64 0) (.int .i64 0)).run Tryz.prog w = .ok (.slice (some ⟨w.heap.size, 0, none⟩) 0 0) (w.alloc (.cells #[] 82)) := by kernel_rfl
set_option maxRecDepth 20000 in
set_option maxHeartbeats 4000000 in
theorem newBool_any (w : World) : Calls Tryz.prog 52 #[] w fun r w' => ∃ g0 g1 g2 g3 b, r = .returned (.pointer (some ⟨b, 0, none⟩)) ∧ BJ w w' true true true true g0 g1 g2 g3 ∧ w.heap.size ≤ b ∧ g0 < b ∧ g1 < b ∧ g2 < b ∧ g3 < b ∧
    Box w' b #[.nilIface, .slice (some ⟨g0, 0, none⟩) 0 0, .slice (some ⟨g1, 0, none⟩) 0 0, .slice (some ⟨g2, 0, none⟩) 0 0, .slice (some ⟨g3, 0, none⟩) 0 0, .pointer none, .string ⟨#[]⟩, .pointer none, .string ⟨#[]⟩] 133 := by
  go_enter Tryz.func52, Tryz.ntmps52
  go_upto_region 1 with fail
  refine wp_region_any (by kernel_rfl) ?_
  refine wpAny_four (fun b0 b1 b2 b3 a' w' => ∃ g0 g1 g2 g3, BJ w w' b0 b1 b2 b3 g0 g1 g2 g3 ∧ a' = ⟨#[.pointer none, mkQV b0 g0, mkQV b1 g1, mkQV b2 g2, mkQV b3 g3, undef, undef], []⟩)
    (by intro b0 b1 b2 b3 h; cases b0 <;> cases b1 <;> cases b2 <;> cases b3 <;> first | (exact absurd h (by decide)) | kernel_rfl) ?_ ?_ ?_ ?_ ?_ 4 false false false false rfl _ _ ⟨0, 0, 0, 0, ⟨ext_drew (ext_refl _), by simp, by simp, by simp, by simp, by simp, by simp, by simp, by simp, by simp, by simp⟩, rfl⟩
  · rintro b1 b2 b3 a' w' ⟨g0, g1, g2, g3, hM, rfl⟩
    refine op_loud rfl rfl ?_
    go_simp
    exact ⟨w'.heap.size, g1, g2, g3, hM.s0, rfl, rfl, rfl, rfl⟩
  · rintro b0 b2 b3 a' w' ⟨g0, g1, g2, g3, hM, rfl⟩
    refine op_loud rfl rfl ?_
    go_simp
    exact ⟨g0, w'.heap.size, g2, g3, hM.s1, rfl, rfl, rfl, rfl⟩
  · rintro b0 b1 b3 a' w' ⟨g0, g1, g2, g3, hM, rfl⟩
    refine op_loud rfl rfl ?_
    go_simp
    exact ⟨g0, g1, w'.heap.size, g3, hM.s2, rfl, rfl, rfl, rfl⟩
  · rintro b0 b1 b2 a' w' ⟨g0, g1, g2, g3, hM, rfl⟩
    refine op_loud rfl rfl ?_
    go_simp
    exact ⟨g0, g1, g2, w'.heap.size, hM.s3, rfl, rfl, rfl, rfl⟩
  · rintro a' w' ⟨g0, g1, g2, g3, hM, rfl⟩
    refine wpAny_of_N _ _ _ _ (wpAnyN_of_order (S := fun _ => True) (held := [4, 6]) (by kernel_rfl) (fun d _ _ _ _ h => by cases d <;> exact h) [4, 5, 6] _ _ _ (by kernel_rfl) ?_)
    have hS : (fun _ : World => True) w' := trivial
    simp only [mkQV, cond_true]
    (apply ord_held rfl rfl (by assumption) rfl; (focus ((intro w' hS'); go_simp; (try with_reducible rfl))); (try simp only [Act.put, List.setIfInBounds_toArray, List.set_cons_zero, List.set_cons_succ]))
    (apply ord_loud rfl rfl rfl; intro K hK; go_simp)
    refine hK _ _ (fun _ => trivial) ?_
    clear hK K
    (try simp only [Act.put, List.setIfInBounds_toArray, List.set_cons_zero, List.set_cons_succ])
    (apply ord_held rfl rfl (by assumption) rfl; (focus ((intro w' hS'); go_simp; (try with_reducible rfl))); (try simp only [Act.put, List.setIfInBounds_toArray, List.set_cons_zero]))
    refine ord_end ?_
    go_wp2_with fail
    go_ret
    have hM2 := hM
    obtain ⟨x, h0, h1, h2, h3, d01, d02, d03, d12, d13, d23⟩ := hM2
    have l0 := (h0 rfl).1.lt
    have l1 := (h1 rfl).1.lt
    have l2 := (h2 rfl).1.lt
    have l3 := (h3 rfl).1.lt
    refine ⟨g0, g1, g2, g3, w'.heap.size, rfl, ⟨ext_alloc x _, fun e => ⟨(h0 e).1.alloc _, (h0 e).2⟩, fun e => ⟨(h1 e).1.alloc _, (h1 e).2⟩, fun e => ⟨(h2 e).1.alloc _, (h2 e).2⟩, fun e => ⟨(h3 e).1.alloc _, (h3 e).2⟩, d01, d02, d03, d12, d13, d23⟩, x.sz, l0, l1, l2, l3, Box.at rfl _ _⟩
end Go.Proofs.YtfngaoicoecncaaGreatDoor

namespace Go.Proofs.YtfngaoicoecncaaGreatDoor
open Go.RowKit

abbrev s_q : ByteArray := ⟨#[113]⟩
/-- A query, or a list of queries. -/
def QueryP (t : T) : Prop := (t.kind = 5 ∧ ProperT t) ∨ (t.kind = 4 ∧ (∀ k ∈ t.kids, k.kind = 5 ∧ ProperT k) ∧ 0 < t.kids.length)
set_option maxRecDepth 4000 in
set_option maxHeartbeats 800000 in
theorem fit_query {S : Nat → Prop} (e : El) (t : T) (w : World) (h : TreeAt S w e t) : Calls Tryz.prog 26 #[.string s_q, e.val] w (Yes (QueryP t) w) := by
  have hk := h.parts.1
  have hkids := h.parts.2.2.2.2.2
  have hQ := Lib.hid fun w' (x : Ext w w') => query_any e t w' (h.ext x)
  obtain ⟨k, x, d, y, ka, n, kc, ca, m, cc⟩ := e
  have hQs := Lib.hid fun w' (x : Ext w w') => queries_any ca m cc t.kids w' (hkids.ext x)
  simp only at hk
  have HK := Lib.hid hk
  clear h hkids hk
  simp only [El.val] at hQ ⊢
  have hb0 : Box (w.alloc (.cells #[.int .i64 k, .string x, .float .f64 d, .bool y, .slice ka n kc, .slice ca m cc] 26)) w.heap.size _ _ := Box.at rfl _ _
  go_enter Tryz.func26, Tryz.ntmps26
  by_cases hk4 : k = 4
  · subst hk4
    go_wp2_with (first
      | (go_at_call 70; refine (hQ.out _ (by (repeat (first | exact ext_refl _ | assumption | refine ext_alloc ?_ _ | refine ext_drew ?_ | refine ext_set ?_ (by simp) _ | refine ext_trans ?_ (by assumption))))).mono ?_; rintro r w2 ⟨b, rfl, hb, hx⟩; have HB := Lib.hid hb; clear hb; obtain ⟨o0, o1, o2, o3, o4, o5⟩ := (hb0.ext hx).six; have hx1 := ext_trans (show Ext w (w.alloc (.cells #[.int .i64 4, .string x, .float .f64 d, .bool y, .slice ka n kc, .slice ca m cc] 26)) from ext_alloc (ext_refl _) _) hx; cases b)
      | (go_at_call 71; refine (hQs.out _ hx1).mono ?_; rintro r w3 ⟨b2, rfl, hb2, hx2⟩; have HB2 := Lib.hid hb2; clear hb2))
    · go_ret
      exact ⟨_, rfl, fun he => .inr ⟨HK.out.symm, HB2.out (by simpa using he)⟩, ext_trans hx1 hx2⟩
    · go_ret
      exact ⟨true, rfl, fun _ => .inl (HB.out (by trivial)), hx1⟩
  · go_wp2_with (first
      | (go_at_call 70; refine (hQ.out _ (by (repeat (first | exact ext_refl _ | assumption | refine ext_alloc ?_ _ | refine ext_drew ?_ | refine ext_set ?_ (by simp) _ | refine ext_trans ?_ (by assumption))))).mono ?_; rintro r w2 ⟨b, rfl, hb, hx⟩; have HB := Lib.hid hb; clear hb; obtain ⟨o0, o1, o2, o3, o4, o5⟩ := (hb0.ext hx).six; have hx1 := ext_trans (show Ext w (w.alloc (.cells #[.int .i64 k, .string x, .float .f64 d, .bool y, .slice ka n kc, .slice ca m cc] 26)) from ext_alloc (ext_refl _) _) hx; cases b)
      | fail)
    · go_ret
      exact ⟨false, rfl, by simp, hx1⟩
    · go_ret
      exact ⟨true, rfl, fun _ => .inl (HB.out (by trivial)), hx1⟩
def FitB (kind : ByteArray) (t : T) : Prop := (kind = s_q ∧ QueryP t) ∨ (kind ≠ s_q ∧ FitP kind t)
theorem fitB_at {S : Nat → Prop} (kind : ByteArray) (e : El) (t : T) (w : World) (hk : kind = emptyS ∨ kind = s_q ∨ kind ∈ plainK) (h : TreeAt S w e t) : Calls Tryz.prog 26 #[.string kind, e.val] w (Yes (FitB kind t) w) := by
  by_cases hq : kind = s_q
  · subst hq
    refine (fit_query e t w h).mono fun r w' ⟨b, h1, h2, h3⟩ => ⟨b, h1, fun hb => .inl ⟨rfl, h2 hb⟩, h3⟩
  · refine (fit_at kind e t w (hk.elim .inl fun hk => hk.elim (fun e => absurd e hq) .inr) h).mono fun r w' ⟨b, h1, h2, h3⟩ => ⟨b, h1, fun hb => .inr ⟨hq, h2 hb⟩, h3⟩
theorem kindB_mem {rs : List (ByteArray × ByteArray)} (h : ∀ r ∈ rs, r.2 = s_q ∨ r.2 ∈ plainK) (name : ByteArray) : kindL rs name = emptyS ∨ kindL rs name = s_q ∨ kindL rs name ∈ plainK := by
  unfold kindL
  cases hf : rs.find? fun r => seq r.1 name with
  | none => exact .inl rfl
  | some r => exact .inr (h r (List.mem_of_find?_eq_some hf))
def FitsB (rs : List (ByteArray × ByteArray)) (ps : List (ByteArray × T)) : Prop := ∀ (i : Nat) (p : ByteArray × T), ps[i]? = some p → FitB (kindL rs p.1) p.2
set_option maxHeartbeats 1000000 in
theorem fitsB_any {S : Nat → Prop} (bd : ByteArray) (rs : List (ByteArray × ByteArray)) (a : Option Addr) (n c : Nat) (ps : List (ByteArray × T)) (w : World) (hR : ∀ w, Calls Tryz.prog 73 #[.string bd] w fun r w' => ∃ v, r = .returned v ∧ Own2 w' w.heap.size v rs ∧ Ext w w')
    (hrs : ∀ r ∈ rs, (r.2 = s_q ∨ r.2 ∈ plainK)) (h : PairsAt S w a n c ps) : Calls Tryz.prog 9 #[.string bd, .slice a n c] w (Yes (FitsB rs ps) w) := by
  have HR := Lib.hid fun name w => kindIn_any bd name rs w hR
  have HRS := Lib.hid hrs
  obtain ⟨hl, hn, hm, hc⟩ := h
  unfold maxLen at hm
  have HL := Lib.hid hl
  clear hR hrs hl
  go_enter Tryz.func9, Tryz.ntmps9
  go_wp2_with fail
  go_loopw [5] (fun i wr => Ext w wr ∧ ∃ j : Nat, j ≤ n ∧ i = .int .i64 j ∧ ∀ (q : Nat) (p : ByteArray × T), q < j → ps[q]? = some p → FitB (kindL rs p.1) p.2) (fun i _ => n - (intOf i).toNat)
  case atStart => exact ⟨ext_refl _, 0, Nat.zero_le _, rfl, fun q p h => by omega⟩
  case round =>
    obtain ⟨hx, j, hj, rfl, hq⟩ := hrel
    have HQ := Lib.hid hq
    clear hq
    by_cases hlt : j < n
    · obtain ⟨p, hp⟩ := some_of_lt HL.out hlt
      obtain ⟨b, off, g, rfl, hSb, hc7, hT⟩ := hc j p hp
      have HJ := Lib.hid hp
      have hc7 := Cells7.ext hx hc7
      have hT := hT.ext hx
      clear hp
      go_upto_region 4 with fail
      refine wp_region_order (fun w' => Cells7 w' b (off + j * 7) p.1 g) [0, 1, 2, 3, 4, 5, 7, 8, 9, 10, 11] [0, 1, 2, 3, 4, 5, 7, 8, 9, 10, 11, 6, 12, 13] (by kernel_rfl) (by kernel_rfl) (fun d _ _ _ _ h => by cases d <;> exact h) (by kernel_rfl) ?_
      have hS : Cells7 wr.drew b (off + j * 7) p.1 g := hc7
      iterate 11 (apply ord_held rfl rfl (by assumption) rfl; (focus ((intro w' hS'); go_simp; (try with_reducible rfl))); (try simp only [Act.put, List.setIfInBounds_toArray, List.set_cons_zero, List.set_cons_succ]))
      (apply ord_loud rfl rfl rfl; intro K hK; go_simp)
      refine (HR.out p.1 _).mono ?_
      rintro r w2 ⟨rfl, hx2⟩
      have hx3 : Ext wr w2 := ext_trans (ext_drew (ext_refl _)) hx2
      refine hK _ _ (fun _ => Cells7.ext hx3 hc7) ?_
      clear hK K
      (try simp only [Act.put, List.setIfInBounds_toArray, List.set_cons_zero, List.set_cons_succ])
      (apply ord_loud rfl rfl rfl; intro K hK; go_simp)
      refine (fitB_at (kindL rs p.1) g p.2 _ (kindB_mem HRS.out _) (hT.ext hx3)).mono ?_
      rintro r w3 ⟨v, rfl, hv, hx4⟩
      refine hK _ _ (fun _ => Cells7.ext (ext_trans hx3 hx4) hc7) ?_
      clear hK K
      (try simp only [Act.put, List.setIfInBounds_toArray, List.set_cons_zero, List.set_cons_succ])
      (apply ord_loud rfl rfl rfl; intro K hK; go_simp)
      refine hK _ _ (fun _ => Cells7.ext (ext_trans hx3 hx4) hc7) ?_
      clear hK K
      (try simp only [Act.put, List.setIfInBounds_toArray, List.set_cons_zero, List.set_cons_succ])
      refine ord_end ?_
      have hx5 : Ext w w3 := ext_trans hx (ext_trans hx3 hx4)
      have HV := Lib.hid hv
      clear hv hS
      cases v
      · go_wp2_with fail
        go_ret
        exact ⟨false, rfl, by simp, hx5⟩
      · go_wp2_with fail
        go_roundw
        case rel =>
          refine ⟨hx5, j + 1, by omega, by go_num, fun q u h1 h2 => ?_⟩
          by_cases hqj : q < j
          · exact HQ.out q u hqj h2
          · have hqe : q = j := by omega
            subst hqe
            rw [HJ.out] at h2
            cases h2
            exact HV.out rfl
        case measure => simp [intOf]; omega
    · go_wp2_with fail
      go_ret
      refine ⟨true, rfl, fun _ i p hi => HQ.out i p ?_ hi, hx⟩
      have := (List.getElem?_eq_some_iff.1 hi).1
      have := HL.out
      omega
end Go.Proofs.YtfngaoicoecncaaGreatDoor

namespace Go.Proofs.YtfngaoicoecncaaGreatDoor
open Go.RowKit

abbrev s_bool : ByteArray := ⟨#[98, 111, 111, 108]⟩
/-- Clauses under a name: none, one alone, or a list. -/
def jQ (k : ByteArray) : List J → List (ByteArray × J)
  | [] => []
  | [j] => [(k, j)]
  | l => [(k, .list l)]
theorem jQ_none {k : ByteArray} {l : List J} (h : l.length = 0) : jQ k l = [] := by
  rw [List.length_eq_zero_iff.1 h]
  rfl
theorem jQ_one {k : ByteArray} {l : List J} {j : J} (h : l.length = 1) (hj : l[0]? = some j) : jQ k l = [(k, j)] := by
  obtain ⟨x, rfl⟩ := List.length_eq_one_iff.1 h
  simp at hj
  subst hj
  rfl
theorem jQ_many {k : ByteArray} {l : List J} {n : Nat} (h : l.length = n) (hn : 1 < n) : jQ k l = [(k, .list l)] := by
  match l, h with
  | [], h => simp at h; omega
  | [_], h => simp at h; omega
  | _ :: _ :: _, _ => rfl
theorem jQ_len (k : ByteArray) (l : List J) : (jQ k l).length ≤ 1 := by
  match l with
  | [] => simp [jQ]
  | [_] => simp [jQ]
  | _ :: _ :: _ => simp [jQ]
/-- The clauses that are told under a name. -/
def clsOf (ps : List (ByteArray × T)) (k : ByteArray) : List T := ps.flatMap fun p => if seq p.1 k = true then clT p.2 else []
/-- How many clauses there may be. -/
def clsAll (ps : List (ByteArray × T)) : Nat := (ps.map fun p => (clT p.2).length).sum
theorem clsOf_len (ps : List (ByteArray × T)) (k : ByteArray) : (clsOf ps k).length ≤ clsAll ps := by
  induction ps with
  | nil => simp [clsOf, clsAll]
  | cons p r ih =>
    have e : clsOf (p :: r) k = (if seq p.1 k = true then clT p.2 else []) ++ clsOf r k := rfl
    have e2 : clsAll (p :: r) = (clT p.2).length + clsAll r := rfl
    rw [e, e2, List.length_append]
    split
    · omega
    · simp only [List.length_nil]; omega
theorem clsAll_take (ps : List (ByteArray × T)) (j : Nat) : clsAll (ps.take j) ≤ clsAll ps := by
  induction ps generalizing j with
  | nil => simp [clsAll]
  | cons p r ih =>
    cases j with
    | zero => simp [clsAll]
    | succ j =>
      have := ih j
      simp only [clsAll, List.take_succ_cons, List.map_cons, List.sum_cons] at this ⊢
      omega
theorem cls_hit {ps : List (ByteArray × T)} {j : Nat} {p : ByteArray × T} (hp : ps[j]? = some p) {k : ByteArray} (h : seq p.1 k = true) : clsOf (ps.take (j + 1)) k = clsOf (ps.take j) k ++ clT p.2 := by
  rw [take_snoc hp]
  simp [clsOf, h]
theorem cls_miss {ps : List (ByteArray × T)} {j : Nat} {p : ByteArray × T} (hp : ps[j]? = some p) {k : ByteArray} (h : seq p.1 k = false) : clsOf (ps.take (j + 1)) k = clsOf (ps.take j) k := by
  rw [take_snoc hp]
  simp [clsOf, h]
theorem cls_other {ps : List (ByteArray × T)} {j : Nat} {p : ByteArray × T} (hp : ps[j]? = some p) {k k' : ByteArray} (h : seq p.1 k' = true) (hne : seq k' k = false) : clsOf (ps.take (j + 1)) k = clsOf (ps.take j) k :=
  cls_miss hp (by rw [seq_iff.1 h]; exact hne)
theorem cls_room {ps : List (ByteArray × T)} {j : Nat} {p : ByteArray × T} (hp : ps[j]? = some p) {k : ByteArray} (h : seq p.1 k = true) : (clsOf (ps.take j) k).length + (clT p.2).length ≤ clsAll ps := by
  have h1 := cls_hit hp h
  have h2 := clsOf_len (ps.take (j + 1)) k
  have h3 := clsAll_take ps (j + 1)
  rw [h1, List.length_append] at h2
  omega
/-- A whole number as a text. -/
def itoaT (t : T) : T := match floatToIntVal .f64 t.num .i64 with
  | some z => textT ⟨(Lib.itoa z).toArray⟩
  | none => nullT
/-- How many should match: of two settings the one that was told last. -/
def leastStep (o : Option T) (p : ByteArray × T) : Option T := bif seq p.1 s_minimum_should_match then some p.2 else bif seq p.1 s_minimum_number_should_match then some (itoaT p.2) else o
def leastOf (ps : List (ByteArray × T)) : Option T := ps.foldl leastStep none
theorem least_snoc {ps : List (ByteArray × T)} {j : Nat} {p : ByteArray × T} (hp : ps[j]? = some p) : leastOf (ps.take (j + 1)) = leastStep (leastOf (ps.take j)) p := by
  rw [take_snoc hp]
  simp [leastOf]
theorem least_text {ps : List (ByteArray × T)} {j : Nat} {p : ByteArray × T} (hp : ps[j]? = some p) (h : seq p.1 s_minimum_should_match = true) : leastOf (ps.take (j + 1)) = some p.2 := by
  rw [least_snoc hp, leastStep, h]; rfl
theorem least_num {ps : List (ByteArray × T)} {j : Nat} {p : ByteArray × T} (hp : ps[j]? = some p) (h : seq p.1 s_minimum_number_should_match = true) : leastOf (ps.take (j + 1)) = some (itoaT p.2) := by
  have h2 : seq p.1 s_minimum_should_match = false := by rw [seq_iff.1 h]; exact seq_false.2 (by decide)
  rw [least_snoc hp, leastStep, h, h2]; rfl
theorem least_miss {ps : List (ByteArray × T)} {j : Nat} {p : ByteArray × T} (hp : ps[j]? = some p) (h : seq p.1 s_minimum_should_match = false) (h2 : seq p.1 s_minimum_number_should_match = false) : leastOf (ps.take (j + 1)) = leastOf (ps.take j) := by
  rw [least_snoc hp, leastStep, h, h2]; rfl
theorem least_other {ps : List (ByteArray × T)} {j : Nat} {p : ByteArray × T} (hp : ps[j]? = some p) {k : ByteArray} (hk : seq p.1 k = true) (h : seq k s_minimum_should_match = false) (h2 : seq k s_minimum_number_should_match = false) : leastOf (ps.take (j + 1)) = leastOf (ps.take j) :=
  least_miss hp (by rw [seq_iff.1 hk]; exact h) (by rw [seq_iff.1 hk]; exact h2)
end Go.Proofs.YtfngaoicoecncaaGreatDoor

namespace Go.Proofs.YtfngaoicoecncaaGreatDoor
open Go.RowKit Go.Maps

theorem OwnV.setB {t : TypeId} {w : World} {base : Nat} {v : Value} {vs : List Value} (h : OwnV t w base v vs) {b : Nat} (hb : v.ownBlock ≠ some b) (i : Nat) (x : Value) : OwnV t (w.setCell ⟨b, i, none⟩ x) base v vs := OwnV.grown h (grown_set _ _ _) (.inr hb)
/-- A list of clauses of the call's own. -/
def Cl (h : Nat) (w : World) (V : Value) (js : List J) : Prop := ∃ vs, OwnV 82 w h V vs ∧ GivesL (fun b => b < h) w vs js
theorem Cl.ext {h : Nat} {w w' : World} {V : Value} {js : List J} (c : Cl h w V js) (x : Ext w w') : Cl h w' V js := by
  obtain ⟨vs, h1, h2⟩ := c
  exact ⟨vs, h1.ext x, h2.keep (fun _ h _ => h) (x.keeps _) x.sz⟩
theorem Cl.setB {h : Nat} {w : World} {V : Value} {js : List J} (c : Cl h w V js) {b : Nat} (hb : V.ownBlock ≠ some b) (hhb : h ≤ b) (i : Nat) (x : Value) : Cl h (w.setCell ⟨b, i, none⟩ x) V js := by
  obtain ⟨vs, h1, h2⟩ := c
  exact ⟨vs, h1.setB hb i x, h2.keep (fun _ h _ => h) (fun q hq _ => Below.heap_setCell _ _ _ _ (by simp only; omega)) (by simp)⟩
theorem Cl.block {h : Nat} {w : World} {V : Value} {js : List J} (c : Cl h w V js) {g : Nat} (hg : V.ownBlock = some g) : h ≤ g ∧ g < w.heap.size := by
  obtain ⟨vs, h1, -⟩ := c
  exact h1.block hg
theorem Cl.qs {S : Nat → Prop} {h : Nat} {w : World} {V : Value} {js : List J} (c : Cl h w V js) (hS : ∀ b, V.ownBlock = some b → S b) (hS2 : ∀ b, b < h → S b) : ∃ a m c, V = .slice a m c ∧ m = js.length ∧ QsAt S w a m c js := by
  obtain ⟨vs, h1, h2⟩ := c
  obtain ⟨a, c, e, hq⟩ := h1.qs hS (h2.keep (fun b hb _ => hS2 b hb) (fun _ _ _ => rfl) (Nat.le_refl _))
  exact ⟨a, _, c, e, h2.1, hq⟩
/-- Two lists lie in different blocks. -/
def Dj (a b : Value) : Prop := ∀ q, a.ownBlock = some q → b.ownBlock ≠ some q
theorem Dj.symm {a b : Value} (h : Dj a b) : Dj b a := fun q hq e => h q e hq
theorem Dj.no {a b : Value} (h : Dj a b) : b.ownBlock = none ∨ b.ownBlock ≠ a.ownBlock := by
  cases hb : b.ownBlock with
  | none => exact .inl rfl
  | some q => exact .inr fun e => h q e.symm hb
theorem Dj.new {h : Nat} {w : World} {a b : Value} {js : List J} {g n c : Nat} (d : Dj a b) (hc : Cl h w b js) (hl : Lies w a g) : Dj (.slice (some ⟨g, 0, none⟩) n c) b := fun q hq e => by
  simp only [Value.ownBlock, Option.some.injEq] at hq
  subst hq
  rcases hl with hl | hl
  · exact d g hl e
  · have := (hc.block e).2
    omega
def BS (h bq : Nat) (w : World) (V1 V2 V3 V4 : Value) (l1 l2 l3 l4 : List J) : Prop :=
  (Cl h w V1 l1 ∧ V1.ownBlock ≠ some bq) ∧ (Cl h w V2 l2 ∧ V2.ownBlock ≠ some bq) ∧ (Cl h w V3 l3 ∧ V3.ownBlock ≠ some bq) ∧ (Cl h w V4 l4 ∧ V4.ownBlock ≠ some bq) ∧ Dj V1 V2 ∧ Dj V1 V3 ∧ Dj V1 V4 ∧ Dj V2 V3 ∧ Dj V2 V4 ∧ Dj V3 V4
theorem BS.ext {h bq : Nat} {w w' : World} {V1 V2 V3 V4 : Value} {l1 l2 l3 l4 : List J} (b : BS h bq w V1 V2 V3 V4 l1 l2 l3 l4) (x : Ext w w') : BS h bq w' V1 V2 V3 V4 l1 l2 l3 l4 := by
  obtain ⟨⟨c1, n1⟩, ⟨c2, n2⟩, ⟨c3, n3⟩, ⟨c4, n4⟩, d12, d13, d14, d23, d24, d34⟩ := b
  exact ⟨⟨c1.ext x, n1⟩, ⟨c2.ext x, n2⟩, ⟨c3.ext x, n3⟩, ⟨c4.ext x, n4⟩, d12, d13, d14, d23, d24, d34⟩
theorem BS.setB {h bq : Nat} {w : World} {V1 V2 V3 V4 : Value} {l1 l2 l3 l4 : List J} (b : BS h bq w V1 V2 V3 V4 l1 l2 l3 l4) (hh : h ≤ bq) (i : Nat) (x : Value) : BS h bq (w.setCell ⟨bq, i, none⟩ x) V1 V2 V3 V4 l1 l2 l3 l4 := by
  obtain ⟨⟨c1, n1⟩, ⟨c2, n2⟩, ⟨c3, n3⟩, ⟨c4, n4⟩, d12, d13, d14, d23, d24, d34⟩ := b
  exact ⟨⟨c1.setB n1 hh i x, n1⟩, ⟨c2.setB n2 hh i x, n2⟩, ⟨c3.setB n3 hh i x, n3⟩, ⟨c4.setB n4 hh i x, n4⟩, d12, d13, d14, d23, d24, d34⟩
/-- Neither the query nor one of its lists. -/
def OffB (bq : Nat) (V1 V2 V3 V4 : Value) (q : Nat) : Prop := q ≠ bq ∧ V1.ownBlock ≠ some q ∧ V2.ownBlock ≠ some q ∧ V3.ownBlock ≠ some q ∧ V4.ownBlock ≠ some q
theorem BS.fresh {h bq : Nat} {w : World} {V1 V2 V3 V4 : Value} {l1 l2 l3 l4 : List J} (b : BS h bq w V1 V2 V3 V4 l1 l2 l3 l4) (hb : bq < w.heap.size) {q : Nat} (hq : w.heap.size ≤ q) : OffB bq V1 V2 V3 V4 q := by
  obtain ⟨⟨c1, n1⟩, ⟨c2, n2⟩, ⟨c3, n3⟩, ⟨c4, n4⟩, d12, d13, d14, d23, d24, d34⟩ := b
  exact ⟨by omega, fun e => by have := (c1.block e).2; omega, fun e => by have := (c2.block e).2; omega, fun e => by have := (c3.block e).2; omega, fun e => by have := (c4.block e).2; omega⟩
theorem BS.low {h bq : Nat} {w : World} {V1 V2 V3 V4 : Value} {l1 l2 l3 l4 : List J} (b : BS h bq w V1 V2 V3 V4 l1 l2 l3 l4) (hh : h ≤ bq) {q : Nat} (hq : q < h) : OffB bq V1 V2 V3 V4 q := by
  obtain ⟨⟨c1, n1⟩, ⟨c2, n2⟩, ⟨c3, n3⟩, ⟨c4, n4⟩, d12, d13, d14, d23, d24, d34⟩ := b
  exact ⟨by omega, fun e => by have := (c1.block e).1; omega, fun e => by have := (c2.block e).1; omega, fun e => by have := (c3.block e).1; omega, fun e => by have := (c4.block e).1; omega⟩
theorem BS.push1 {h bq : Nat} {w w' : World} {V1 V2 V3 V4 : Value} {l1 l2 l3 l4 : List J} {g n c : Nat} {zs : List Value} {ks : List J} (b : BS h bq w V1 V2 V3 V4 l1 l2 l3 l4) (hh : h ≤ bq) (hO : OwnV 82 w' h (.slice (some ⟨g, 0, none⟩) n c) zs) (hG : GivesL (fun b => b < h) w' zs (l1 ++ ks)) (hl : Lies w V1 g) (hg : g ≠ bq)
    (hk : ∀ v2 vs2, OwnV 82 w h v2 vs2 → v2.ownBlock ≠ some bq → (v2.ownBlock = none ∨ v2.ownBlock ≠ V1.ownBlock) → OwnV 82 w' h v2 vs2) (hkp : Keeps (fun q => q ≠ bq ∧ V1.ownBlock ≠ some q) w w') (hsz : w.heap.size ≤ w'.heap.size) : BS h bq w' (.slice (some ⟨g, 0, none⟩) n c) V2 V3 V4 (l1 ++ ks) l2 l3 l4 := by
  obtain ⟨⟨c1, n1⟩, ⟨c2, n2⟩, ⟨c3, n3⟩, ⟨c4, n4⟩, d12, d13, d14, d23, d24, d34⟩ := b
  have hkp2 : Keeps (fun q => q < h) w w' := fun q hq hl2 => hkp q ⟨by omega, fun e => by have := (c1.block e).1; omega⟩ hl2
  have hc : ∀ {U : Value} {js : List J}, Cl h w U js → U.ownBlock ≠ some bq → Dj V1 U → Cl h w' U js := fun {U js} c nU d => by
    obtain ⟨vs2, h1, h2⟩ := c
    exact ⟨vs2, hk U vs2 h1 nU d.no, h2.keep (fun _ h _ => h) hkp2 hsz⟩
  exact ⟨⟨⟨zs, hO, hG⟩, by simp only [Value.ownBlock]; exact someNe hg⟩, ⟨hc c2 n2 (d12), n2⟩, ⟨hc c3 n3 (d13), n3⟩, ⟨hc c4 n4 (d14), n4⟩, Dj.new d12 c2 hl, Dj.new d13 c3 hl, Dj.new d14 c4 hl, d23, d24, d34⟩
theorem OffB.push1 {bq : Nat} {w : World} {V1 V2 V3 V4 : Value} {g n c q : Nat} (h : OffB bq V1 V2 V3 V4 q) (hq : q < w.heap.size) (hl : Lies w V1 g) : OffB bq (.slice (some ⟨g, 0, none⟩) n c) V2 V3 V4 q := by
  obtain ⟨h0, h1, h2, h3, h4⟩ := h
  have hn : (Value.slice (some ⟨g, 0, none⟩) n c).ownBlock ≠ some q := fun e => by
    simp only [Value.ownBlock, Option.some.injEq] at e
    subst e
    rcases hl with hl | hl
    · exact h1 hl
    · omega
  exact ⟨h0, hn, h2, h3, h4⟩
theorem BS.push2 {h bq : Nat} {w w' : World} {V1 V2 V3 V4 : Value} {l1 l2 l3 l4 : List J} {g n c : Nat} {zs : List Value} {ks : List J} (b : BS h bq w V1 V2 V3 V4 l1 l2 l3 l4) (hh : h ≤ bq) (hO : OwnV 82 w' h (.slice (some ⟨g, 0, none⟩) n c) zs) (hG : GivesL (fun b => b < h) w' zs (l2 ++ ks)) (hl : Lies w V2 g) (hg : g ≠ bq)
    (hk : ∀ v2 vs2, OwnV 82 w h v2 vs2 → v2.ownBlock ≠ some bq → (v2.ownBlock = none ∨ v2.ownBlock ≠ V2.ownBlock) → OwnV 82 w' h v2 vs2) (hkp : Keeps (fun q => q ≠ bq ∧ V2.ownBlock ≠ some q) w w') (hsz : w.heap.size ≤ w'.heap.size) : BS h bq w' V1 (.slice (some ⟨g, 0, none⟩) n c) V3 V4 l1 (l2 ++ ks) l3 l4 := by
  obtain ⟨⟨c1, n1⟩, ⟨c2, n2⟩, ⟨c3, n3⟩, ⟨c4, n4⟩, d12, d13, d14, d23, d24, d34⟩ := b
  have hkp2 : Keeps (fun q => q < h) w w' := fun q hq hl2 => hkp q ⟨by omega, fun e => by have := (c2.block e).1; omega⟩ hl2
  have hc : ∀ {U : Value} {js : List J}, Cl h w U js → U.ownBlock ≠ some bq → Dj V2 U → Cl h w' U js := fun {U js} c nU d => by
    obtain ⟨vs2, h1, h2⟩ := c
    exact ⟨vs2, hk U vs2 h1 nU d.no, h2.keep (fun _ h _ => h) hkp2 hsz⟩
  exact ⟨⟨hc c1 n1 (d12.symm), n1⟩, ⟨⟨zs, hO, hG⟩, by simp only [Value.ownBlock]; exact someNe hg⟩, ⟨hc c3 n3 (d23), n3⟩, ⟨hc c4 n4 (d24), n4⟩, (Dj.new d12.symm c1 hl).symm, d13, d14, Dj.new d23 c3 hl, Dj.new d24 c4 hl, d34⟩
theorem OffB.push2 {bq : Nat} {w : World} {V1 V2 V3 V4 : Value} {g n c q : Nat} (h : OffB bq V1 V2 V3 V4 q) (hq : q < w.heap.size) (hl : Lies w V2 g) : OffB bq V1 (.slice (some ⟨g, 0, none⟩) n c) V3 V4 q := by
  obtain ⟨h0, h1, h2, h3, h4⟩ := h
  have hn : (Value.slice (some ⟨g, 0, none⟩) n c).ownBlock ≠ some q := fun e => by
    simp only [Value.ownBlock, Option.some.injEq] at e
    subst e
    rcases hl with hl | hl
    · exact h2 hl
    · omega
  exact ⟨h0, h1, hn, h3, h4⟩
theorem BS.push3 {h bq : Nat} {w w' : World} {V1 V2 V3 V4 : Value} {l1 l2 l3 l4 : List J} {g n c : Nat} {zs : List Value} {ks : List J} (b : BS h bq w V1 V2 V3 V4 l1 l2 l3 l4) (hh : h ≤ bq) (hO : OwnV 82 w' h (.slice (some ⟨g, 0, none⟩) n c) zs) (hG : GivesL (fun b => b < h) w' zs (l3 ++ ks)) (hl : Lies w V3 g) (hg : g ≠ bq)
    (hk : ∀ v2 vs2, OwnV 82 w h v2 vs2 → v2.ownBlock ≠ some bq → (v2.ownBlock = none ∨ v2.ownBlock ≠ V3.ownBlock) → OwnV 82 w' h v2 vs2) (hkp : Keeps (fun q => q ≠ bq ∧ V3.ownBlock ≠ some q) w w') (hsz : w.heap.size ≤ w'.heap.size) : BS h bq w' V1 V2 (.slice (some ⟨g, 0, none⟩) n c) V4 l1 l2 (l3 ++ ks) l4 := by
  obtain ⟨⟨c1, n1⟩, ⟨c2, n2⟩, ⟨c3, n3⟩, ⟨c4, n4⟩, d12, d13, d14, d23, d24, d34⟩ := b
  have hkp2 : Keeps (fun q => q < h) w w' := fun q hq hl2 => hkp q ⟨by omega, fun e => by have := (c3.block e).1; omega⟩ hl2
  have hc : ∀ {U : Value} {js : List J}, Cl h w U js → U.ownBlock ≠ some bq → Dj V3 U → Cl h w' U js := fun {U js} c nU d => by
    obtain ⟨vs2, h1, h2⟩ := c
    exact ⟨vs2, hk U vs2 h1 nU d.no, h2.keep (fun _ h _ => h) hkp2 hsz⟩
  exact ⟨⟨hc c1 n1 (d13.symm), n1⟩, ⟨hc c2 n2 (d23.symm), n2⟩, ⟨⟨zs, hO, hG⟩, by simp only [Value.ownBlock]; exact someNe hg⟩, ⟨hc c4 n4 (d34), n4⟩, d12, (Dj.new d13.symm c1 hl).symm, d14, (Dj.new d23.symm c2 hl).symm, d24, Dj.new d34 c4 hl⟩
theorem OffB.push3 {bq : Nat} {w : World} {V1 V2 V3 V4 : Value} {g n c q : Nat} (h : OffB bq V1 V2 V3 V4 q) (hq : q < w.heap.size) (hl : Lies w V3 g) : OffB bq V1 V2 (.slice (some ⟨g, 0, none⟩) n c) V4 q := by
  obtain ⟨h0, h1, h2, h3, h4⟩ := h
  have hn : (Value.slice (some ⟨g, 0, none⟩) n c).ownBlock ≠ some q := fun e => by
    simp only [Value.ownBlock, Option.some.injEq] at e
    subst e
    rcases hl with hl | hl
    · exact h3 hl
    · omega
  exact ⟨h0, h1, h2, hn, h4⟩
theorem BS.push4 {h bq : Nat} {w w' : World} {V1 V2 V3 V4 : Value} {l1 l2 l3 l4 : List J} {g n c : Nat} {zs : List Value} {ks : List J} (b : BS h bq w V1 V2 V3 V4 l1 l2 l3 l4) (hh : h ≤ bq) (hO : OwnV 82 w' h (.slice (some ⟨g, 0, none⟩) n c) zs) (hG : GivesL (fun b => b < h) w' zs (l4 ++ ks)) (hl : Lies w V4 g) (hg : g ≠ bq)
    (hk : ∀ v2 vs2, OwnV 82 w h v2 vs2 → v2.ownBlock ≠ some bq → (v2.ownBlock = none ∨ v2.ownBlock ≠ V4.ownBlock) → OwnV 82 w' h v2 vs2) (hkp : Keeps (fun q => q ≠ bq ∧ V4.ownBlock ≠ some q) w w') (hsz : w.heap.size ≤ w'.heap.size) : BS h bq w' V1 V2 V3 (.slice (some ⟨g, 0, none⟩) n c) l1 l2 l3 (l4 ++ ks) := by
  obtain ⟨⟨c1, n1⟩, ⟨c2, n2⟩, ⟨c3, n3⟩, ⟨c4, n4⟩, d12, d13, d14, d23, d24, d34⟩ := b
  have hkp2 : Keeps (fun q => q < h) w w' := fun q hq hl2 => hkp q ⟨by omega, fun e => by have := (c4.block e).1; omega⟩ hl2
  have hc : ∀ {U : Value} {js : List J}, Cl h w U js → U.ownBlock ≠ some bq → Dj V4 U → Cl h w' U js := fun {U js} c nU d => by
    obtain ⟨vs2, h1, h2⟩ := c
    exact ⟨vs2, hk U vs2 h1 nU d.no, h2.keep (fun _ h _ => h) hkp2 hsz⟩
  exact ⟨⟨hc c1 n1 (d14.symm), n1⟩, ⟨hc c2 n2 (d24.symm), n2⟩, ⟨hc c3 n3 (d34.symm), n3⟩, ⟨⟨zs, hO, hG⟩, by simp only [Value.ownBlock]; exact someNe hg⟩, d12, d13, (Dj.new d14.symm c1 hl).symm, d23, (Dj.new d24.symm c2 hl).symm, (Dj.new d34.symm c3 hl).symm⟩
theorem OffB.push4 {bq : Nat} {w : World} {V1 V2 V3 V4 : Value} {g n c q : Nat} (h : OffB bq V1 V2 V3 V4 q) (hq : q < w.heap.size) (hl : Lies w V4 g) : OffB bq V1 V2 V3 (.slice (some ⟨g, 0, none⟩) n c) q := by
  obtain ⟨h0, h1, h2, h3, h4⟩ := h
  have hn : (Value.slice (some ⟨g, 0, none⟩) n c).ownBlock ≠ some q := fun e => by
    simp only [Value.ownBlock, Option.some.injEq] at e
    subst e
    rcases hl with hl | hl
    · exact h4 hl
    · omega
  exact ⟨h0, h1, h2, h3, hn⟩
theorem BS.qs {h bq : Nat} {w : World} {V1 V2 V3 V4 : Value} {l1 l2 l3 l4 : List J} (b : BS h bq w V1 V2 V3 V4 l1 l2 l3 l4) (hh : h ≤ bq) : (∃ a m c, V1 = .slice a m c ∧ m = l1.length ∧ QsAt (fun q => q ≠ bq) w a m c l1) ∧ (∃ a m c, V2 = .slice a m c ∧ m = l2.length ∧ QsAt (fun q => q ≠ bq) w a m c l2) ∧ (∃ a m c, V3 = .slice a m c ∧ m = l3.length ∧ QsAt (fun q => q ≠ bq) w a m c l3) ∧ (∃ a m c, V4 = .slice a m c ∧ m = l4.length ∧ QsAt (fun q => q ≠ bq) w a m c l4) := by
  obtain ⟨⟨c1, n1⟩, ⟨c2, n2⟩, ⟨c3, n3⟩, ⟨c4, n4⟩, d12, d13, d14, d23, d24, d34⟩ := b
  exact ⟨c1.qs (fun q hq e => n1 (by rw [hq, e])) (fun q hq => by omega), c2.qs (fun q hq e => n2 (by rw [hq, e])) (fun q hq => by omega), c3.qs (fun q hq e => n3 (by rw [hq, e])) (fun q hq => by omega), c4.qs (fun q hq e => n4 (by rw [hq, e])) (fun q hq => by omega)⟩
/-- The table of powers of ten as it is laid, in every later world. -/
def TenAt (w : World) : Prop := ∀ w', Ext w w' → Lib.TabIs Tryz.prog w' "internal/strconv.uint64pow10" .u64 Lib.pow10Tab
theorem TenAt.ext {w w' : World} (h : TenAt w) (x : Ext w w') : TenAt w' := fun w2 y => h w2 (ext_trans x y)
theorem int_bounds {d : Nat} {z : Int} (h : floatToIntVal .f64 d .i64 = some z) : -9223372036854775808 ≤ z ∧ z ≤ 9223372036854775807 := by
  unfold floatToIntVal at h
  have e1 : IntKind.i64.min = -9223372036854775808 := by decide
  have e2 : IntKind.i64.max = 9223372036854775807 := by decide
  rw [e1, e2] at h
  split at h
  · split at h
    · cases h; assumption
    · cases h
  · cases h
end Go.Proofs.YtfngaoicoecncaaGreatDoor

namespace Go.Proofs.YtfngaoicoecncaaGreatDoor
open Go.RowKit

def boolJ (ps : List (ByteArray × T)) : List (ByteArray × J) := jQ s_must ((clsOf ps s_must).map jFull) ++ jQ s_must_not ((clsOf ps s_must_not).map jFull) ++ jQ s_filter ((clsOf ps s_filter).map jFull) ++ jQ s_should ((clsOf ps s_should).map jFull) ++ jN s_boost (lastOf ps s_boost) ++ jT s_minimum_should_match (leastOf ps) ++ jY s_adjust_pure_negative (lastOf ps s_adjust_pure_negative) ++ jT s_name (lastOf ps s_name)
def ClauseP (ps : List (ByteArray × T)) : Prop := ∀ p ∈ ps, ∀ k ∈ [s_must, s_must_not, s_filter, s_should], seq p.1 k = true → (∀ t ∈ clT p.2, FullT t) ∧ 0 < (clT p.2).length
def LeastP (ps : List (ByteArray × T)) : Prop := ∀ p ∈ ps, seq p.1 s_minimum_number_should_match = true → ∃ z, floatToIntVal .f64 p.2.num .i64 = some z
theorem least_itoa {t : T} {z : Int} (h : floatToIntVal .f64 t.num .i64 = some z) : fT (some (itoaT t)) = ⟨(Lib.itoa z).toArray⟩ := by
  simp only [fT, itoaT, h]
  rfl
end Go.Proofs.YtfngaoicoecncaaGreatDoor

namespace Go.Proofs.YtfngaoicoecncaaGreatDoor
open Go.RowKit

set_option maxRecDepth 20000 in
set_option maxHeartbeats 4000000 in
theorem bool_src {S : Nat → Prop} (w : World) (bq : Nat) (uma : Option Addr) (umn umc : Nat) (um : List J) (hum : QsAt S w uma umn umc um) (humb : umn ≤ 4294967294) (uxa : Option Addr) (uxn uxc : Nat) (ux : List J) (hux : QsAt S w uxa uxn uxc ux) (huxb : uxn ≤ 4294967294) (ufa : Option Addr) (ufn ufc : Nat) (uf : List J) (huf : QsAt S w ufa ufn ufc uf) (hufb : ufn ≤ 4294967294) (uza : Option Addr) (uzn uzc : Nat) (uz : List J) (huz : QsAt S w uza uzn uzc uz) (huzb : uzn ≤ 4294967294) (v5 : Option Addr) (o5 : Option T) (h5 : FN S w v5 o5) (v6 : ByteArray) (o6 : Option T) (h6 : v6 = fT o6) (v7 : Option Addr) (o7 : Option T) (h7 : FY S w v7 o7) (v8 : ByteArray) (o8 : Option T) (h8 : v8 = fT o8) (hbq : Box w bq #[.nilIface, .slice uma umn umc, .slice uxa uxn uxc, .slice ufa ufn ufc, .slice uza uzn uzc, .pointer v5, .string v6, .pointer v7, .string v8] 133) :
    Calls Tryz.prog 63 #[.pointer (some ⟨bq, 0, none⟩)] w fun r w' => ∃ v, r = .returned (.tuple #[v, .nilIface]) ∧ JAt (fun b => w.heap.size ≤ b) w' v (jMap [(s_bool, jMap (jQ s_must um ++ jQ s_must_not ux ++ jQ s_filter uf ++ jQ s_should uz ++ jN s_boost (o5) ++ jT s_minimum_should_match (o6) ++ jY s_adjust_pure_negative (o7) ++ jT s_name (o8)))]) ∧ Ext w w' := by
  have tok0 := trivial
  have hblt := hbq.lt
  have H5 := Lib.hid h5
  have H6 := Lib.hid h6
  have H7 := Lib.hid h7
  have H8 := Lib.hid h8
  clear h5 h6 h7 h8
  have Hum := Lib.hid hum
  clear hum
  have Hux := Lib.hid hux
  clear hux
  have Huf := Lib.hid huf
  clear huf
  have Huz := Lib.hid huz
  clear huz
  go_enter Tryz.func63, Tryz.ntmps63
  go_upto_if 44 with (first
    | (at_mapUpdate; have _t := tok0; refine wp_put _ rfl _ _ _ 109 rfl 20 Tryz.underlying109 w.heap.size [] rfl ((MapAt.at (by simp)).alloc _) (by simp [maxLen]) s_bool rfl (by decide) _ rfl ?_; intro w1 hm hg; clear tok0
       have hx1 : Ext w w1 := ext_put (ext_alloc (ext_alloc (ext_refl _) _) _) hg (by omega)
       have hl0_1 := hm
       have hs0_1 := hl0_1.lt
       have hl1_1 : MapAt w1 (w.heap.size + 1) [] := (MapAt.at (by simp)).grown hg (someNe (by omega))
       have hs1_1 := hl1_1.lt
       have hb1 := hbq.ext hx1
       have hc0 := hb1.cell 0 _ rfl
       have hc1 := hb1.cell 1 _ rfl
       have hc2 := hb1.cell 2 _ rfl
       have hc3 := hb1.cell 3 _ rfl
       have hc4 := hb1.cell 4 _ rfl
       have hc5 := hb1.cell 5 _ rfl
       have hc6 := hb1.cell 6 _ rfl
       have hc7 := hb1.cell 7 _ rfl
       have hc8 := hb1.cell 8 _ rfl
       clear hg hm)
    | fail)
  have hx0 : Ext w w1 := hx1
  have hm0 : MapAt w1 w.heap.size [(s_bool, .iface 109 (.map (some (w.heap.size + 1))))] := hl0_1
  have hm1 : MapAt w1 (w.heap.size + 1) [] := hl1_1
  have hz0 := hm0.lt
  have hz1 := hm1.lt
  have hne0 : w.heap.size ≠ (w.heap.size + 1) := by omega
  have hw1 : w.heap.size ≤ (w.heap.size + 1) := by have := hx0.sz; omega
  have hp0 : PJ (fun b => w.heap.size + 1 < b) w1 [] (([] : List (ByteArray × J))) := PJ.nil _ _
  go_cut [] (fun wc => Ext w wc ∧ MapAt wc w.heap.size [(s_bool, .iface 109 (.map (some (w.heap.size + 1))))] ∧ ∃ rp, rp.length ≤ 1 ∧ MapAt wc (w.heap.size + 1) rp ∧ PJ (fun b => w.heap.size + 1 < b) wc rp (jQ s_must um))
  case first => as_aux_lemma =>
    rcases Nat.lt_trichotomy umn 1 with hE | hE | hE
    · obtain rfl : umn = 0 := by omega
      go_wp2_with fail
      go_meet
      case rel =>
        refine ⟨hx0, hm0, [], by simp, hm1, ?_⟩
        rw [jQ_none (k := s_must) (QsAt.len Hum.out)]
        exact hp0
    · subst hE
      obtain ⟨qvs, hvl, hvc, hvm, hvcell, hvG⟩ := Hum.out
      obtain ⟨qq, hqq⟩ := some_of_lt hvl (show 0 < 1 by omega)
      obtain ⟨jj, hjj⟩ := some_of_lt (l := um) rfl (show 0 < um.length by have := hvG.1; omega)
      obtain ⟨qb, qo, hqa, -, hqc⟩ := hvcell 0 qq hqq
      have hqc := hx0.cell hqc
      have hqc0 := hqc
      rw [Nat.add_zero] at hqc0
      obtain ⟨qty, qx, qf, hqe, hqm, hqm2, hqC⟩ := hvG.2 0 qq jj hqq hjj
      have HQC := Lib.hid hqC
      have hE1 := jQ_one (k := s_must) (QsAt.len Hum.out) hjj
      have HE1 := Lib.hid hE1
      clear hqC hjj hqq hvcell hvG hvl hE1
      subst hqe hqa
      have hsn := hm1.lt
      go_wp2_with (first
        | ((with_reducible show Calls _ qf _ _ _); refine (HQC.out _ (Ext.keeps (ext_trans hx0 (by (repeat (first | exact ext_refl _ | assumption | refine ext_alloc ?_ _ | refine ext_drew ?_ | refine ext_set ?_ (by simp) _ | refine ext_trans ?_ (by assumption))))) _) (Ext.sz (ext_trans hx0 (by (repeat (first | exact ext_refl _ | assumption | refine ext_alloc ?_ _ | refine ext_drew ?_ | refine ext_set ?_ (by simp) _ | refine ext_trans ?_ (by assumption))))))).mono ?_; rintro r ws ⟨jty, jx, rfl, hJs, hxs⟩
           have hxt : Ext w ws := ext_trans hx0 (ext_trans (by (repeat (first | exact ext_refl _ | assumption | refine ext_alloc ?_ _ | refine ext_drew ?_ | refine ext_set ?_ (by simp) _ | refine ext_trans ?_ (by assumption)))) hxs)
           have hmt0 := MapAt.ext hm0 (ext_trans (by (repeat (first | exact ext_refl _ | assumption | refine ext_alloc ?_ _ | refine ext_drew ?_ | refine ext_set ?_ (by simp) _ | refine ext_trans ?_ (by assumption)))) hxs)
           have hnt := MapAt.ext hm1 (ext_trans (by (repeat (first | exact ext_refl _ | assumption | refine ext_alloc ?_ _ | refine ext_drew ?_ | refine ext_set ?_ (by simp) _ | refine ext_trans ?_ (by assumption)))) hxs)
           have hpt := hp0.keep (S' := (fun b => w.heap.size + 1 < b)) (fun _ h _ => h) (Ext.keeps (ext_trans (by (repeat (first | exact ext_refl _ | assumption | refine ext_alloc ?_ _ | refine ext_drew ?_ | refine ext_set ?_ (by simp) _ | refine ext_trans ?_ (by assumption)))) hxs) _)
           have hJs := hJs.to (S' := (fun b => w.heap.size + 1 < b)) (fun b hb _ => by (try simp at hb); omega)
           have hbs := hbq.ext hxt
           have hc0 := hbs.cell 0 _ rfl
           have hc1 := hbs.cell 1 _ rfl
           have hc2 := hbs.cell 2 _ rfl
           have hc3 := hbs.cell 3 _ rfl
           have hc4 := hbs.cell 4 _ rfl
           have hc5 := hbs.cell 5 _ rfl
           have hc6 := hbs.cell 6 _ rfl
           have hc7 := hbs.cell 7 _ rfl
           have hc8 := hbs.cell 8 _ rfl)
        | (at_mapUpdate; refine wp_put _ rfl _ _ _ 109 rfl 20 Tryz.underlying109 (w.heap.size + 1) [] rfl hnt (by simp [maxLen]) s_must rfl (by decide) _ rfl ?_; intro wn hnn hgn)
        | fail)
      go_meet
      case rel =>
        have hxn := ext_put hxt hgn (by omega)
        refine ⟨hxn, hmt0.grown hgn (someNe hne0), _, ?_, hnn, ?_⟩
        · rw [List.length_append]; exact Nat.succ_le_succ (by simp)
        · rw [HE1.out]
          have hk9 : Keeps (fun b => w.heap.size + 1 < b) ws wn := keeps_grown hgn (fun b hb e => by simp only [Option.some.injEq] at e; omega)
          exact PJ.snoc (hpt.keep (fun _ h _ => h) hk9) (JAt.keep (fun _ h _ => h) hk9 _ hJs)
    · have hE1b : ((umn : Int) == 1) = false := by rw [beq_eq_false_iff_ne]; omega
      go_wp2_with fail
      have hE2b : decide ((1 : Int) < (umn : Int)) = true := by rw [decide_eq_true_eq]; omega
      try simp only [hE1b]
      try simp only [hE2b]
      obtain ⟨qvs, hvl, hvc, hvm, hvcell, hvG⟩ := Hum.out.ext hx0
      have HVL := Lib.hid hvl
      have HVC := Lib.hid hvcell
      have HVG := Lib.hid hvG
      clear hvl hvcell hvG
      go_loopw [8, 71] (fun v i wr => Ext w1 wr ∧ ∃ (j : Nat) (us : List Value) (vv : Value), vv = v ∧ j ≤ umn ∧ i = .int .i64 j ∧ us.length = j ∧ OwnAny wr w1.heap.size vv us ∧ (∀ x ∈ us, x.oneCell' = true) ∧ JsAt (fun b => w1.heap.size ≤ b ∧ vv.ownBlock ≠ some b) wr us (um.take j)) (fun _ i _ => umn - (intOf i).toNat)
      case atStart => exact ⟨ext_refl _, 0, [], _, rfl, Nat.zero_le _, rfl, rfl, ⟨rfl, .inl ⟨rfl, rfl⟩⟩, fun x hx => by simp at hx, by simp [JsAt]⟩
      case round =>
        obtain ⟨hxr, j, us, vv, hve, hj, rfl, hul, hO, h1, hV⟩ := hrel
        subst hve
        have HO := Lib.hid hO
        have HV := Lib.hid hV
        have HUL := Lib.hid hul
        have H1 := Lib.hid h1
        clear hO hV hul h1
        by_cases hlt : j < umn
        case pos =>
          obtain ⟨qq, hqq⟩ := some_of_lt HVL.out hlt
          obtain ⟨jj, hjj⟩ := some_of_lt (l := um) rfl (show j < um.length by have h2 := HVG.out.1; have h3 := HVL.out; omega)
          obtain ⟨qb, qo, hqa, -, hqc⟩ := HVC.out j qq hqq
          have hqc := hxr.cell hqc
          obtain ⟨qty, qx, qf, hqe, hqm, hqm2, hqC⟩ := (HVG.out.2 j qq jj hqq hjj).ext hxr
          have HT := Lib.hid hjj
          have HQC := Lib.hid hqC
          clear hqC hjj hqq
          subst hqe hqa
          have hszr := hxr.sz
          have tokB := trivial
          go_wp2_with (first
            | ((with_reducible show Calls _ qf _ _ _); refine (HQC.out _ (Ext.keeps (by (repeat (first | exact ext_refl _ | assumption | refine ext_alloc ?_ _ | refine ext_drew ?_ | refine ext_set ?_ (by simp) _ | refine ext_trans ?_ (by assumption)))) _) (Ext.sz (by (repeat (first | exact ext_refl _ | assumption | refine ext_alloc ?_ _ | refine ext_drew ?_ | refine ext_set ?_ (by simp) _ | refine ext_trans ?_ (by assumption)))))).mono ?_; rintro r w2 ⟨pty, px, rfl, hJ, hx2⟩
               have hx3 : Ext wr w2 := ext_trans (by (repeat (first | exact ext_refl _ | assumption | refine ext_alloc ?_ _ | refine ext_drew ?_ | refine ext_set ?_ (by simp) _ | refine ext_trans ?_ (by assumption)))) hx2
               have hJ := hJ.to (S' := fun b => wr.heap.size ≤ b) (fun b hb _ => by (try simp at hb); omega)
               have hxn : Ext w2 (w2.alloc (.cells #[.iface pty px] 20)) := ext_alloc (ext_refl _) _
               have hbn : Box (w2.alloc (.cells #[.iface pty px] 20)) w2.heap.size #[.iface pty px] 20 := Box.at rfl _ _
               have HJ := Lib.hid (hJ.ext hxn)
               clear hJ)
            | (at_builtin; have _t := tokB; clear _t tokB; refine list_append_any _ rfl _ _ rfl w1.heap.size vv us rfl (HO.out.ext (ext_trans hx3 hxn)) w2.heap.size 0 1 [.iface pty px] (by simp) (fun u hu => by simp at hu; subst hu; rfl) rfl (fun i f hf => by
                 cases i with
                 | zero => simp at hf; subst hf; exact hbn.cell 0 _ rfl
                 | succ i => simp at hf) (by have := HUL.out; simp; omega) (by have := (ext_trans hx3 hxn).sz; omega) ?_; intro g cap w4 hown hgrow hlies hglt)
            | fail)
          have hszn := (ext_trans hx3 hxn).sz
          have hblk : ∀ k, vv.ownBlock = some k → w1.heap.size ≤ k ∧ k < wr.heap.size := fun k hk => World.ownsRow.lt HO.out k hk
          have hx5 : Ext w1 w4 := ext_grown (ext_trans hxr (ext_trans hx3 hxn)) hgrow (fun k hk => (hblk k hk).1)
          have hne : ∀ b, (w1.heap.size ≤ b ∧ vv.ownBlock ≠ some b) → b < (w2.alloc (.cells #[.iface pty px] 20)).heap.size → w1.heap.size ≤ b ∧ (Value.slice (some ⟨g, 0, none⟩) (us.length + 1) cap).ownBlock ≠ some b := fun b hb hl => ⟨hb.1, fun e => by
            simp only [Value.ownBlock, Option.some.injEq] at e
            subst e
            rcases hlies with hl2 | hl2
            · exact hb.2 hl2
            · omega⟩
          have hkp : Keeps (fun b => w1.heap.size ≤ b ∧ vv.ownBlock ≠ some b) (w2.alloc (.cells #[.iface pty px] 20)) w4 := keeps_grown hgrow (fun b hb e => hb.2 e.symm)
          have hV5 := Lib.hid (JsAt.snoc (JsAt.keep hne hkp _ (HV.out.ext (ext_trans hx3 hxn))) (JAt.keep hne hkp _ (HJ.out.to (S' := fun b => w1.heap.size ≤ b ∧ vv.ownBlock ≠ some b) (fun b hb _ => ⟨by omega, fun e => by have := (hblk b e).2; omega⟩))))
          have hown2 := Lib.hid hown
          clear hown hgrow hlies hne hkp hblk
          go_roundw
          case rel =>
            first
              | refine ⟨hx5, j + 1, us ++ [.iface pty px], _, rfl, by omega, by go_num, by simp [HUL.out], by simpa using hown2.out, ?_, ?_⟩
              | (repeat apply Exists.intro
                 refine And.intro ?_ rfl
                 refine ⟨hx5, j + 1, us ++ [.iface pty px], _, rfl, by omega, by go_num, by simp [HUL.out], by simpa using hown2.out, ?_, ?_⟩)
            · intro x hx
              rcases List.mem_append.1 hx with hx | hx
              · exact H1.out x hx
              · simp at hx; subst hx; rfl
            · rw [take_snoc HT.out]
              exact hV5.out
          case measure => simp [intOf]; omega
        have hfull : um.take j = um := List.take_of_length_le (by have h2 := HVG.out.1; have h3 := HVL.out; omega)
        have hulen : um.length = us.length := by have h2 := HVG.out.1; have h3 := HVL.out; have h4 := HUL.out; omega
        have hV := HV.out
        rw [hfull] at hV
        obtain ⟨la, lc, rfl, hq1, hq2, hq3⟩ := HO.out.cells (S := fun b => w1.heap.size ≤ b) (fun b hb => (World.ownsRow.lt HO.out b hb).1)
        have hJl : JAt (fun b => w1.heap.size ≤ b) wr (.iface 107 (.slice la us.length lc)) (.list um) := by
          simp only [JAt]
          exact ⟨_, _, _, us, rfl, by have := HUL.out; omega, hulen, hq1, hq2, hq3, JsAt.keep (fun b hb _ => hb.1) (fun _ _ _ => rfl) _ hV⟩
        clear hq3 hV HO HV H1
        have hnl := hm1.ext hxr
        have hnlt := hnl.lt
        have hc0 := (hbq.ext (ext_trans hx0 hxr)).cell 0 _ rfl
        have hc1 := (hbq.ext (ext_trans hx0 hxr)).cell 1 _ rfl
        have hc2 := (hbq.ext (ext_trans hx0 hxr)).cell 2 _ rfl
        have hc3 := (hbq.ext (ext_trans hx0 hxr)).cell 3 _ rfl
        have hc4 := (hbq.ext (ext_trans hx0 hxr)).cell 4 _ rfl
        have hc5 := (hbq.ext (ext_trans hx0 hxr)).cell 5 _ rfl
        have hc6 := (hbq.ext (ext_trans hx0 hxr)).cell 6 _ rfl
        have hc7 := (hbq.ext (ext_trans hx0 hxr)).cell 7 _ rfl
        have hc8 := (hbq.ext (ext_trans hx0 hxr)).cell 8 _ rfl
        go_wp2_with (at_mapUpdate; refine wp_put _ rfl _ _ _ 109 rfl 20 Tryz.underlying109 (w.heap.size + 1) [] rfl hnl (by simp [maxLen]) s_must rfl (by decide) _ rfl ?_; intro wn hnn hgn)
        go_meet
        case rel =>
          have hxn := ext_put (ext_trans hx0 hxr) hgn (by omega)
          have hkk : Keeps (fun b => w.heap.size + 1 < b) wr wn := keeps_grown hgn (fun b hb e => by simp only [Option.some.injEq] at e; omega)
          refine ⟨hxn, (hm0.ext hxr).grown hgn (someNe hne0), _, ?_, hnn, ?_⟩
          · rw [List.length_append]; exact Nat.succ_le_succ (by simp)
          · rw [jQ_many (QsAt.len Hum.out) hE]
            exact PJ.snoc ((hp0.keep (S' := (fun b => w.heap.size + 1 < b)) (fun _ h _ => h) (Ext.keeps hxr _)).keep (fun _ h _ => h) hkk) (JAt.keep (S := (fun b => w.heap.size + 1 < b)) (fun _ h _ => h) hkk _ (hJl.to (fun b hb _ => by have := hm1.lt; omega)))
  case rest =>
    obtain ⟨hxc, hm0_0, rp, hr, hnc, hpc⟩ := hcut
    have hbc := hbq.ext hxc
    have hc0 := hbc.cell 0 _ rfl
    have hc1 := hbc.cell 1 _ rfl
    have hc2 := hbc.cell 2 _ rfl
    have hc3 := hbc.cell 3 _ rfl
    have hc4 := hbc.cell 4 _ rfl
    have hc5 := hbc.cell 5 _ rfl
    have hc6 := hbc.cell 6 _ rfl
    have hc7 := hbc.cell 7 _ rfl
    have hc8 := hbc.cell 8 _ rfl
    go_upto_if 96 with fail
    go_cut [] (fun wc => Ext w wc ∧ MapAt wc w.heap.size [(s_bool, .iface 109 (.map (some (w.heap.size + 1))))] ∧ ∃ rp, rp.length ≤ 2 ∧ MapAt wc (w.heap.size + 1) rp ∧ PJ (fun b => w.heap.size + 1 < b) wc rp (jQ s_must um ++ jQ s_must_not ux))
    case first => as_aux_lemma =>
      rcases Nat.lt_trichotomy uxn 1 with hE | hE | hE
      · obtain rfl : uxn = 0 := by omega
        go_wp2_with fail
        go_meet
        case rel =>
          refine ⟨hxc, hm0_0, rp, Nat.le_succ_of_le hr, hnc, ?_⟩
          rw [jQ_none (k := s_must_not) (QsAt.len Hux.out), List.append_nil]
          exact hpc
      · subst hE
        obtain ⟨qvs, hvl, hvc, hvm, hvcell, hvG⟩ := Hux.out
        obtain ⟨qq, hqq⟩ := some_of_lt hvl (show 0 < 1 by omega)
        obtain ⟨jj, hjj⟩ := some_of_lt (l := ux) rfl (show 0 < ux.length by have := hvG.1; omega)
        obtain ⟨qb, qo, hqa, -, hqc⟩ := hvcell 0 qq hqq
        have hqc := hxc.cell hqc
        have hqc0 := hqc
        rw [Nat.add_zero] at hqc0
        obtain ⟨qty, qx, qf, hqe, hqm, hqm2, hqC⟩ := hvG.2 0 qq jj hqq hjj
        have HQC := Lib.hid hqC
        have hE1 := jQ_one (k := s_must_not) (QsAt.len Hux.out) hjj
        have HE1 := Lib.hid hE1
        clear hqC hjj hqq hvcell hvG hvl hE1
        subst hqe hqa
        have hsn := hnc.lt
        go_wp2_with (first
          | ((with_reducible show Calls _ qf _ _ _); refine (HQC.out _ (Ext.keeps (ext_trans hxc (by (repeat (first | exact ext_refl _ | assumption | refine ext_alloc ?_ _ | refine ext_drew ?_ | refine ext_set ?_ (by simp) _ | refine ext_trans ?_ (by assumption))))) _) (Ext.sz (ext_trans hxc (by (repeat (first | exact ext_refl _ | assumption | refine ext_alloc ?_ _ | refine ext_drew ?_ | refine ext_set ?_ (by simp) _ | refine ext_trans ?_ (by assumption))))))).mono ?_; rintro r ws ⟨jty, jx, rfl, hJs, hxs⟩
             have hxt : Ext w ws := ext_trans hxc (ext_trans (by (repeat (first | exact ext_refl _ | assumption | refine ext_alloc ?_ _ | refine ext_drew ?_ | refine ext_set ?_ (by simp) _ | refine ext_trans ?_ (by assumption)))) hxs)
             have hmt0 := MapAt.ext hm0_0 (ext_trans (by (repeat (first | exact ext_refl _ | assumption | refine ext_alloc ?_ _ | refine ext_drew ?_ | refine ext_set ?_ (by simp) _ | refine ext_trans ?_ (by assumption)))) hxs)
             have hnt := MapAt.ext hnc (ext_trans (by (repeat (first | exact ext_refl _ | assumption | refine ext_alloc ?_ _ | refine ext_drew ?_ | refine ext_set ?_ (by simp) _ | refine ext_trans ?_ (by assumption)))) hxs)
             have hpt := hpc.keep (S' := (fun b => w.heap.size + 1 < b)) (fun _ h _ => h) (Ext.keeps (ext_trans (by (repeat (first | exact ext_refl _ | assumption | refine ext_alloc ?_ _ | refine ext_drew ?_ | refine ext_set ?_ (by simp) _ | refine ext_trans ?_ (by assumption)))) hxs) _)
             have hJs := hJs.to (S' := (fun b => w.heap.size + 1 < b)) (fun b hb _ => by (try simp at hb); omega)
             have hbs := hbq.ext hxt
             have hc0 := hbs.cell 0 _ rfl
             have hc1 := hbs.cell 1 _ rfl
             have hc2 := hbs.cell 2 _ rfl
             have hc3 := hbs.cell 3 _ rfl
             have hc4 := hbs.cell 4 _ rfl
             have hc5 := hbs.cell 5 _ rfl
             have hc6 := hbs.cell 6 _ rfl
             have hc7 := hbs.cell 7 _ rfl
             have hc8 := hbs.cell 8 _ rfl)
          | (at_mapUpdate; refine wp_put _ rfl _ _ _ 109 rfl 20 Tryz.underlying109 (w.heap.size + 1) rp rfl hnt (Nat.lt_of_le_of_lt hr (by decide)) s_must_not rfl (by decide) _ rfl ?_; intro wn hnn hgn)
          | fail)
        go_meet
        case rel =>
          have hxn := ext_put hxt hgn (by omega)
          refine ⟨hxn, hmt0.grown hgn (someNe hne0), _, ?_, hnn, ?_⟩
          · rw [List.length_append]; exact Nat.succ_le_succ (by exact hr)
          · rw [HE1.out]
            have hk9 : Keeps (fun b => w.heap.size + 1 < b) ws wn := keeps_grown hgn (fun b hb e => by simp only [Option.some.injEq] at e; omega)
            exact PJ.snoc (hpt.keep (fun _ h _ => h) hk9) (JAt.keep (fun _ h _ => h) hk9 _ hJs)
      · have hE1b : ((uxn : Int) == 1) = false := by rw [beq_eq_false_iff_ne]; omega
        go_wp2_with fail
        have hE2b : decide ((1 : Int) < (uxn : Int)) = true := by rw [decide_eq_true_eq]; omega
        try simp only [hE1b]
        try simp only [hE2b]
        obtain ⟨qvs, hvl, hvc, hvm, hvcell, hvG⟩ := Hux.out.ext hxc
        have HVL := Lib.hid hvl
        have HVC := Lib.hid hvcell
        have HVG := Lib.hid hvG
        clear hvl hvcell hvG
        go_loopw [15, 123] (fun v i wr => Ext wc wr ∧ ∃ (j : Nat) (us : List Value) (vv : Value), vv = v ∧ j ≤ uxn ∧ i = .int .i64 j ∧ us.length = j ∧ OwnAny wr wc.heap.size vv us ∧ (∀ x ∈ us, x.oneCell' = true) ∧ JsAt (fun b => wc.heap.size ≤ b ∧ vv.ownBlock ≠ some b) wr us (ux.take j)) (fun _ i _ => uxn - (intOf i).toNat)
        case atStart => exact ⟨ext_refl _, 0, [], _, rfl, Nat.zero_le _, rfl, rfl, ⟨rfl, .inl ⟨rfl, rfl⟩⟩, fun x hx => by simp at hx, by simp [JsAt]⟩
        case round =>
          obtain ⟨hxr, j, us, vv, hve, hj, rfl, hul, hO, h1, hV⟩ := hrel
          subst hve
          have HO := Lib.hid hO
          have HV := Lib.hid hV
          have HUL := Lib.hid hul
          have H1 := Lib.hid h1
          clear hO hV hul h1
          by_cases hlt : j < uxn
          case pos =>
            obtain ⟨qq, hqq⟩ := some_of_lt HVL.out hlt
            obtain ⟨jj, hjj⟩ := some_of_lt (l := ux) rfl (show j < ux.length by have h2 := HVG.out.1; have h3 := HVL.out; omega)
            obtain ⟨qb, qo, hqa, -, hqc⟩ := HVC.out j qq hqq
            have hqc := hxr.cell hqc
            obtain ⟨qty, qx, qf, hqe, hqm, hqm2, hqC⟩ := (HVG.out.2 j qq jj hqq hjj).ext hxr
            have HT := Lib.hid hjj
            have HQC := Lib.hid hqC
            clear hqC hjj hqq
            subst hqe hqa
            have hszr := hxr.sz
            have tokB := trivial
            go_wp2_with (first
              | ((with_reducible show Calls _ qf _ _ _); refine (HQC.out _ (Ext.keeps (by (repeat (first | exact ext_refl _ | assumption | refine ext_alloc ?_ _ | refine ext_drew ?_ | refine ext_set ?_ (by simp) _ | refine ext_trans ?_ (by assumption)))) _) (Ext.sz (by (repeat (first | exact ext_refl _ | assumption | refine ext_alloc ?_ _ | refine ext_drew ?_ | refine ext_set ?_ (by simp) _ | refine ext_trans ?_ (by assumption)))))).mono ?_; rintro r w2 ⟨pty, px, rfl, hJ, hx2⟩
                 have hx3 : Ext wr w2 := ext_trans (by (repeat (first | exact ext_refl _ | assumption | refine ext_alloc ?_ _ | refine ext_drew ?_ | refine ext_set ?_ (by simp) _ | refine ext_trans ?_ (by assumption)))) hx2
                 have hJ := hJ.to (S' := fun b => wr.heap.size ≤ b) (fun b hb _ => by (try simp at hb); omega)
                 have hxn : Ext w2 (w2.alloc (.cells #[.iface pty px] 20)) := ext_alloc (ext_refl _) _
                 have hbn : Box (w2.alloc (.cells #[.iface pty px] 20)) w2.heap.size #[.iface pty px] 20 := Box.at rfl _ _
                 have HJ := Lib.hid (hJ.ext hxn)
                 clear hJ)
              | (at_builtin; have _t := tokB; clear _t tokB; refine list_append_any _ rfl _ _ rfl wc.heap.size vv us rfl (HO.out.ext (ext_trans hx3 hxn)) w2.heap.size 0 1 [.iface pty px] (by simp) (fun u hu => by simp at hu; subst hu; rfl) rfl (fun i f hf => by
                   cases i with
                   | zero => simp at hf; subst hf; exact hbn.cell 0 _ rfl
                   | succ i => simp at hf) (by have := HUL.out; simp; omega) (by have := (ext_trans hx3 hxn).sz; omega) ?_; intro g cap w4 hown hgrow hlies hglt)
              | fail)
            have hszn := (ext_trans hx3 hxn).sz
            have hblk : ∀ k, vv.ownBlock = some k → wc.heap.size ≤ k ∧ k < wr.heap.size := fun k hk => World.ownsRow.lt HO.out k hk
            have hx5 : Ext wc w4 := ext_grown (ext_trans hxr (ext_trans hx3 hxn)) hgrow (fun k hk => (hblk k hk).1)
            have hne : ∀ b, (wc.heap.size ≤ b ∧ vv.ownBlock ≠ some b) → b < (w2.alloc (.cells #[.iface pty px] 20)).heap.size → wc.heap.size ≤ b ∧ (Value.slice (some ⟨g, 0, none⟩) (us.length + 1) cap).ownBlock ≠ some b := fun b hb hl => ⟨hb.1, fun e => by
              simp only [Value.ownBlock, Option.some.injEq] at e
              subst e
              rcases hlies with hl2 | hl2
              · exact hb.2 hl2
              · omega⟩
            have hkp : Keeps (fun b => wc.heap.size ≤ b ∧ vv.ownBlock ≠ some b) (w2.alloc (.cells #[.iface pty px] 20)) w4 := keeps_grown hgrow (fun b hb e => hb.2 e.symm)
            have hV5 := Lib.hid (JsAt.snoc (JsAt.keep hne hkp _ (HV.out.ext (ext_trans hx3 hxn))) (JAt.keep hne hkp _ (HJ.out.to (S' := fun b => wc.heap.size ≤ b ∧ vv.ownBlock ≠ some b) (fun b hb _ => ⟨by omega, fun e => by have := (hblk b e).2; omega⟩))))
            have hown2 := Lib.hid hown
            clear hown hgrow hlies hne hkp hblk
            go_roundw
            case rel =>
              first
                | refine ⟨hx5, j + 1, us ++ [.iface pty px], _, rfl, by omega, by go_num, by simp [HUL.out], by simpa using hown2.out, ?_, ?_⟩
                | (repeat apply Exists.intro
                   refine And.intro ?_ rfl
                   refine ⟨hx5, j + 1, us ++ [.iface pty px], _, rfl, by omega, by go_num, by simp [HUL.out], by simpa using hown2.out, ?_, ?_⟩)
              · intro x hx
                rcases List.mem_append.1 hx with hx | hx
                · exact H1.out x hx
                · simp at hx; subst hx; rfl
              · rw [take_snoc HT.out]
                exact hV5.out
            case measure => simp [intOf]; omega
          have hfull : ux.take j = ux := List.take_of_length_le (by have h2 := HVG.out.1; have h3 := HVL.out; omega)
          have hulen : ux.length = us.length := by have h2 := HVG.out.1; have h3 := HVL.out; have h4 := HUL.out; omega
          have hV := HV.out
          rw [hfull] at hV
          obtain ⟨la, lc, rfl, hq1, hq2, hq3⟩ := HO.out.cells (S := fun b => wc.heap.size ≤ b) (fun b hb => (World.ownsRow.lt HO.out b hb).1)
          have hJl : JAt (fun b => wc.heap.size ≤ b) wr (.iface 107 (.slice la us.length lc)) (.list ux) := by
            simp only [JAt]
            exact ⟨_, _, _, us, rfl, by have := HUL.out; omega, hulen, hq1, hq2, hq3, JsAt.keep (fun b hb _ => hb.1) (fun _ _ _ => rfl) _ hV⟩
          clear hq3 hV HO HV H1
          have hnl := hnc.ext hxr
          have hnlt := hnl.lt
          have hc0 := (hbq.ext (ext_trans hxc hxr)).cell 0 _ rfl
          have hc1 := (hbq.ext (ext_trans hxc hxr)).cell 1 _ rfl
          have hc2 := (hbq.ext (ext_trans hxc hxr)).cell 2 _ rfl
          have hc3 := (hbq.ext (ext_trans hxc hxr)).cell 3 _ rfl
          have hc4 := (hbq.ext (ext_trans hxc hxr)).cell 4 _ rfl
          have hc5 := (hbq.ext (ext_trans hxc hxr)).cell 5 _ rfl
          have hc6 := (hbq.ext (ext_trans hxc hxr)).cell 6 _ rfl
          have hc7 := (hbq.ext (ext_trans hxc hxr)).cell 7 _ rfl
          have hc8 := (hbq.ext (ext_trans hxc hxr)).cell 8 _ rfl
          go_wp2_with (at_mapUpdate; refine wp_put _ rfl _ _ _ 109 rfl 20 Tryz.underlying109 (w.heap.size + 1) rp rfl hnl (Nat.lt_of_le_of_lt hr (by decide)) s_must_not rfl (by decide) _ rfl ?_; intro wn hnn hgn)
          go_meet
          case rel =>
            have hxn := ext_put (ext_trans hxc hxr) hgn (by omega)
            have hkk : Keeps (fun b => w.heap.size + 1 < b) wr wn := keeps_grown hgn (fun b hb e => by simp only [Option.some.injEq] at e; omega)
            refine ⟨hxn, (hm0_0.ext hxr).grown hgn (someNe hne0), _, ?_, hnn, ?_⟩
            · rw [List.length_append]; exact Nat.succ_le_succ (by exact hr)
            · rw [jQ_many (QsAt.len Hux.out) hE]
              exact PJ.snoc ((hpc.keep (S' := (fun b => w.heap.size + 1 < b)) (fun _ h _ => h) (Ext.keeps hxr _)).keep (fun _ h _ => h) hkk) (JAt.keep (S := (fun b => w.heap.size + 1 < b)) (fun _ h _ => h) hkk _ (hJl.to (fun b hb _ => by have := hnc.lt; omega)))
    case rest => as_aux_lemma =>
      obtain ⟨hxc, hm0_1, rp, hr, hnc, hpc⟩ := hcut
      have hbc := hbq.ext hxc
      have hc0 := hbc.cell 0 _ rfl
      have hc1 := hbc.cell 1 _ rfl
      have hc2 := hbc.cell 2 _ rfl
      have hc3 := hbc.cell 3 _ rfl
      have hc4 := hbc.cell 4 _ rfl
      have hc5 := hbc.cell 5 _ rfl
      have hc6 := hbc.cell 6 _ rfl
      have hc7 := hbc.cell 7 _ rfl
      have hc8 := hbc.cell 8 _ rfl
      go_upto_if 148 with fail
      go_cut [] (fun wc => Ext w wc ∧ MapAt wc w.heap.size [(s_bool, .iface 109 (.map (some (w.heap.size + 1))))] ∧ ∃ rp, rp.length ≤ 3 ∧ MapAt wc (w.heap.size + 1) rp ∧ PJ (fun b => w.heap.size + 1 < b) wc rp (jQ s_must um ++ jQ s_must_not ux ++ jQ s_filter uf))
      case first => as_aux_lemma =>
        rcases Nat.lt_trichotomy ufn 1 with hE | hE | hE
        · obtain rfl : ufn = 0 := by omega
          go_wp2_with fail
          go_meet
          case rel =>
            refine ⟨hxc, hm0_1, rp, Nat.le_succ_of_le hr, hnc, ?_⟩
            rw [jQ_none (k := s_filter) (QsAt.len Huf.out), List.append_nil]
            exact hpc
        · subst hE
          obtain ⟨qvs, hvl, hvc, hvm, hvcell, hvG⟩ := Huf.out
          obtain ⟨qq, hqq⟩ := some_of_lt hvl (show 0 < 1 by omega)
          obtain ⟨jj, hjj⟩ := some_of_lt (l := uf) rfl (show 0 < uf.length by have := hvG.1; omega)
          obtain ⟨qb, qo, hqa, -, hqc⟩ := hvcell 0 qq hqq
          have hqc := hxc.cell hqc
          have hqc0 := hqc
          rw [Nat.add_zero] at hqc0
          obtain ⟨qty, qx, qf, hqe, hqm, hqm2, hqC⟩ := hvG.2 0 qq jj hqq hjj
          have HQC := Lib.hid hqC
          have hE1 := jQ_one (k := s_filter) (QsAt.len Huf.out) hjj
          have HE1 := Lib.hid hE1
          clear hqC hjj hqq hvcell hvG hvl hE1
          subst hqe hqa
          have hsn := hnc.lt
          go_wp2_with (first
            | ((with_reducible show Calls _ qf _ _ _); refine (HQC.out _ (Ext.keeps (ext_trans hxc (by (repeat (first | exact ext_refl _ | assumption | refine ext_alloc ?_ _ | refine ext_drew ?_ | refine ext_set ?_ (by simp) _ | refine ext_trans ?_ (by assumption))))) _) (Ext.sz (ext_trans hxc (by (repeat (first | exact ext_refl _ | assumption | refine ext_alloc ?_ _ | refine ext_drew ?_ | refine ext_set ?_ (by simp) _ | refine ext_trans ?_ (by assumption))))))).mono ?_; rintro r ws ⟨jty, jx, rfl, hJs, hxs⟩
               have hxt : Ext w ws := ext_trans hxc (ext_trans (by (repeat (first | exact ext_refl _ | assumption | refine ext_alloc ?_ _ | refine ext_drew ?_ | refine ext_set ?_ (by simp) _ | refine ext_trans ?_ (by assumption)))) hxs)
               have hmt0 := MapAt.ext hm0_1 (ext_trans (by (repeat (first | exact ext_refl _ | assumption | refine ext_alloc ?_ _ | refine ext_drew ?_ | refine ext_set ?_ (by simp) _ | refine ext_trans ?_ (by assumption)))) hxs)
               have hnt := MapAt.ext hnc (ext_trans (by (repeat (first | exact ext_refl _ | assumption | refine ext_alloc ?_ _ | refine ext_drew ?_ | refine ext_set ?_ (by simp) _ | refine ext_trans ?_ (by assumption)))) hxs)
               have hpt := hpc.keep (S' := (fun b => w.heap.size + 1 < b)) (fun _ h _ => h) (Ext.keeps (ext_trans (by (repeat (first | exact ext_refl _ | assumption | refine ext_alloc ?_ _ | refine ext_drew ?_ | refine ext_set ?_ (by simp) _ | refine ext_trans ?_ (by assumption)))) hxs) _)
               have hJs := hJs.to (S' := (fun b => w.heap.size + 1 < b)) (fun b hb _ => by (try simp at hb); omega)
               have hbs := hbq.ext hxt
               have hc0 := hbs.cell 0 _ rfl
               have hc1 := hbs.cell 1 _ rfl
               have hc2 := hbs.cell 2 _ rfl
               have hc3 := hbs.cell 3 _ rfl
               have hc4 := hbs.cell 4 _ rfl
               have hc5 := hbs.cell 5 _ rfl
               have hc6 := hbs.cell 6 _ rfl
               have hc7 := hbs.cell 7 _ rfl
               have hc8 := hbs.cell 8 _ rfl)
            | (at_mapUpdate; refine wp_put _ rfl _ _ _ 109 rfl 20 Tryz.underlying109 (w.heap.size + 1) rp rfl hnt (Nat.lt_of_le_of_lt hr (by decide)) s_filter rfl (by decide) _ rfl ?_; intro wn hnn hgn)
            | fail)
          go_meet
          case rel =>
            have hxn := ext_put hxt hgn (by omega)
            refine ⟨hxn, hmt0.grown hgn (someNe hne0), _, ?_, hnn, ?_⟩
            · rw [List.length_append]; exact Nat.succ_le_succ (by exact hr)
            · rw [HE1.out]
              have hk9 : Keeps (fun b => w.heap.size + 1 < b) ws wn := keeps_grown hgn (fun b hb e => by simp only [Option.some.injEq] at e; omega)
              exact PJ.snoc (hpt.keep (fun _ h _ => h) hk9) (JAt.keep (fun _ h _ => h) hk9 _ hJs)
        · have hE1b : ((ufn : Int) == 1) = false := by rw [beq_eq_false_iff_ne]; omega
          go_wp2_with fail
          have hE2b : decide ((1 : Int) < (ufn : Int)) = true := by rw [decide_eq_true_eq]; omega
          try simp only [hE1b]
          try simp only [hE2b]
          obtain ⟨qvs, hvl, hvc, hvm, hvcell, hvG⟩ := Huf.out.ext hxc
          have HVL := Lib.hid hvl
          have HVC := Lib.hid hvcell
          have HVG := Lib.hid hvG
          clear hvl hvcell hvG
          go_loopw [22, 175] (fun v i wr => Ext wc wr ∧ ∃ (j : Nat) (us : List Value) (vv : Value), vv = v ∧ j ≤ ufn ∧ i = .int .i64 j ∧ us.length = j ∧ OwnAny wr wc.heap.size vv us ∧ (∀ x ∈ us, x.oneCell' = true) ∧ JsAt (fun b => wc.heap.size ≤ b ∧ vv.ownBlock ≠ some b) wr us (uf.take j)) (fun _ i _ => ufn - (intOf i).toNat)
          case atStart => exact ⟨ext_refl _, 0, [], _, rfl, Nat.zero_le _, rfl, rfl, ⟨rfl, .inl ⟨rfl, rfl⟩⟩, fun x hx => by simp at hx, by simp [JsAt]⟩
          case round =>
            obtain ⟨hxr, j, us, vv, hve, hj, rfl, hul, hO, h1, hV⟩ := hrel
            subst hve
            have HO := Lib.hid hO
            have HV := Lib.hid hV
            have HUL := Lib.hid hul
            have H1 := Lib.hid h1
            clear hO hV hul h1
            by_cases hlt : j < ufn
            case pos =>
              obtain ⟨qq, hqq⟩ := some_of_lt HVL.out hlt
              obtain ⟨jj, hjj⟩ := some_of_lt (l := uf) rfl (show j < uf.length by have h2 := HVG.out.1; have h3 := HVL.out; omega)
              obtain ⟨qb, qo, hqa, -, hqc⟩ := HVC.out j qq hqq
              have hqc := hxr.cell hqc
              obtain ⟨qty, qx, qf, hqe, hqm, hqm2, hqC⟩ := (HVG.out.2 j qq jj hqq hjj).ext hxr
              have HT := Lib.hid hjj
              have HQC := Lib.hid hqC
              clear hqC hjj hqq
              subst hqe hqa
              have hszr := hxr.sz
              have tokB := trivial
              go_wp2_with (first
                | ((with_reducible show Calls _ qf _ _ _); refine (HQC.out _ (Ext.keeps (by (repeat (first | exact ext_refl _ | assumption | refine ext_alloc ?_ _ | refine ext_drew ?_ | refine ext_set ?_ (by simp) _ | refine ext_trans ?_ (by assumption)))) _) (Ext.sz (by (repeat (first | exact ext_refl _ | assumption | refine ext_alloc ?_ _ | refine ext_drew ?_ | refine ext_set ?_ (by simp) _ | refine ext_trans ?_ (by assumption)))))).mono ?_; rintro r w2 ⟨pty, px, rfl, hJ, hx2⟩
                   have hx3 : Ext wr w2 := ext_trans (by (repeat (first | exact ext_refl _ | assumption | refine ext_alloc ?_ _ | refine ext_drew ?_ | refine ext_set ?_ (by simp) _ | refine ext_trans ?_ (by assumption)))) hx2
                   have hJ := hJ.to (S' := fun b => wr.heap.size ≤ b) (fun b hb _ => by (try simp at hb); omega)
                   have hxn : Ext w2 (w2.alloc (.cells #[.iface pty px] 20)) := ext_alloc (ext_refl _) _
                   have hbn : Box (w2.alloc (.cells #[.iface pty px] 20)) w2.heap.size #[.iface pty px] 20 := Box.at rfl _ _
                   have HJ := Lib.hid (hJ.ext hxn)
                   clear hJ)
                | (at_builtin; have _t := tokB; clear _t tokB; refine list_append_any _ rfl _ _ rfl wc.heap.size vv us rfl (HO.out.ext (ext_trans hx3 hxn)) w2.heap.size 0 1 [.iface pty px] (by simp) (fun u hu => by simp at hu; subst hu; rfl) rfl (fun i f hf => by
                     cases i with
                     | zero => simp at hf; subst hf; exact hbn.cell 0 _ rfl
                     | succ i => simp at hf) (by have := HUL.out; simp; omega) (by have := (ext_trans hx3 hxn).sz; omega) ?_; intro g cap w4 hown hgrow hlies hglt)
                | fail)
              have hszn := (ext_trans hx3 hxn).sz
              have hblk : ∀ k, vv.ownBlock = some k → wc.heap.size ≤ k ∧ k < wr.heap.size := fun k hk => World.ownsRow.lt HO.out k hk
              have hx5 : Ext wc w4 := ext_grown (ext_trans hxr (ext_trans hx3 hxn)) hgrow (fun k hk => (hblk k hk).1)
              have hne : ∀ b, (wc.heap.size ≤ b ∧ vv.ownBlock ≠ some b) → b < (w2.alloc (.cells #[.iface pty px] 20)).heap.size → wc.heap.size ≤ b ∧ (Value.slice (some ⟨g, 0, none⟩) (us.length + 1) cap).ownBlock ≠ some b := fun b hb hl => ⟨hb.1, fun e => by
                simp only [Value.ownBlock, Option.some.injEq] at e
                subst e
                rcases hlies with hl2 | hl2
                · exact hb.2 hl2
                · omega⟩
              have hkp : Keeps (fun b => wc.heap.size ≤ b ∧ vv.ownBlock ≠ some b) (w2.alloc (.cells #[.iface pty px] 20)) w4 := keeps_grown hgrow (fun b hb e => hb.2 e.symm)
              have hV5 := Lib.hid (JsAt.snoc (JsAt.keep hne hkp _ (HV.out.ext (ext_trans hx3 hxn))) (JAt.keep hne hkp _ (HJ.out.to (S' := fun b => wc.heap.size ≤ b ∧ vv.ownBlock ≠ some b) (fun b hb _ => ⟨by omega, fun e => by have := (hblk b e).2; omega⟩))))
              have hown2 := Lib.hid hown
              clear hown hgrow hlies hne hkp hblk
              go_roundw
              case rel =>
                first
                  | refine ⟨hx5, j + 1, us ++ [.iface pty px], _, rfl, by omega, by go_num, by simp [HUL.out], by simpa using hown2.out, ?_, ?_⟩
                  | (repeat apply Exists.intro
                     refine And.intro ?_ rfl
                     refine ⟨hx5, j + 1, us ++ [.iface pty px], _, rfl, by omega, by go_num, by simp [HUL.out], by simpa using hown2.out, ?_, ?_⟩)
                · intro x hx
                  rcases List.mem_append.1 hx with hx | hx
                  · exact H1.out x hx
                  · simp at hx; subst hx; rfl
                · rw [take_snoc HT.out]
                  exact hV5.out
              case measure => simp [intOf]; omega
            have hfull : uf.take j = uf := List.take_of_length_le (by have h2 := HVG.out.1; have h3 := HVL.out; omega)
            have hulen : uf.length = us.length := by have h2 := HVG.out.1; have h3 := HVL.out; have h4 := HUL.out; omega
            have hV := HV.out
            rw [hfull] at hV
            obtain ⟨la, lc, rfl, hq1, hq2, hq3⟩ := HO.out.cells (S := fun b => wc.heap.size ≤ b) (fun b hb => (World.ownsRow.lt HO.out b hb).1)
            have hJl : JAt (fun b => wc.heap.size ≤ b) wr (.iface 107 (.slice la us.length lc)) (.list uf) := by
              simp only [JAt]
              exact ⟨_, _, _, us, rfl, by have := HUL.out; omega, hulen, hq1, hq2, hq3, JsAt.keep (fun b hb _ => hb.1) (fun _ _ _ => rfl) _ hV⟩
            clear hq3 hV HO HV H1
            have hnl := hnc.ext hxr
            have hnlt := hnl.lt
            have hc0 := (hbq.ext (ext_trans hxc hxr)).cell 0 _ rfl
            have hc1 := (hbq.ext (ext_trans hxc hxr)).cell 1 _ rfl
            have hc2 := (hbq.ext (ext_trans hxc hxr)).cell 2 _ rfl
            have hc3 := (hbq.ext (ext_trans hxc hxr)).cell 3 _ rfl
            have hc4 := (hbq.ext (ext_trans hxc hxr)).cell 4 _ rfl
            have hc5 := (hbq.ext (ext_trans hxc hxr)).cell 5 _ rfl
            have hc6 := (hbq.ext (ext_trans hxc hxr)).cell 6 _ rfl
            have hc7 := (hbq.ext (ext_trans hxc hxr)).cell 7 _ rfl
            have hc8 := (hbq.ext (ext_trans hxc hxr)).cell 8 _ rfl
            go_wp2_with (at_mapUpdate; refine wp_put _ rfl _ _ _ 109 rfl 20 Tryz.underlying109 (w.heap.size + 1) rp rfl hnl (Nat.lt_of_le_of_lt hr (by decide)) s_filter rfl (by decide) _ rfl ?_; intro wn hnn hgn)
            go_meet
            case rel =>
              have hxn := ext_put (ext_trans hxc hxr) hgn (by omega)
              have hkk : Keeps (fun b => w.heap.size + 1 < b) wr wn := keeps_grown hgn (fun b hb e => by simp only [Option.some.injEq] at e; omega)
              refine ⟨hxn, (hm0_1.ext hxr).grown hgn (someNe hne0), _, ?_, hnn, ?_⟩
              · rw [List.length_append]; exact Nat.succ_le_succ (by exact hr)
              · rw [jQ_many (QsAt.len Huf.out) hE]
                exact PJ.snoc ((hpc.keep (S' := (fun b => w.heap.size + 1 < b)) (fun _ h _ => h) (Ext.keeps hxr _)).keep (fun _ h _ => h) hkk) (JAt.keep (S := (fun b => w.heap.size + 1 < b)) (fun _ h _ => h) hkk _ (hJl.to (fun b hb _ => by have := hnc.lt; omega)))
      case rest => as_aux_lemma =>
        obtain ⟨hxc, hm0_2, rp, hr, hnc, hpc⟩ := hcut
        have hbc := hbq.ext hxc
        have hc0 := hbc.cell 0 _ rfl
        have hc1 := hbc.cell 1 _ rfl
        have hc2 := hbc.cell 2 _ rfl
        have hc3 := hbc.cell 3 _ rfl
        have hc4 := hbc.cell 4 _ rfl
        have hc5 := hbc.cell 5 _ rfl
        have hc6 := hbc.cell 6 _ rfl
        have hc7 := hbc.cell 7 _ rfl
        have hc8 := hbc.cell 8 _ rfl
        go_upto_if 200 with fail
        go_cut [] (fun wc => Ext w wc ∧ MapAt wc w.heap.size [(s_bool, .iface 109 (.map (some (w.heap.size + 1))))] ∧ ∃ rp, rp.length ≤ 4 ∧ MapAt wc (w.heap.size + 1) rp ∧ PJ (fun b => w.heap.size + 1 < b) wc rp (jQ s_must um ++ jQ s_must_not ux ++ jQ s_filter uf ++ jQ s_should uz))
        case first => as_aux_lemma =>
          rcases Nat.lt_trichotomy uzn 1 with hE | hE | hE
          · obtain rfl : uzn = 0 := by omega
            go_wp2_with fail
            go_meet
            case rel =>
              refine ⟨hxc, hm0_2, rp, Nat.le_succ_of_le hr, hnc, ?_⟩
              rw [jQ_none (k := s_should) (QsAt.len Huz.out), List.append_nil]
              exact hpc
          · subst hE
            obtain ⟨qvs, hvl, hvc, hvm, hvcell, hvG⟩ := Huz.out
            obtain ⟨qq, hqq⟩ := some_of_lt hvl (show 0 < 1 by omega)
            obtain ⟨jj, hjj⟩ := some_of_lt (l := uz) rfl (show 0 < uz.length by have := hvG.1; omega)
            obtain ⟨qb, qo, hqa, -, hqc⟩ := hvcell 0 qq hqq
            have hqc := hxc.cell hqc
            have hqc0 := hqc
            rw [Nat.add_zero] at hqc0
            obtain ⟨qty, qx, qf, hqe, hqm, hqm2, hqC⟩ := hvG.2 0 qq jj hqq hjj
            have HQC := Lib.hid hqC
            have hE1 := jQ_one (k := s_should) (QsAt.len Huz.out) hjj
            have HE1 := Lib.hid hE1
            clear hqC hjj hqq hvcell hvG hvl hE1
            subst hqe hqa
            have hsn := hnc.lt
            go_wp2_with (first
              | ((with_reducible show Calls _ qf _ _ _); refine (HQC.out _ (Ext.keeps (ext_trans hxc (by (repeat (first | exact ext_refl _ | assumption | refine ext_alloc ?_ _ | refine ext_drew ?_ | refine ext_set ?_ (by simp) _ | refine ext_trans ?_ (by assumption))))) _) (Ext.sz (ext_trans hxc (by (repeat (first | exact ext_refl _ | assumption | refine ext_alloc ?_ _ | refine ext_drew ?_ | refine ext_set ?_ (by simp) _ | refine ext_trans ?_ (by assumption))))))).mono ?_; rintro r ws ⟨jty, jx, rfl, hJs, hxs⟩
                 have hxt : Ext w ws := ext_trans hxc (ext_trans (by (repeat (first | exact ext_refl _ | assumption | refine ext_alloc ?_ _ | refine ext_drew ?_ | refine ext_set ?_ (by simp) _ | refine ext_trans ?_ (by assumption)))) hxs)
                 have hmt0 := MapAt.ext hm0_2 (ext_trans (by (repeat (first | exact ext_refl _ | assumption | refine ext_alloc ?_ _ | refine ext_drew ?_ | refine ext_set ?_ (by simp) _ | refine ext_trans ?_ (by assumption)))) hxs)
                 have hnt := MapAt.ext hnc (ext_trans (by (repeat (first | exact ext_refl _ | assumption | refine ext_alloc ?_ _ | refine ext_drew ?_ | refine ext_set ?_ (by simp) _ | refine ext_trans ?_ (by assumption)))) hxs)
                 have hpt := hpc.keep (S' := (fun b => w.heap.size + 1 < b)) (fun _ h _ => h) (Ext.keeps (ext_trans (by (repeat (first | exact ext_refl _ | assumption | refine ext_alloc ?_ _ | refine ext_drew ?_ | refine ext_set ?_ (by simp) _ | refine ext_trans ?_ (by assumption)))) hxs) _)
                 have hJs := hJs.to (S' := (fun b => w.heap.size + 1 < b)) (fun b hb _ => by (try simp at hb); omega)
                 have hbs := hbq.ext hxt
                 have hc0 := hbs.cell 0 _ rfl
                 have hc1 := hbs.cell 1 _ rfl
                 have hc2 := hbs.cell 2 _ rfl
                 have hc3 := hbs.cell 3 _ rfl
                 have hc4 := hbs.cell 4 _ rfl
                 have hc5 := hbs.cell 5 _ rfl
                 have hc6 := hbs.cell 6 _ rfl
                 have hc7 := hbs.cell 7 _ rfl
                 have hc8 := hbs.cell 8 _ rfl)
              | (at_mapUpdate; refine wp_put _ rfl _ _ _ 109 rfl 20 Tryz.underlying109 (w.heap.size + 1) rp rfl hnt (Nat.lt_of_le_of_lt hr (by decide)) s_should rfl (by decide) _ rfl ?_; intro wn hnn hgn)
              | fail)
            go_meet
            case rel =>
              have hxn := ext_put hxt hgn (by omega)
              refine ⟨hxn, hmt0.grown hgn (someNe hne0), _, ?_, hnn, ?_⟩
              · rw [List.length_append]; exact Nat.succ_le_succ (by exact hr)
              · rw [HE1.out]
                have hk9 : Keeps (fun b => w.heap.size + 1 < b) ws wn := keeps_grown hgn (fun b hb e => by simp only [Option.some.injEq] at e; omega)
                exact PJ.snoc (hpt.keep (fun _ h _ => h) hk9) (JAt.keep (fun _ h _ => h) hk9 _ hJs)
          · have hE1b : ((uzn : Int) == 1) = false := by rw [beq_eq_false_iff_ne]; omega
            go_wp2_with fail
            have hE2b : decide ((1 : Int) < (uzn : Int)) = true := by rw [decide_eq_true_eq]; omega
            try simp only [hE1b]
            try simp only [hE2b]
            obtain ⟨qvs, hvl, hvc, hvm, hvcell, hvG⟩ := Huz.out.ext hxc
            have HVL := Lib.hid hvl
            have HVC := Lib.hid hvcell
            have HVG := Lib.hid hvG
            clear hvl hvcell hvG
            go_loopw [29, 227] (fun v i wr => Ext wc wr ∧ ∃ (j : Nat) (us : List Value) (vv : Value), vv = v ∧ j ≤ uzn ∧ i = .int .i64 j ∧ us.length = j ∧ OwnAny wr wc.heap.size vv us ∧ (∀ x ∈ us, x.oneCell' = true) ∧ JsAt (fun b => wc.heap.size ≤ b ∧ vv.ownBlock ≠ some b) wr us (uz.take j)) (fun _ i _ => uzn - (intOf i).toNat)
            case atStart => exact ⟨ext_refl _, 0, [], _, rfl, Nat.zero_le _, rfl, rfl, ⟨rfl, .inl ⟨rfl, rfl⟩⟩, fun x hx => by simp at hx, by simp [JsAt]⟩
            case round =>
              obtain ⟨hxr, j, us, vv, hve, hj, rfl, hul, hO, h1, hV⟩ := hrel
              subst hve
              have HO := Lib.hid hO
              have HV := Lib.hid hV
              have HUL := Lib.hid hul
              have H1 := Lib.hid h1
              clear hO hV hul h1
              by_cases hlt : j < uzn
              case pos =>
                obtain ⟨qq, hqq⟩ := some_of_lt HVL.out hlt
                obtain ⟨jj, hjj⟩ := some_of_lt (l := uz) rfl (show j < uz.length by have h2 := HVG.out.1; have h3 := HVL.out; omega)
                obtain ⟨qb, qo, hqa, -, hqc⟩ := HVC.out j qq hqq
                have hqc := hxr.cell hqc
                obtain ⟨qty, qx, qf, hqe, hqm, hqm2, hqC⟩ := (HVG.out.2 j qq jj hqq hjj).ext hxr
                have HT := Lib.hid hjj
                have HQC := Lib.hid hqC
                clear hqC hjj hqq
                subst hqe hqa
                have hszr := hxr.sz
                have tokB := trivial
                go_wp2_with (first
                  | ((with_reducible show Calls _ qf _ _ _); refine (HQC.out _ (Ext.keeps (by (repeat (first | exact ext_refl _ | assumption | refine ext_alloc ?_ _ | refine ext_drew ?_ | refine ext_set ?_ (by simp) _ | refine ext_trans ?_ (by assumption)))) _) (Ext.sz (by (repeat (first | exact ext_refl _ | assumption | refine ext_alloc ?_ _ | refine ext_drew ?_ | refine ext_set ?_ (by simp) _ | refine ext_trans ?_ (by assumption)))))).mono ?_; rintro r w2 ⟨pty, px, rfl, hJ, hx2⟩
                     have hx3 : Ext wr w2 := ext_trans (by (repeat (first | exact ext_refl _ | assumption | refine ext_alloc ?_ _ | refine ext_drew ?_ | refine ext_set ?_ (by simp) _ | refine ext_trans ?_ (by assumption)))) hx2
                     have hJ := hJ.to (S' := fun b => wr.heap.size ≤ b) (fun b hb _ => by (try simp at hb); omega)
                     have hxn : Ext w2 (w2.alloc (.cells #[.iface pty px] 20)) := ext_alloc (ext_refl _) _
                     have hbn : Box (w2.alloc (.cells #[.iface pty px] 20)) w2.heap.size #[.iface pty px] 20 := Box.at rfl _ _
                     have HJ := Lib.hid (hJ.ext hxn)
                     clear hJ)
                  | (at_builtin; have _t := tokB; clear _t tokB; refine list_append_any _ rfl _ _ rfl wc.heap.size vv us rfl (HO.out.ext (ext_trans hx3 hxn)) w2.heap.size 0 1 [.iface pty px] (by simp) (fun u hu => by simp at hu; subst hu; rfl) rfl (fun i f hf => by
                       cases i with
                       | zero => simp at hf; subst hf; exact hbn.cell 0 _ rfl
                       | succ i => simp at hf) (by have := HUL.out; simp; omega) (by have := (ext_trans hx3 hxn).sz; omega) ?_; intro g cap w4 hown hgrow hlies hglt)
                  | fail)
                have hszn := (ext_trans hx3 hxn).sz
                have hblk : ∀ k, vv.ownBlock = some k → wc.heap.size ≤ k ∧ k < wr.heap.size := fun k hk => World.ownsRow.lt HO.out k hk
                have hx5 : Ext wc w4 := ext_grown (ext_trans hxr (ext_trans hx3 hxn)) hgrow (fun k hk => (hblk k hk).1)
                have hne : ∀ b, (wc.heap.size ≤ b ∧ vv.ownBlock ≠ some b) → b < (w2.alloc (.cells #[.iface pty px] 20)).heap.size → wc.heap.size ≤ b ∧ (Value.slice (some ⟨g, 0, none⟩) (us.length + 1) cap).ownBlock ≠ some b := fun b hb hl => ⟨hb.1, fun e => by
                  simp only [Value.ownBlock, Option.some.injEq] at e
                  subst e
                  rcases hlies with hl2 | hl2
                  · exact hb.2 hl2
                  · omega⟩
                have hkp : Keeps (fun b => wc.heap.size ≤ b ∧ vv.ownBlock ≠ some b) (w2.alloc (.cells #[.iface pty px] 20)) w4 := keeps_grown hgrow (fun b hb e => hb.2 e.symm)
                have hV5 := Lib.hid (JsAt.snoc (JsAt.keep hne hkp _ (HV.out.ext (ext_trans hx3 hxn))) (JAt.keep hne hkp _ (HJ.out.to (S' := fun b => wc.heap.size ≤ b ∧ vv.ownBlock ≠ some b) (fun b hb _ => ⟨by omega, fun e => by have := (hblk b e).2; omega⟩))))
                have hown2 := Lib.hid hown
                clear hown hgrow hlies hne hkp hblk
                go_roundw
                case rel =>
                  first
                    | refine ⟨hx5, j + 1, us ++ [.iface pty px], _, rfl, by omega, by go_num, by simp [HUL.out], by simpa using hown2.out, ?_, ?_⟩
                    | (repeat apply Exists.intro
                       refine And.intro ?_ rfl
                       refine ⟨hx5, j + 1, us ++ [.iface pty px], _, rfl, by omega, by go_num, by simp [HUL.out], by simpa using hown2.out, ?_, ?_⟩)
                  · intro x hx
                    rcases List.mem_append.1 hx with hx | hx
                    · exact H1.out x hx
                    · simp at hx; subst hx; rfl
                  · rw [take_snoc HT.out]
                    exact hV5.out
                case measure => simp [intOf]; omega
              have hfull : uz.take j = uz := List.take_of_length_le (by have h2 := HVG.out.1; have h3 := HVL.out; omega)
              have hulen : uz.length = us.length := by have h2 := HVG.out.1; have h3 := HVL.out; have h4 := HUL.out; omega
              have hV := HV.out
              rw [hfull] at hV
              obtain ⟨la, lc, rfl, hq1, hq2, hq3⟩ := HO.out.cells (S := fun b => wc.heap.size ≤ b) (fun b hb => (World.ownsRow.lt HO.out b hb).1)
              have hJl : JAt (fun b => wc.heap.size ≤ b) wr (.iface 107 (.slice la us.length lc)) (.list uz) := by
                simp only [JAt]
                exact ⟨_, _, _, us, rfl, by have := HUL.out; omega, hulen, hq1, hq2, hq3, JsAt.keep (fun b hb _ => hb.1) (fun _ _ _ => rfl) _ hV⟩
              clear hq3 hV HO HV H1
              have hnl := hnc.ext hxr
              have hnlt := hnl.lt
              have hc0 := (hbq.ext (ext_trans hxc hxr)).cell 0 _ rfl
              have hc1 := (hbq.ext (ext_trans hxc hxr)).cell 1 _ rfl
              have hc2 := (hbq.ext (ext_trans hxc hxr)).cell 2 _ rfl
              have hc3 := (hbq.ext (ext_trans hxc hxr)).cell 3 _ rfl
              have hc4 := (hbq.ext (ext_trans hxc hxr)).cell 4 _ rfl
              have hc5 := (hbq.ext (ext_trans hxc hxr)).cell 5 _ rfl
              have hc6 := (hbq.ext (ext_trans hxc hxr)).cell 6 _ rfl
              have hc7 := (hbq.ext (ext_trans hxc hxr)).cell 7 _ rfl
              have hc8 := (hbq.ext (ext_trans hxc hxr)).cell 8 _ rfl
              go_wp2_with (at_mapUpdate; refine wp_put _ rfl _ _ _ 109 rfl 20 Tryz.underlying109 (w.heap.size + 1) rp rfl hnl (Nat.lt_of_le_of_lt hr (by decide)) s_should rfl (by decide) _ rfl ?_; intro wn hnn hgn)
              go_meet
              case rel =>
                have hxn := ext_put (ext_trans hxc hxr) hgn (by omega)
                have hkk : Keeps (fun b => w.heap.size + 1 < b) wr wn := keeps_grown hgn (fun b hb e => by simp only [Option.some.injEq] at e; omega)
                refine ⟨hxn, (hm0_2.ext hxr).grown hgn (someNe hne0), _, ?_, hnn, ?_⟩
                · rw [List.length_append]; exact Nat.succ_le_succ (by exact hr)
                · rw [jQ_many (QsAt.len Huz.out) hE]
                  exact PJ.snoc ((hpc.keep (S' := (fun b => w.heap.size + 1 < b)) (fun _ h _ => h) (Ext.keeps hxr _)).keep (fun _ h _ => h) hkk) (JAt.keep (S := (fun b => w.heap.size + 1 < b)) (fun _ h _ => h) hkk _ (hJl.to (fun b hb _ => by have := hnc.lt; omega)))
        case rest => as_aux_lemma =>
          obtain ⟨hxc, hm0_3, rp, hr, hnc, hpc⟩ := hcut
          have hbc := hbq.ext hxc
          have hc0 := hbc.cell 0 _ rfl
          have hc1 := hbc.cell 1 _ rfl
          have hc2 := hbc.cell 2 _ rfl
          have hc3 := hbc.cell 3 _ rfl
          have hc4 := hbc.cell 4 _ rfl
          have hc5 := hbc.cell 5 _ rfl
          have hc6 := hbc.cell 6 _ rfl
          have hc7 := hbc.cell 7 _ rfl
          have hc8 := hbc.cell 8 _ rfl
          go_upto_if 251 with fail
          go_cut [] (fun wc => Ext w wc ∧ MapAt wc w.heap.size [(s_bool, .iface 109 (.map (some (w.heap.size + 1))))] ∧ ∃ rp, rp.length ≤ 5 ∧ MapAt wc (w.heap.size + 1) rp ∧ PJ (fun b => w.heap.size + 1 < b) wc rp (jQ s_must um ++ jQ s_must_not ux ++ jQ s_filter uf ++ jQ s_should uz ++ jN s_boost (o5)))
          case first => as_aux_lemma =>
            cases o5 with
            | none =>
              have hv : v5 = none := H5.out
              subst hv
              go_wp2_with fail
              go_meet
              case rel =>
                refine ⟨hxc, hm0_3, rp, Nat.le_succ_of_le hr, hnc, ?_⟩
                rw [show jN s_boost none = [] from rfl, List.append_nil]
                exact hpc
            | some t5 =>
              obtain ⟨cc, hv, hSc, hcc⟩ := H5.out
              subst hv
              have hcc := hxc.cell hcc
              go_wp2_with (at_mapUpdate; refine wp_put _ rfl _ _ _ 109 rfl 20 Tryz.underlying109 (w.heap.size + 1) rp rfl hnc (Nat.lt_of_le_of_lt hr (by decide)) s_boost rfl (by decide) _ rfl ?_; intro wn hnn hgn)
              go_meet
              case rel =>
                have hxn := ext_put hxc hgn (by omega)
                refine ⟨hxn, hm0_3.grown hgn (someNe hne0), _, ?_, hnn, ?_⟩
                · rw [List.length_append]; exact Nat.succ_le_succ (by exact hr)
                · rw [show jN s_boost (some t5) = [(s_boost, .num t5.num)] from rfl]
                  exact PJ.snoc (hpc.keep (fun _ h _ => h) (keeps_grown hgn (fun b hb e => by simp only [Option.some.injEq] at e; omega))) (by simp only [JAt]; rfl)
          case rest => as_aux_lemma =>
            obtain ⟨hxc, hm0_4, rp, hr, hnc, hpc⟩ := hcut
            have hbc := hbq.ext hxc
            have hc0 := hbc.cell 0 _ rfl
            have hc1 := hbc.cell 1 _ rfl
            have hc2 := hbc.cell 2 _ rfl
            have hc3 := hbc.cell 3 _ rfl
            have hc4 := hbc.cell 4 _ rfl
            have hc5 := hbc.cell 5 _ rfl
            have hc6 := hbc.cell 6 _ rfl
            have hc7 := hbc.cell 7 _ rfl
            have hc8 := hbc.cell 8 _ rfl
            go_upto_if 264 with fail
            go_cut [] (fun wc => Ext w wc ∧ MapAt wc w.heap.size [(s_bool, .iface 109 (.map (some (w.heap.size + 1))))] ∧ ∃ rp, rp.length ≤ 6 ∧ MapAt wc (w.heap.size + 1) rp ∧ PJ (fun b => w.heap.size + 1 < b) wc rp (jQ s_must um ++ jQ s_must_not ux ++ jQ s_filter uf ++ jQ s_should uz ++ jN s_boost (o5) ++ jT s_minimum_should_match (o6)))
            case first => as_aux_lemma =>
              cases hE : v6.toList.isEmpty
              · have hE1 := jT_some (k := s_minimum_should_match) H6.out hE
                go_wp2_with (at_mapUpdate; refine wp_put _ rfl _ _ _ 109 rfl 20 Tryz.underlying109 (w.heap.size + 1) rp rfl hnc (Nat.lt_of_le_of_lt hr (by decide)) s_minimum_should_match rfl (by decide) _ rfl ?_; intro wn hnn hgn)
                go_meet
                case rel =>
                  have hxn := ext_put hxc hgn (by omega)
                  refine ⟨hxn, hm0_4.grown hgn (someNe hne0), _, ?_, hnn, ?_⟩
                  · rw [List.length_append]; exact Nat.succ_le_succ (by exact hr)
                  · rw [hE1]
                    exact PJ.snoc (hpc.keep (fun _ h _ => h) (keeps_grown hgn (fun b hb e => by simp only [Option.some.injEq] at e; omega))) (by simp only [JAt]; rfl)
              · have hE1 := jT_none (k := s_minimum_should_match) H6.out hE
                go_wp2_with fail
                go_meet
                case rel =>
                  refine ⟨hxc, hm0_4, rp, Nat.le_succ_of_le hr, hnc, ?_⟩
                  rw [hE1, List.append_nil]
                  exact hpc
            case rest => as_aux_lemma =>
              obtain ⟨hxc, hm0_5, rp, hr, hnc, hpc⟩ := hcut
              have hbc := hbq.ext hxc
              have hc0 := hbc.cell 0 _ rfl
              have hc1 := hbc.cell 1 _ rfl
              have hc2 := hbc.cell 2 _ rfl
              have hc3 := hbc.cell 3 _ rfl
              have hc4 := hbc.cell 4 _ rfl
              have hc5 := hbc.cell 5 _ rfl
              have hc6 := hbc.cell 6 _ rfl
              have hc7 := hbc.cell 7 _ rfl
              have hc8 := hbc.cell 8 _ rfl
              go_upto_if 275 with fail
              go_cut [] (fun wc => Ext w wc ∧ MapAt wc w.heap.size [(s_bool, .iface 109 (.map (some (w.heap.size + 1))))] ∧ ∃ rp, rp.length ≤ 7 ∧ MapAt wc (w.heap.size + 1) rp ∧ PJ (fun b => w.heap.size + 1 < b) wc rp (jQ s_must um ++ jQ s_must_not ux ++ jQ s_filter uf ++ jQ s_should uz ++ jN s_boost (o5) ++ jT s_minimum_should_match (o6) ++ jY s_adjust_pure_negative (o7)))
              case first => as_aux_lemma =>
                cases o7 with
                | none =>
                  have hv : v7 = none := H7.out
                  subst hv
                  go_wp2_with fail
                  go_meet
                  case rel =>
                    refine ⟨hxc, hm0_5, rp, Nat.le_succ_of_le hr, hnc, ?_⟩
                    rw [show jY s_adjust_pure_negative none = [] from rfl, List.append_nil]
                    exact hpc
                | some t7 =>
                  obtain ⟨cc, hv, hSc, hcc⟩ := H7.out
                  subst hv
                  have hcc := hxc.cell hcc
                  go_wp2_with (at_mapUpdate; refine wp_put _ rfl _ _ _ 109 rfl 20 Tryz.underlying109 (w.heap.size + 1) rp rfl hnc (Nat.lt_of_le_of_lt hr (by decide)) s_adjust_pure_negative rfl (by decide) _ rfl ?_; intro wn hnn hgn)
                  go_meet
                  case rel =>
                    have hxn := ext_put hxc hgn (by omega)
                    refine ⟨hxn, hm0_5.grown hgn (someNe hne0), _, ?_, hnn, ?_⟩
                    · rw [List.length_append]; exact Nat.succ_le_succ (by exact hr)
                    · rw [show jY s_adjust_pure_negative (some t7) = [(s_adjust_pure_negative, .yes t7.yes)] from rfl]
                      exact PJ.snoc (hpc.keep (fun _ h _ => h) (keeps_grown hgn (fun b hb e => by simp only [Option.some.injEq] at e; omega))) (by simp only [JAt]; rfl)
              case rest => as_aux_lemma =>
                obtain ⟨hxc, hm0_6, rp, hr, hnc, hpc⟩ := hcut
                have hbc := hbq.ext hxc
                have hc0 := hbc.cell 0 _ rfl
                have hc1 := hbc.cell 1 _ rfl
                have hc2 := hbc.cell 2 _ rfl
                have hc3 := hbc.cell 3 _ rfl
                have hc4 := hbc.cell 4 _ rfl
                have hc5 := hbc.cell 5 _ rfl
                have hc6 := hbc.cell 6 _ rfl
                have hc7 := hbc.cell 7 _ rfl
                have hc8 := hbc.cell 8 _ rfl
                go_upto_if 288 with fail
                go_cut [] (fun wc => Ext w wc ∧ MapAt wc w.heap.size [(s_bool, .iface 109 (.map (some (w.heap.size + 1))))] ∧ ∃ rp, rp.length ≤ 8 ∧ MapAt wc (w.heap.size + 1) rp ∧ PJ (fun b => w.heap.size + 1 < b) wc rp (jQ s_must um ++ jQ s_must_not ux ++ jQ s_filter uf ++ jQ s_should uz ++ jN s_boost (o5) ++ jT s_minimum_should_match (o6) ++ jY s_adjust_pure_negative (o7) ++ jT s_name (o8)))
                case first => as_aux_lemma =>
                  cases hE : v8.toList.isEmpty
                  · have hE1 := jT_some (k := s_name) H8.out hE
                    go_wp2_with (at_mapUpdate; refine wp_put _ rfl _ _ _ 109 rfl 20 Tryz.underlying109 (w.heap.size + 1) rp rfl hnc (Nat.lt_of_le_of_lt hr (by decide)) s_name rfl (by decide) _ rfl ?_; intro wn hnn hgn)
                    go_meet
                    case rel =>
                      have hxn := ext_put hxc hgn (by omega)
                      refine ⟨hxn, hm0_6.grown hgn (someNe hne0), _, ?_, hnn, ?_⟩
                      · rw [List.length_append]; exact Nat.succ_le_succ (by exact hr)
                      · rw [hE1]
                        exact PJ.snoc (hpc.keep (fun _ h _ => h) (keeps_grown hgn (fun b hb e => by simp only [Option.some.injEq] at e; omega))) (by simp only [JAt]; rfl)
                  · have hE1 := jT_none (k := s_name) H8.out hE
                    go_wp2_with fail
                    go_meet
                    case rel =>
                      refine ⟨hxc, hm0_6, rp, Nat.le_succ_of_le hr, hnc, ?_⟩
                      rw [hE1, List.append_nil]
                      exact hpc
                case rest => as_aux_lemma =>
                  obtain ⟨hxc, hm0_7, rp, hr, hnc, hpc⟩ := hcut
                  have hbc := hbq.ext hxc
                  have hc0 := hbc.cell 0 _ rfl
                  have hc1 := hbc.cell 1 _ rfl
                  have hc2 := hbc.cell 2 _ rfl
                  have hc3 := hbc.cell 3 _ rfl
                  have hc4 := hbc.cell 4 _ rfl
                  have hc5 := hbc.cell 5 _ rfl
                  have hc6 := hbc.cell 6 _ rfl
                  have hc7 := hbc.cell 7 _ rfl
                  have hc8 := hbc.cell 8 _ rfl
                  go_wp2_with fail
                  go_ret2
                  refine ⟨_, rfl, ?_, hxc⟩
                  exact jMap_one hm0_7 (Nat.le_refl _) ((hpc.keep (S' := fun b => w.heap.size ≤ b) (fun b hb _ => by omega) (fun _ _ _ => rfl)).map hnc (by omega) (by have := hpc.len; omega))
end Go.Proofs.YtfngaoicoecncaaGreatDoor

