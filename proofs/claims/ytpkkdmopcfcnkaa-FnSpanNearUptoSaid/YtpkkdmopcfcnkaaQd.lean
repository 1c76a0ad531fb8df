/-
  How the builder of a dis_max query takes queries.
-/
import Derived.Test.YtpkkdmopcfcnkaaQs
import Derived.Test.YtpkkdmopcfcnkaaNm2
namespace Go.Proofs.Ytpkkdmopcfcnkaa
open Go.RowKit Go.Maps

theorem QsAt.addr {S : Nat → Prop} {w : World} {a : Option Addr} {n c : Nat} {js : List J} (h : QsAt S w a n c js) (hp : 0 < n) : ∃ b off vs, a = some ⟨b, off, none⟩ ∧ S b ∧ vs.length = n ∧ (∀ i u, vs[i]? = some u → w.cell? ⟨b, off + i, none⟩ = some u) ∧ GivesL S w vs js := by
  obtain ⟨vs, h1, h2, h3, h4, h5⟩ := h
  obtain ⟨u, hu⟩ := some_of_lt h1 hp
  obtain ⟨b, off, e, hS, -⟩ := h4 0 u hu
  refine ⟨b, off, vs, e, hS, h1, fun i v hv => ?_, h5⟩
  obtain ⟨b', off', e', -, hc⟩ := h4 i v hv
  rw [e] at e'
  cases e'
  exact hc
@[go_sem] theorem mk0q (w : World) : (Instr.makeSlice 113 (.int .i64 0) (.int .i64 0)).run Try.prog w = .ok (.slice (some ⟨w.heap.size, 0, none⟩) 0 0) (w.alloc (.cells #[] 157)) := by kernel_rfl
set_option maxRecDepth 20000 in
theorem newDisMax_any (w : World) : Calls Try.prog 86 #[] w fun r w' => r = .returned (.pointer (some ⟨w.heap.size + 1, 0, none⟩)) ∧ w' = (w.alloc (.cells #[] 157)).alloc (.cells #[.slice (some ⟨w.heap.size, 0, none⟩) 0 0, .pointer none, .pointer none, .string ⟨#[]⟩] 177) := by
  go_enter Try.func86, Try.ntmps86
  go_wp2_with fail
  go_ret
  exact ⟨by simp, rfl⟩
set_option maxRecDepth 20000 in
set_option maxHeartbeats 1000000 in
theorem disQuery_any {S : Nat → Prop} (w : World) (b base : Nat) (v : Value) (vs : List Value) (z1 z2 z3 : Value) (js ks : List J) (hb : Box w b #[v, z1, z2, z3] 177) (hO : OwnV 157 w base v vs) (hbase : base ≤ w.heap.size) (hne : v.ownBlock ≠ some b)
    (hS : ∀ q, S q → q ≠ b ∧ v.ownBlock ≠ some q) (hG : GivesL S w vs js) (qb qo n c : Nat) (us : List Value) (hul : us.length = n) (hp : 0 < n) (hn : vs.length + n ≤ 4294967296) (hc : ∀ i u, us[i]? = some u → w.cell? ⟨qb, qo + i, none⟩ = some u) (hU : GivesL S w us ks) :
    Calls Try.prog 87 #[.pointer (some ⟨b, 0, none⟩), .slice (some ⟨qb, qo, none⟩) n c] w fun r w' => r = .returned (.pointer (some ⟨b, 0, none⟩)) ∧ ∃ g cap, OwnV 157 w' base (.slice (some ⟨g, 0, none⟩) (vs.length + n) cap) (vs ++ us) ∧ GivesL S w' (vs ++ us) (js ++ ks) ∧
      Box w' b #[.slice (some ⟨g, 0, none⟩) (vs.length + n) cap, z1, z2, z3] 177 ∧ Lies w v g ∧ w.heap.size ≤ w'.heap.size ∧ Keeps (fun q => q ≠ b ∧ v.ownBlock ≠ some q) w w' ∧ ∀ w0, Ext w0 w → w0.heap.size ≤ base → w0.heap.size ≤ b → Ext w0 w' := by
  have c0 := hb.cell 0 _ rfl
  have f0 := hb.free 0
  have hl := hb.lt
  have HC := Lib.hid hc
  have HO := Lib.hid hO
  have HG := Lib.hid (GivesL.append hG hU)
  clear hc hO
  go_enter Try.func87, Try.ntmps87
  have tokC := trivial
  go_wp2_with (first
    | (at_builtin; have _t := tokC; clear _t tokC; refine list_append_query _ rfl _ _ rfl base v vs rfl HO.out qb qo n c us (by omega) hul hU.cells rfl HC.out (by omega) hbase ?_; intro g cap w1 hown hgrow hlies hglt
       have hb1 := hb.grown hgrow (fun e => hne e.symm)
       have c1 := hb1.cell 0 _ rfl
       have f1 := hb1.free 0
       have hBl := hb1.lt)
    | fail)
  go_ret
  have hgb : g ≠ b := by
    rcases hlies with h | h
    · intro e; subst e; exact hne h
    · omega
  have hsz : w.heap.size ≤ w1.heap.size := hgrow.size
  have hk1 : Keeps (fun q => q ≠ b ∧ v.ownBlock ≠ some q) w w1 := keeps_grown hgrow (fun q hq e => hq.2 e.symm)
  have hk2 : Keeps (fun q => q ≠ b) w1 (w1.setCell ⟨b, 0, none⟩ (.slice (some ⟨g, 0, none⟩) (vs.length + us.length) cap)) := fun q hq _ => Below.heap_setCell _ _ _ _ hq
  have hk : Keeps (fun q => q ≠ b ∧ v.ownBlock ≠ some q) w (w1.setCell ⟨b, 0, none⟩ (.slice (some ⟨g, 0, none⟩) (vs.length + us.length) cap)) := fun q hq hl2 => (hk2 q hq.1 (by omega)).trans (hk1 q hq hl2)
  subst hul
  refine ⟨rfl, g, cap, OwnV.grown hown (grown_set _ _ _) (.inr (by simp only [Value.ownBlock]; exact someNe hgb)), HG.out.keep (fun _ h _ => h) (fun q hq hl2 => hk q (hS q hq) hl2) (by simp; omega), hb1.set 0 _, hlies, by simp; omega, hk, ?_⟩
  intro w0 hx h1 h2
  exact ext_set (ext_grown hx hgrow (fun k hk => by have := HO.out.block (g := k) hk; omega)) h2 _
theorem newSpanNear_any (w : World) (a : Option Addr) (n c : Nat) : Calls Try.prog 93 #[.slice a n c] w fun r w' => r = .returned (.pointer (some ⟨w.heap.size, 0, none⟩)) ∧ w' = w.alloc (.cells #[.slice a n c, .pointer none, .pointer none, .pointer none, .string ⟨#[]⟩] 179) := by
  go_enter Try.func93, Try.ntmps93
  go_wp2_with fail
  go_ret
  exact ⟨rfl, rfl⟩
end Go.Proofs.Ytpkkdmopcfcnkaa
