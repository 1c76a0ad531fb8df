/-
  From a law's walk to its statement: the result is true, and each argument reads as it read.
-/
import Derived.Test.YtfngaoicoecncaaDoorBase
import Derived.ProofKit
import Derived.OpenShut
import Derived.JoinedCond
import Derived.Carry
import Derived.ChangeMaps5
namespace Go.Proofs.YtfngaoicoecncaaDoor
open Go.ChangeShapes Go.WideShapes Go.ChangeAt Go.RowKit

section
variable {H : Type} {enc : TypeId × Value → H} {P : Program}
theorem trods_below (hl : laidOutB P = true) {W W' : World} (hb : Ext W W') : ∀ {ts : List TypeId} {vs : List Value} {ds : List (DataW H)} {ps : List MemPlace}, ts.all (fun t => P.readableRec t && decide (t < P.types.size)) = true →
    (∀ x ∈ ps, x.block < W.heap.size) → DataW.TrodAll enc P W 0 (fun _ => true) true ts vs ds ps → DataW.TrodAll enc P W' 0 (fun b => decide (b < W.heap.size)) true ts vs ds ps
  | [], vs, ds, ps, _, _, h => by
    obtain ⟨rfl, rfl, rfl⟩ := trodAll_nil h
    exact trodAll_mk0
  | t :: ts, vs, ds, ps, hall, hlt, h => by
    simp only [List.all_cons, Bool.and_eq_true, decide_eq_true_eq] at hall
    obtain ⟨v, vs', d, ds', p, q, rfl, rfl, rfl, h0, hr⟩ := trodAll_cons h
    exact trodAll_cons_mk (Below.trod hl hall.1.1 hall.1.2 h0 hb fun x hx => hlt x (by simp [hx])) (trods_below hl hb hall.2 (fun x hx => hlt x (by simp [hx])) hr)

/-- What a law's statement asks behind the call. -/
theorem post_law {f : Func} {s : ChangeSpec} (hl : laidOutB P = true) (hp : f.params.toList.all (fun t => P.readableRec t && decide (t < P.types.size)) = true) {tb : TypeId} (hr : f.resultTypes = #[tb]) (htb : P.underlying tb = some .bool) (hv : s.vars = [])
    {W W' : World} {args : Array Value} {ds gs : List (DataW H)} {before : List MemPlace} (hW : DataW.Whole enc P f.params.toList s.vars false W args.toList ds gs before) (hfn : s.fn H (ds ++ gs) = { results := [.lit (.bool true)], args := ds }) (hx : Ext W W') :
    s.post enc P f false true false false W args (.bool true) W' := by
  have hlt : ∀ p ∈ before, p.block < W.heap.size := fun p hp => hW.lt p hp
  have hW0 := hW
  obtain ⟨pa, pv, hA, hV, rfl, hz, hn⟩ := hW0
  rw [hv] at hV
  obtain ⟨rfl, rfl⟩ := trodVars_none hV
  refine ⟨ds, [], pa ++ [], [], pa, [], hW, ?_, ?_, ?_, World.keptBut_mono (fun p hp => ⟨hp, .inr (.inl (by simpa using hp))⟩) (Below.frame hx (· ∈ pa ++ [])), fun h => by cases h⟩
  · rw [hfn, hr]
    exact trodAll_cons_mk (shut_bool htb _) trodAll_mk0
  · rw [hfn]
    exact trods_below hl hx hp (fun x hx => hlt x (by simp [hx])) hA
  · rw [hfn, hv]
    exact rfl
end
theorem laidOut : laidOutB Tryd.prog = true := by kernel_rfl
theorem ownKnobs : ownKnob Tryd.prog.godebug = none := by kernel_rfl
end Go.Proofs.YtfngaoicoecncaaDoor
