/-
  A query that is made of others, and these of others again, is the tree that is made of their trees: the tied card of the statement FnWhole in its second form: where what comes in is of bulk at most 1048576.
-/
import Derived.Test.YtfngaoicoecncaaGreatDoorRq
import Derived.Test.YtfngaoicoecncaaGreatDoorNx
import Derived.Test.YtfngaoicoecncaaGreatDoorNi
import Derived.Test.YtfngaoicoecncaaGreatDoorLx
import Derived.Test.YtfngaoicoecncaaGreatDoorZz
import Derived.Test.YtfngaoicoecncaaGreatDoorCards
import Derived.Lay
import Derived.LaidMore
import Derived.SevenTiedAt
import Derived.ProofKit
import Derived.OpenShut
import Derived.Stop.Joined
import Derived.Deep.DeepHandedRow
import Derived.Test.YtfngaoicoecncaaGreatDoorOb
import Derived.Test.YtfngaoicoecncaaGreatDoorTie
namespace Go.Proofs.YtfngaoicoecncaaGreatDoor
open Go.RowKit

set_option maxRecDepth 20000 in
set_option maxHeartbeats 4000000 in
theorem fits6_any (ek : Int) (ex : ByteArray) (epa : Option Addr) (epn epc : Nat) (eka : Option Addr) (ekn ekc : Nat) (w : World) (h1 : ¬ 2147483647 < ex.size) (h2 : ¬ 2147483647 < epn) (h3 : ¬ 2147483647 < ekn) : Calls Tryz.prog 19 #[(⟨ek, ex, epa, epn, epc, eka, ekn, ekc⟩ : Nv).val] w fun r w' => r = .returned (.bool true) ∧ Ext w w' := by
  simp only [Nv.val]
  go_enter Tryz.func19, Tryz.ntmps19
  go_wp2_with fail
  go_ret
  exact ⟨rfl, by (repeat (first | exact ext_refl _ | assumption | refine ext_alloc ?_ _ | refine ext_drew ?_ | refine ext_set ?_ (by simp) _ | refine ext_trans ?_ (by assumption)))⟩
set_option maxRecDepth 20000 in
set_option maxHeartbeats 8000000 in
theorem whole_law {S : Nat → Prop} (e : Nv) (r0 : Nd) (w : World) (h : NodeAt S w e r0) (hSm : SmallN 1048576 r0) : Calls Tryz.prog 5 #[e.val] w fun r w' => r = .returned (.bool true) ∧ Ext w w' := by
  have hsz : e.x.size ≤ 1048576 ∧ e.pn ≤ 1048576 ∧ e.kn ≤ 1048576 := by
    obtain ⟨k, x, ps, ks⟩ := r0
    obtain ⟨h1, h2, hP, hK⟩ := h.parts
    simp only [SmallN] at hSm
    have h3 := hP.1
    have h4 := hK.1
    rw [h2]
    omega
  have hN := Lib.hid fun w' (x : Ext w w') => NodeAt.ext x h
  have hFt := Lib.hid fun w' (x : Ext w w') => nfit_at 8 (by decide) r0 hSm S e w' (NodeAt.ext x h)
  have hTo := Lib.hid fun w' (x : Ext w w') => told3 r0 hSm S e w' (NodeAt.ext x h)
  have hIm := Lib.hid fun w' (x : Ext w w') (hF : FitN r0) => wholeI_any e r0 w' (NodeAt.ext x h) hF hSm
  have HRD := Lib.hid fun (hF : FitN r0) => reads_node r0 hF hSm
  clear h hSm
  obtain ⟨ek, ex, epa, epn, epc, eka, ekn, ekc⟩ := e
  simp only at hsz
  have hZ := Lib.hid fun w' => fits6_any ek ex epa epn epc eka ekn ekc w' (by omega) (by omega) (by omega)
  clear hsz
  simp only [Nv.val] at hFt hTo hIm hZ ⊢
  have hbR : Box (w.alloc (.cells #[.int .i64 ek, .string ex, .slice epa epn epc, .slice eka ekn ekc] 41)) w.heap.size #[.int .i64 ek, .string ex, .slice epa epn epc, .slice eka ekn ekc] 41 := Box.at rfl _ _
  have hxR : Ext w (w.alloc (.cells #[.int .i64 ek, .string ex, .slice epa epn epc, .slice eka ekn ekc] 41)) := ext_alloc (ext_refl _) _
  go_enter Tryz.func5, Tryz.ntmps5
  go_wp2_with (first
    | (go_at_call 19; refine (hZ.out _).mono ?_; rintro r w1 ⟨rfl, hx1⟩
       have hxw1 := ext_trans hxR hx1
       have hb1 := hbR.ext hx1
       have k0 := hb1.cell 0 _ rfl; have k1 := hb1.cell 1 _ rfl; have k2 := hb1.cell 2 _ rfl; have k3 := hb1.cell 3 _ rfl)
    | (go_at_call 14; refine (hFt.out _ hxw1).mono ?_; rintro r w2 ⟨bf, rfl, hf, hx2⟩
       have HF := Lib.hid hf
       clear hf
       have hxw2 := ext_trans hxw1 hx2
       have hb2 := hb1.ext hx2
       have k0 := hb2.cell 0 _ rfl; have k1 := hb2.cell 1 _ rfl; have k2 := hb2.cell 2 _ rfl; have k3 := hb2.cell 3 _ rfl
       cases bf))
  all_goals (try (go_ret; exact ⟨rfl, hxw2⟩))
  have hfit := HF.out (by trivial)
  refine (hIm.out w2 hxw2 hfit).mono ?_
  rintro r w3 ⟨g, rfl, hT, hx3⟩
  simp only [El.val]
  go_upto_region 6 with fail
  have hb3 : Box (w3.alloc (.cells g.arr 26)) w3.heap.size g.arr 26 := Box.at rfl _ _
  have hx34 := ext_alloc hx3 (.cells g.arr 26)
  have hbR4 := hb2.ext hx34
  have hxw4 := ext_trans hxw2 hx34
  have hT3 := Lib.hid (hT.ext (ext_alloc (ext_refl w3) (.cells g.arr 26)))
  clear hT hx3 hx34
  generalize w3.alloc (.cells g.arr 26) = w4 at hb3 hbR4 hxw4 hT3 ⊢
  generalize w3.heap.size = b3 at hb3 ⊢
  have HOK := Lib.hid (sameT_self (nodeT r0) (ok_nodeT r0))
  refine wp_region_order (fun (w' : World) => Six w' b3 g ∧ w'.cell? ⟨w.heap.size, 0, none⟩ = some (.int .i64 ek) ∧ w'.cell? ⟨w.heap.size, 1, none⟩ = some (.string ex) ∧ w'.cell? ⟨w.heap.size, 2, none⟩ = some (.slice epa epn epc) ∧ w'.cell? ⟨w.heap.size, 3, none⟩ = some (.slice eka ekn ekc)) [0, 1, 2, 4, 8] [0, 1, 2, 4, 3, 5, 6, 7, 8, 9] (by kernel_rfl) (by kernel_rfl) (fun d _ _ _ _ h => by cases d <;> exact h) (by kernel_rfl) ?_
  have hS : (fun (w' : World) => Six w' b3 g ∧ w'.cell? ⟨w.heap.size, 0, none⟩ = some (.int .i64 ek) ∧ w'.cell? ⟨w.heap.size, 1, none⟩ = some (.string ex) ∧ w'.cell? ⟨w.heap.size, 2, none⟩ = some (.slice epa epn epc) ∧ w'.cell? ⟨w.heap.size, 3, none⟩ = some (.slice eka ekn ekc)) w4.drew := ⟨hb3.Six, hbR4.cell 0 _ rfl, hbR4.cell 1 _ rfl, hbR4.cell 2 _ rfl, hbR4.cell 3 _ rfl⟩
  (apply ord_held rfl rfl (by assumption) rfl; (focus ((intro w' hS'); go_simp; (try with_reducible rfl))); (try simp only [Act.put, List.setIfInBounds_toArray, List.set_cons_zero, List.set_cons_succ]))
  (apply ord_held rfl rfl (by assumption) rfl; (focus ((intro w' hS'); go_simp; (try with_reducible rfl))); (try simp only [Act.put, List.setIfInBounds_toArray, List.set_cons_zero, List.set_cons_succ]))
  (apply ord_guard rfl rfl (by assumption) rfl; (focus ((intro w' hS'); go_simp; (try with_reducible rfl))); (try simp only [Act.put, List.setIfInBounds_toArray, List.set_cons_zero, List.set_cons_succ]))
  (apply ord_guard rfl rfl (by assumption) rfl; (focus ((intro w' hS'); go_simp; (try with_reducible rfl))); (try simp only [Act.put, List.setIfInBounds_toArray, List.set_cons_zero, List.set_cons_succ]))
  (apply ord_want rfl rfl rfl; intro K hK; go_simp)
  refine ((HRD.out hfit).1 _ g _ (hT3.out.ext (ext_drew (ext_refl w4)))).mono ?_
  rintro r wr ⟨gr, rfl, hTr, hxr⟩
  have hS1 : (fun (w' : World) => Six w' b3 g ∧ w'.cell? ⟨w.heap.size, 0, none⟩ = some (.int .i64 ek) ∧ w'.cell? ⟨w.heap.size, 1, none⟩ = some (.string ex) ∧ w'.cell? ⟨w.heap.size, 2, none⟩ = some (.slice epa epn epc) ∧ w'.cell? ⟨w.heap.size, 3, none⟩ = some (.slice eka ekn ekc)) wr := ⟨Six.ext hxr hS.1, hxr.cell hS.2.1, hxr.cell hS.2.2.1, hxr.cell hS.2.2.2.1, hxr.cell hS.2.2.2.2⟩
  refine hK _ _ (fun _ => hS1) ?_
  clear hK K
  try simp only [El.val]
  (try simp only [Act.put, List.setIfInBounds_toArray, List.set_cons_zero, List.set_cons_succ])
  have hxwr := ext_trans (ext_drew hxw4) hxr
  (apply ord_want rfl rfl rfl; intro K hK; go_simp)
  refine (hTo.out _ hxwr).mono ?_
  rintro r wt ⟨gt, rfl, hTt, hxt⟩
  have hS2 : (fun (w' : World) => Six w' b3 g ∧ w'.cell? ⟨w.heap.size, 0, none⟩ = some (.int .i64 ek) ∧ w'.cell? ⟨w.heap.size, 1, none⟩ = some (.string ex) ∧ w'.cell? ⟨w.heap.size, 2, none⟩ = some (.slice epa epn epc) ∧ w'.cell? ⟨w.heap.size, 3, none⟩ = some (.slice eka ekn ekc)) wt := ⟨Six.ext hxt hS1.1, hxt.cell hS1.2.1, hxt.cell hS1.2.2.1, hxt.cell hS1.2.2.2.1, hxt.cell hS1.2.2.2.2⟩
  refine hK _ _ (fun _ => hS2) ?_
  clear hK K
  try simp only [El.val]
  (try simp only [Act.put, List.setIfInBounds_toArray, List.set_cons_zero, List.set_cons_succ])
  (apply ord_want rfl rfl rfl; intro K hK; go_simp)
  refine ((HRD.out hfit).2 _ gt _ hTt).mono ?_
  rintro r wv ⟨gv, rfl, hTv, hxv⟩
  have hS3 : (fun (w' : World) => Six w' b3 g ∧ w'.cell? ⟨w.heap.size, 0, none⟩ = some (.int .i64 ek) ∧ w'.cell? ⟨w.heap.size, 1, none⟩ = some (.string ex) ∧ w'.cell? ⟨w.heap.size, 2, none⟩ = some (.slice epa epn epc) ∧ w'.cell? ⟨w.heap.size, 3, none⟩ = some (.slice eka ekn ekc)) wv := ⟨Six.ext hxv hS2.1, hxv.cell hS2.2.1, hxv.cell hS2.2.2.1, hxv.cell hS2.2.2.2.1, hxv.cell hS2.2.2.2.2⟩
  refine hK _ _ (fun _ => hS3) ?_
  clear hK K
  try simp only [El.val]
  (try simp only [Act.put, List.setIfInBounds_toArray, List.set_cons_zero, List.set_cons_succ])
  (apply ord_want rfl rfl rfl; intro K hK; go_simp)
  refine (same_any (S := fun _ => True) _ _ gr gv _ ((hTr.ext (ext_trans hxt hxv)).any) hTv.any).mono ?_
  rintro r ws ⟨rfl, hxs⟩
  have hS4 : (fun (w' : World) => Six w' b3 g ∧ w'.cell? ⟨w.heap.size, 0, none⟩ = some (.int .i64 ek) ∧ w'.cell? ⟨w.heap.size, 1, none⟩ = some (.string ex) ∧ w'.cell? ⟨w.heap.size, 2, none⟩ = some (.slice epa epn epc) ∧ w'.cell? ⟨w.heap.size, 3, none⟩ = some (.slice eka ekn ekc)) ws := ⟨Six.ext hxs hS3.1, hxs.cell hS3.2.1, hxs.cell hS3.2.2.1, hxs.cell hS3.2.2.2.1, hxs.cell hS3.2.2.2.2⟩
  refine hK _ _ (fun _ => hS4) ?_
  clear hK K
  try simp only [El.val]
  rw [HOK.out]
  (try simp only [Act.put, List.setIfInBounds_toArray, List.set_cons_zero, List.set_cons_succ])
  (apply ord_held rfl rfl (by assumption) rfl; (focus ((intro w' hS'); go_simp; (try with_reducible rfl))); (try simp only [Act.put, List.setIfInBounds_toArray, List.set_cons_zero, List.set_cons_succ]))
  (apply ord_last rfl rfl rfl (by kernel_rfl); intro K hK; go_simp; refine hK _ _ ?_; clear hK K; (try simp only [Act.put, List.setIfInBounds_toArray, List.set_cons_zero, List.set_cons_succ]))
  refine ord_end ?_
  go_wp2_with fail
  go_ret
  exact ⟨rfl, ext_trans hxwr (ext_trans hxt (ext_trans hxv hxs))⟩
end Go.Proofs.YtfngaoicoecncaaGreatDoor

namespace Go.Proofs.YtfngaoicoecncaaGreatDoor
open Go.ChangeShapes Go.WideShapes Go.ChangeAt Go.RowKit

set_option maxRecDepth 100000 in
theorem lay_shaped (os : Os) (args : Array Value) : World.Shaped Tryz.prog ((World.laidAll Tryz.prog os Rows.fnCommonTermsRow.laid).forCall (fun _ _ => 0) ⟨#[], args, []⟩) := World.shaped_of_ZipB (by kernel_rfl) (by kernel_rfl)
set_option maxRecDepth 100000 in
theorem lay_met (os : Os) (args : Array Value) : laidMetH Tryz.prog Rows.fnCommonTermsRow.laid ((World.laidAll Tryz.prog os Rows.fnCommonTermsRow.laid).forCall (fun _ _ => 0) ⟨#[], args, []⟩).memory := by
  rw [MakeChecks.laidMetH_plain _ _ _ (by kernel_rfl)]
  exact laidMet_laidAll _ (by kernel_rfl) (by kernel_rfl)
theorem witness_laid {H : Type} {enc : TypeId × Value → H} (os : Os) (args : Array Value) {f : FuncId} {fn : Func} {s : OpenSpec} {conds : List PathCond} {apart : Bool} {laid : List (String × DataW Unit)}
    (hok : Input.okWideB Tryz.prog ((World.laidAll Tryz.prog os Rows.fnCommonTermsRow.laid).forCall (fun _ _ => 0) ⟨#[], args, []⟩) f ⟨#[], args, []⟩ = true)
    (hrow : s.preRow enc Tryz.prog fn conds apart laid ((World.laidAll Tryz.prog os Rows.fnCommonTermsRow.laid).forCall (fun _ _ => 0) ⟨#[], args, []⟩).memory args) :
    ∃ (w : World) (tape : Tape) (i : Input), w.os = os ∧ (w.forCall tape i).Shaped Tryz.prog ∧ i.vars = [] ∧ Input.okWide Tryz.prog (w.forCall tape i) .any w.heap.size f i ∧
      s.preRow enc Tryz.prog fn conds apart laid (w.forCall tape i).memory i.args ∧ ({} : Assume).holds Tryz.prog (lone (Frame.enter Tryz.prog f i.args .normal) [] (w.forCall tape i)) :=
  ⟨World.laidAll Tryz.prog os Rows.fnCommonTermsRow.laid, fun _ _ => 0, ⟨#[], args, []⟩, World.laidAll_os _ _ _, lay_shaped os args, (Input.okWide_of_okWideB (base := 0) hok).1, (Input.okWide_of_okWideB hok).2, hrow, by
    simp only [Assume.holds]
    exact ⟨by simp, by simp, by simp, by simp, by simp⟩⟩
end Go.Proofs.YtfngaoicoecncaaGreatDoor

namespace Go.Proofs.YtfngaoicoecncaaGreatDoor
open Go.ChangeShapes Go.WideShapes Go.ChangeAt Go.RowKit

section
variable {H : Type} {enc : TypeId × Value → H} {w : World} {base : Nat} {spare : Nat → Bool} {held : Bool}
theorem cells_ints : Tryz.prog.cellsOf 38 = 1 := by kernel_rfl
theorem cells_nodes : Tryz.prog.cellsOf 37 = 1 := by kernel_rfl
theorem cells_node : Tryz.prog.cellsOf 41 = 4 := by kernel_rfl
theorem ints_none (w : World) : IntsAt (fun _ => True) w none 0 0 [] := ⟨rfl, Nat.le_refl _, by simp [maxLen], fun _ _ h => by simp at h⟩
theorem nodes_none (w : World) : NodesAt (fun _ => True) w none 0 0 [] := ⟨rfl, Nat.le_refl _, by simp [maxLen], by simp [RowN]⟩
theorem ints_small {fuel : Nat} {cs : List Value} {x : DataW H × List MemPlace} (h : DataW.trod enc Tryz.prog w base spare held fuel 38 cs = some x) :
    ∃ a n c l, cs = [.slice a n c] ∧ IntsAt (fun _ => True) w a n c l ∧ l.length ≤ Rows.uptoBulk x.1 := by
  rcases DataW.trod_slice Tryz.underlying38 h with ⟨rfl, -⟩ | ⟨a, len, cap, elems, rest, n, -, rfl, hxx, -, hl, hm, hlen, hel, -, -⟩
  · exact ⟨none, 0, 0, [], rfl, ints_none w, Nat.zero_le _⟩
  · rw [cells_int] at hel
    obtain ⟨ss, h1, h2⟩ := choose_list (fun i (z : Int) => w.cell? (a.add i) = some (.int .i64 z)) len fun i hi => by
      have h1 := hel i hi
      obtain ⟨y, hy⟩ := some_of_lt hlen hi
      rw [hy, Option.bind_eq_some_iff] at h1
      obtain ⟨cs', hc, ht⟩ := h1
      obtain ⟨-, -, hat⟩ := World.cells?_some hc
      obtain ⟨z, rfl, -, -⟩ := DataW.trod_int Tryz.underlying3 ht
      have := hat 0 (by omega)
      exact ⟨z, by simpa [Addr.add_add] using this⟩
    refine ⟨some a, len, cap, ss, rfl, ⟨h1, hl, hm, fun i s hi => ?_⟩, ?_⟩
    rotate_left
    · have h5 := bulk_len (List.map (fun x => x.fst) elems)
      rw [List.length_map] at h5
      subst hxx
      simp only [Rows.uptoBulk]
      omega
    have hc := h2 i s hi
    have h0 : a = ⟨a.block, a.off, none⟩ := by
      obtain ⟨s0, hs0⟩ := some_of_lt h1 (show 0 < len by have := (List.getElem?_eq_some_iff.1 hi).1; omega)
      exact spot_none (by simpa [Addr.add] using h2 0 s0 hs0)
    rw [h0, Addr.add_lit] at hc
    exact ⟨a.block, a.off, by rw [← h0], trivial, hc⟩
/-- A list of nodes, if each node is as told. -/
theorem nodes_of {n0 : Nat} {x3 : DataW H × List MemPlace} {c3 : Value} (ih : ∀ m, m < n0 → ∀ (cs : List Value) (x : DataW H × List MemPlace), DataW.trod enc Tryz.prog w base spare held m 41 cs = some x → ∃ (e : Nv) (r : Nd), cs = e.cells ∧ NodeAt (fun _ => True) w e r ∧ SmallN (Rows.uptoBulk x.1) r)
    (f3 : DataW.trod enc Tryz.prog w base spare held n0 37 [c3] = some x3) : ∃ ka kn kc ks, c3 = .slice ka kn kc ∧ NodesAt (fun _ => True) w ka kn kc ks ∧ ks.length ≤ Rows.uptoBulk x3.1 ∧ SmallNs (Rows.uptoBulk x3.1) ks := by
  rcases DataW.trod_slice Tryz.underlying37 f3 with ⟨e5, -⟩ | ⟨a, len, cap, elems, rest, n', hn', e5, hxx, -, hl, hm, hlen, hel, -, -⟩
  · cases e5
    exact ⟨none, 0, 0, [], rfl, nodes_none _, Nat.zero_le _, by simp [SmallNs]⟩
  · cases e5
    rw [cells_node] at hel
    obtain ⟨Z, h1, h2⟩ := choose_list (fun i (z : Nv × Nd) => (∀ j v, z.1.cells[j]? = some v → w.cell? (a.add (i * 4 + j)) = some v) ∧ NodeAt (fun _ => True) w z.1 z.2 ∧ SmallN (Rows.uptoBulk x3.1) z.2) len fun i hi => by
      have h1 := hel i hi
      obtain ⟨q, hq⟩ := some_of_lt hlen hi
      rw [hq, Option.bind_eq_some_iff] at h1
      obtain ⟨cs', hc, ht⟩ := h1
      obtain ⟨-, hcl', hat⟩ := World.cells?_some hc
      obtain ⟨e, t, rfl, hT, hSt⟩ := ih n' (by omega) cs' _ ht
      have h5 : q.1 ∈ List.map (fun x => x.fst) elems := List.mem_map.2 ⟨q, List.mem_of_getElem? hq, rfl⟩
      have h6 := bulk_part h5
      refine ⟨(e, t), fun j v hj => ?_, hT, SmallN.mono (by rw [hxx]; simp only [Rows.uptoBulk]; omega) hSt⟩
      have hj6 : j < 4 := by have := (List.getElem?_eq_some_iff.1 hj).1; simpa [Nv.cells] using this
      rw [← Addr.add_add, hat j hj6]
      exact hj
    have hZl : (Z.map Prod.snd).length ≤ Rows.uptoBulk x3.1 := by
      have h5 := bulk_len (List.map (fun x => x.fst) elems)
      rw [List.length_map] at h5
      rw [List.length_map, h1, hxx]
      simp only [Rows.uptoBulk]
      omega
    have hZs : SmallNs (Rows.uptoBulk x3.1) (Z.map Prod.snd) := (smallNs_iff _ _).2 fun t ht => by
      obtain ⟨z, hz, rfl⟩ := List.mem_map.1 ht
      obtain ⟨i, hi⟩ := List.getElem?_of_mem hz
      exact (h2 i z hi).2.2
    refine ⟨some a, len, cap, Z.map Prod.snd, rfl, ⟨by simp [h1], hl, hm, RowN.of fun i t hi => ?_⟩, hZl, hZs⟩
    simp only [List.getElem?_map, Option.map_eq_some_iff] at hi
    obtain ⟨z, hz, rfl⟩ := hi
    obtain ⟨hc, hT, -⟩ := h2 i z hz
    have h0 : a = ⟨a.block, a.off, none⟩ := by
      obtain ⟨z0, hz0⟩ := some_of_lt h1 (show 0 < len by have := (List.getElem?_eq_some_iff.1 hz).1; omega)
      have := (h2 0 z0 hz0).1 0 _ rfl
      exact spot_none (by simpa [Addr.add] using this)
    rw [h0] at hc
    simp only [Addr.add_lit] at hc
    have ha : ∀ j, a.off + (i * 4 + j) = a.off + (0 + i) * 4 + j := fun j => by omega
    simp only [ha] at hc
    exact ⟨a.block, a.off, z.1, by rw [← h0], trivial, ⟨hc 0 _ rfl, hc 1 _ rfl, hc 2 _ rfl, hc 3 _ rfl⟩, hT⟩
set_option maxRecDepth 20000 in
set_option maxHeartbeats 1000000 in
theorem node_small : ∀ (fuel : Nat) (cs : List Value) (x : DataW H × List MemPlace), DataW.trod enc Tryz.prog w base spare held fuel 41 cs = some x → ∃ (e : Nv) (r : Nd), cs = e.cells ∧ NodeAt (fun _ => True) w e r ∧ SmallN (Rows.uptoBulk x.1) r := by
  intro fuel
  induction fuel using Nat.strongRecOn with
  | ind fuel ih =>
    intro cs x h
    obtain ⟨xs, n, rfl, rfl, hcl, hxl, hf⟩ := DataW.trod_struct Tryz.underlying41 h
    rw [cells_node] at hcl
    match cs, hcl with
    | [c0, c1, c2, c3], _ =>
      match xs, hxl with
      | [x0, x1, x2, x3], _ =>
        have f0 : DataW.trod enc Tryz.prog w base spare held n 3 (List.take (Tryz.prog.cellsOf 3) (List.drop 0 [c0, c1, c2, c3])) = some x0 := hf 0 _ rfl
        rw [cells_int] at f0
        have f0 : DataW.trod enc Tryz.prog w base spare held n 3 [c0] = some x0 := f0
        have f1 : DataW.trod enc Tryz.prog w base spare held n 9 (List.take (Tryz.prog.cellsOf 9) (List.drop 1 [c0, c1, c2, c3])) = some x1 := hf 1 _ rfl
        rw [cells_string] at f1
        have f1 : DataW.trod enc Tryz.prog w base spare held n 9 [c1] = some x1 := f1
        have f2 : DataW.trod enc Tryz.prog w base spare held n 38 (List.take (Tryz.prog.cellsOf 38) (List.drop 2 [c0, c1, c2, c3])) = some x2 := hf 2 _ rfl
        rw [cells_ints] at f2
        have f2 : DataW.trod enc Tryz.prog w base spare held n 38 [c2] = some x2 := f2
        have f3 : DataW.trod enc Tryz.prog w base spare held n 37 (List.take (Tryz.prog.cellsOf 37) (List.drop 3 [c0, c1, c2, c3])) = some x3 := hf 3 _ rfl
        rw [cells_nodes] at f3
        have f3 : DataW.trod enc Tryz.prog w base spare held n 37 [c3] = some x3 := f3
        obtain ⟨k, e0, -, -⟩ := DataW.trod_int Tryz.underlying3 f0
        obtain ⟨s, e1, hx1, -⟩ := DataW.trod_string Tryz.underlying9 f1
        obtain ⟨pa, pn, pc, ps, e2, hps, hpl⟩ := ints_small f2
        obtain ⟨ka, kn, kc, ks, e3, hR, hkl, hks⟩ := nodes_of (fun m hm => ih m (by omega)) f3
        simp only [List.cons.injEq, and_true] at e0 e1 e2
        subst e0 e1 e2 e3
        have hs1 : Rows.uptoBulk x1.1 = s.data.toList.length + 1 := by rw [hx1]; simp [Rows.uptoBulk]
        have hs2 := Lib.size_eq s
        have hB : Rows.uptoBulk (DataW.agg (List.map (fun x => x.fst) [x0, x1, x2, x3])) = Rows.uptoBulk x0.1 + (Rows.uptoBulk x1.1 + (Rows.uptoBulk x2.1 + (Rows.uptoBulk x3.1 + 0))) + 1 := by simp only [Rows.uptoBulk, List.map_cons, List.map_nil, Rows.uptoBulkAll]
        refine ⟨⟨k, s, pa, pn, pc, ka, kn, kc⟩, .mk k s ps ks, rfl, NodeAt.of rfl rfl hps hR, ?_⟩
        rw [SmallN, hB]
        exact ⟨by omega, by omega, by omega, SmallNs.mono (by omega) hks⟩
theorem nodes_small {fuel : Nat} {c : Value} {x : DataW H × List MemPlace} (h : DataW.trod enc Tryz.prog w base spare held fuel 37 [c] = some x) :
    ∃ ka kn kc ks, c = .slice ka kn kc ∧ NodesAt (fun _ => True) w ka kn kc ks ∧ ks.length ≤ Rows.uptoBulk x.1 ∧ SmallNs (Rows.uptoBulk x.1) ks := nodes_of (fun m _ => node_small m) h
set_option maxRecDepth 20000 in
theorem node_valS {fuel : Nat} {r : Reach} {b0 : Nat} {v : Value} {x : DataW H × List MemPlace} {W : World} (hv : Value.okWide Tryz.prog W r b0 41 v) (h : DataW.trod enc Tryz.prog w base spare held fuel 41 v.cells.toList = some x) :
    ∃ (e : Nv) (t : Nd), v = e.val ∧ NodeAt (fun _ => True) w e t ∧ SmallN (Rows.uptoBulk x.1) t := by
  obtain ⟨cs, rfl, -⟩ := okWide_struct Tryz.underlying41 hv
  obtain ⟨e, t, he, hT, hSt⟩ := node_small fuel _ _ h
  refine ⟨e, t, ?_, hT, hSt⟩
  have he : cs.toList = e.cells := he
  have : cs = e.cells.toArray := by rw [← he]
  subst this
  rfl
end
end Go.Proofs.YtfngaoicoecncaaGreatDoor

namespace Go.Proofs.YtfngaoicoecncaaGreatDoor
open Go.ChangeShapes Go.WideShapes Go.ChangeAt Go.RowKit

set_option maxRecDepth 100000 in
theorem whole_lifted (os : Os) (started : os.Started) (H : Type) (enc : TypeId × Value → H) (F : Stop.Interp) :
    ReturnsInHanded {} Tryz.checked os 5 .any ((Rows.OpenSpec.upto Rows.fnWholeSpec).preRow enc Tryz.prog Tryz.f5 Rows.fnWholeUptoRow.domain false Rows.fnWholeUptoRow.laid) (((Rows.OpenSpec.upto Rows.fnWholeSpec).at F).post enc Tryz.prog Tryz.f5 false true false false) := by
  have hx : DataW.whole enc Tryz.prog ((World.laidAll Tryz.prog os Rows.fnWholeUptoRow.laid).forCall (fun _ _ => 0) ⟨#[], #[.agg #[.int .i64 0, .string ⟨#[]⟩, .slice none 0 0, .slice none 0 0]], []⟩).memory Tryz.f5.params.toList Rows.fnWholeSpec.vars false (#[.agg #[.int .i64 0, .string ⟨#[]⟩, .slice none 0 0, .slice none 0 0]] : Array Value).toList 8 = some ([.agg [.lit (.int .i64 0), .lit (.string []), .nil, .nil]], [], []) := by kernel_rfl
  refine returnsInHanded_of_row (C := Tryz.checked) (s := Rows.OpenSpec.upto Rows.fnWholeSpec) ownKnobs started (by kernel_rfl) Tryz.func5
    (witness_laid os #[.agg #[.int .i64 0, .string ⟨#[]⟩, .slice none 0 0, .slice none 0 0]] (by kernel_rfl) (OpenSpec.preRow_of_cond 8 hx (by kernel_rfl) (fun k hk => by cases hk; kernel_rfl) (by kernel_rfl) (lay_met os _))) ?_
  intro W base args ds gs before hval0 hW _ hcond _ hL _ _
  have hbulk : Rows.uptoBulkAll (ds ++ gs) ≤ 1048576 := of_decide_eq_true (hcond _ rfl)
  have hval : ∀ (j : Nat) t v, Tryz.f5.params[j]? = some t → args[j]? = some v → Value.okWide Tryz.prog W .any base t v := hval0
  have hW' := hW
  obtain ⟨p, q, hA, hV, rfl, hfz, hnd⟩ := hW'
  have hA : DataW.TrodAll enc Tryz.prog W 0 (fun _ => true) true Tryz.f5.params.toList args.toList ds p := hA
  rw [Tryz.params5] at hA hval
  obtain ⟨v0, vs0, d0, ds0, p0, q0, hargs, rfl, rfl, h0, r0⟩ := trodAll_cons hA
  obtain ⟨rfl, rfl, rfl⟩ := trodAll_nil r0
  obtain rfl : args = #[v0] := by cases args; simp_all
  obtain ⟨rfl, rfl⟩ := trodVars_none hV
  obtain ⟨fuel0, hf0⟩ := h0
  obtain ⟨e0, t0, he0, hN0, hS0⟩ := node_valS (hval 0 41 v0 rfl rfl) hf0
  subst he0
  have hd : Rows.uptoBulk d0 ≤ 1048576 := by
    simp only [List.append_nil, Rows.uptoBulkAll] at hbulk
    omega
  refine (whole_law e0 t0 W hN0 (SmallN.mono hd hS0)).mono fun e W' ⟨he, hx⟩ => ?_
  subst he
  exact ⟨_, rfl, post_law (s := Rows.fnWholeSpec) laidOut (by kernel_rfl) (by kernel_rfl) Tryz.underlying4 rfl hW rfl hx⟩

theorem whole_holds : Rows.FnWholeUptoSaid :=
  OpenClaim.holds_of_cond 5 Tryz.f5 rfl rfl rfl rfl rfl rfl rfl ⟨rfl, rfl, rfl, rfl, rfl⟩ rfl rfl rfl rfl rfl (by kernel_rfl) Tryz.func5 (by kernel_rfl)
    (of_decide_eq_true (by kernel_rfl)) (by unfold Func.isWrapper; first | (rw [if_pos (by decide +kernel)]; kernel_rfl) | (rw [if_neg (by decide +kernel)]; exact ⟨rfl, rfl⟩))
    (fun os started H enc _ F => by rw [OpenClaim.pre_eq_preRow]; exact whole_lifted os started H enc F)

/-- A query that is made of others, and these of others again, is the tree that is made of their trees: where what comes in is of bulk at most 1048576. -/
theorem whole_proved : Rows.FnWholeUptoCardSaid :=
  Claim7.holds_tied_plain_at .later [] _ _ _ _ whole_holds (fun _ h => by cases h) (by kernel_rfl) (fun _ h => by cases h) fnWholeUpto_row_tie rfl ⟨rfl, rfl⟩ (by kernel_rfl) rfl
    (fun f fn hf hfn => by
      obtain rfl : f = 5 := Option.some.inj ((show Tryz.prog.funcNamed "loop.example/pub-g01525/laws.FnWhole" = some 5 by kernel_rfl).symm.trans hf) |>.symm
      obtain rfl : fn = Tryz.f5 := (Option.some.inj (Tryz.func5.symm.trans hfn)).symm
      exact ⟨by kernel_rfl, fun j t ht => by
        rw [Tryz.params5] at ht
        have hm : t ∈ [41] := by simpa using Array.mem_of_getElem? ht
        have hall : ([41].all fun u => !Tryz.prog.wantsStandIn u) = true := by kernel_rfl
        exact (show Tryz.prog.wantsStandIn t = false by simpa using List.all_eq_true.1 hall t hm)⟩)
    (by kernel_rfl)
#print axioms whole_proved
end Go.Proofs.YtfngaoicoecncaaGreatDoor

