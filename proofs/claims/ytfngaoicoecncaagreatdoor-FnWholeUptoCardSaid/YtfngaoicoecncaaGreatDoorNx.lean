/-
  Every node as it is told.
-/
import Derived.Test.YtfngaoicoecncaaGreatDoorRq
import Derived.Test.YtfngaoicoecncaaGreatDoorVr
import Derived.Test.YtfngaoicoecncaaGreatDoorTx
import Derived.Test.YtfngaoicoecncaaGreatDoorFi
namespace Go.Proofs.YtfngaoicoecncaaGreatDoor
open Go.RowKit

/-- What a node becomes as it is told. -/
def Told3 (r : Nd) : Prop := ∀ (S : Nat → Prop) (e : Nv) (w : World), NodeAt S w e r → Calls Tryz.prog 21 #[e.val] w fun rr w' => ∃ g : El, rr = .returned g.val ∧ TreeAt (fun b => w.heap.size ≤ b) w' g (nodeT r) ∧ Ext w w'
theorem kidT_some {ks : List Nd} {i : Nat} {r : Nd} (h : ks[i]? = some r) : kidT (nodesT ks) i = nodeT r := by
  unfold kidT
  rw [nodesT_eq, List.getElem?_map, h]
  rfl
theorem kidT_none {ks : List Nd} {i : Nat} (h : ks.length ≤ i) : kidT (nodesT ks) i = allT := by
  unfold kidT
  rw [nodesT_eq, List.getElem?_map, List.getElem?_eq_none h]
  rfl
theorem pairs_nil (S : Nat → Prop) (w : World) : PairsAt S w none 0 0 [] := ⟨rfl, Nat.le_refl _, by simp [maxLen], fun _ _ h => by simp at h⟩
set_option maxRecDepth 20000 in
set_option maxHeartbeats 4000000 in
theorem kidS_any {S : Nat → Prop} (e : Nv) (ks : List Nd) (i : Nat) (w : World) (h : NodesAt S w e.ka e.kn e.kc ks) (hk : ∀ r ∈ ks, Told3 r) (_hi : i ≤ 2147483647) (hb : e.kn ≤ 2147483647) : Calls Tryz.prog 68 #[e.val, .int .i64 i] w fun rr w' => ∃ g : El, rr = .returned g.val ∧ TreeAt (fun b => w.heap.size ≤ b) w' g (kidT (nodesT ks) i) ∧ Ext w w' := by
  obtain ⟨ek, ex, epa, epn, epc, eka, ekn, ekc⟩ := e
  simp only [Nv.val]
  simp only at h hb
  have hx0 : Ext w ((w.alloc (.cells #[.int .i64 ek, .string ex, .slice epa epn epc, .slice eka ekn ekc] 41)).alloc (.cells (El.arr El0) 26)) := ext_alloc (ext_alloc (ext_refl _) _) _
  have hb0 : Box ((w.alloc (.cells #[.int .i64 ek, .string ex, .slice epa epn epc, .slice eka ekn ekc] 41)).alloc (.cells (El.arr El0) 26)) (w.heap.size + 1) (El.arr El0) 26 := Box.at (by simp) _ _
  have hs0 : ((w.alloc (.cells #[.int .i64 ek, .string ex, .slice epa epn epc, .slice eka ekn ekc] 41)).alloc (.cells (El.arr El0) 26)).heap.size = w.heap.size + 1 + 1 := by simp
  by_cases hlt : i < ekn
  · obtain ⟨r0, hr0⟩ := some_of_lt h.1 hlt
    obtain ⟨b, off, ⟨fk, fx, fpa, fpn, fpc, fka, fkn, fkc⟩, rfl, hSb, hc, hN⟩ := h.get hr0
    obtain ⟨c0, c1, c2, c3⟩ := NCells.ext hx0 hc
    have hQ := Lib.hid (fun (w1 : World) (x : Ext w w1) => hk r0 (List.mem_of_getElem? hr0) S _ w1 (NodeAt.ext x hN))
    rw [kidT_some hr0]
    clear h hk hr0 hc hN
    go_enter Tryz.func68, Tryz.ntmps68
    go_wp2_with (first
      | (go_at_call 21; refine (hQ.out _ hx0).mono ?_; rintro r w2 ⟨g2, rfl, hT2, hx2⟩; simp only [El.val]
         have hb2 := hb0.ext hx2
         obtain ⟨o0, o1, o2, o3, o4, o5⟩ := hb2.six; have f0 := hb2.free 0; have f1 := hb2.free 1; have f2 := hb2.free 2; have f3 := hb2.free 3; have f4 := hb2.free 4; have f5 := hb2.free 5)
      | fail)
    refine post_tree rfl rfl (hb2.sto g2) rfl ⟨g2, rfl, ?_, ext_sto6 (ext_trans hx0 hx2) (by omega) _ _ _ _ _ _⟩
    rw [hs0] at hT2
    exact TreeAt.keep (S := (fun b => w.heap.size + 1 + 1 ≤ b)) (fun b hb _ => by omega) (keeps_sto w2 (by omega) g2) _ hT2
  · rw [kidT_none (by have := h.1; omega)]
    clear h hk
    have hB := Lib.hid fun w' => beside_any (S := (fun b => w.heap.size + 1 + 1 ≤ b)) s_match_all none 0 0 [] w' (pairs_nil _ _) (by decide)
    go_enter Tryz.func68, Tryz.ntmps68
    go_wp2_with (first
      | (go_at_call 46; refine (hB.out _).mono ?_; rintro r w2 ⟨g2, rfl, hT2, hx2⟩; simp only [El.val]
         have hb2 := hb0.ext hx2
         obtain ⟨o0, o1, o2, o3, o4, o5⟩ := hb2.six; have f0 := hb2.free 0; have f1 := hb2.free 1; have f2 := hb2.free 2; have f3 := hb2.free 3; have f4 := hb2.free 4; have f5 := hb2.free 5)
      | fail)
    refine post_tree rfl rfl (hb2.sto g2) rfl ⟨g2, rfl, ?_, ext_sto6 (ext_trans hx0 hx2) (by omega) _ _ _ _ _ _⟩
    rw [hs0] at hT2
    exact TreeAt.keep (S := (fun b => w.heap.size + 1 + 1 ≤ b)) (fun b hb _ => by omega) (keeps_sto w2 (by omega) g2) _ (hT2.to fun q hq _ => by rcases hq with hq | hq; exact hq.1; exact hq)
theorem Making.klen {w : World} {base bo : Nat} {kind : Int} {ss : List ByteArray} {es : List El} {ka : Option Addr} {kn kc : Nat} {ca : Option Addr} {cn cc : Nat} (h : Making w base bo kind ss es ka kn kc ca cn cc) : cn = es.length := by
  obtain ⟨h1, h2⟩ := h.kids
  rcases h2 with ⟨e, h0⟩ | ⟨g, cap, cur, e, -⟩
  · cases e; exact h0.symm
  · cases e; rfl
/-- What is told of the first places. -/
def tQp (ps : List Int) (l : List T) (p : Nat) : List (ByteArray × T) := (List.range p).flatMap fun (q : Nat) => tQ (placeName (q : Int)) (inPlace ps (q : Int) 0 l)
theorem tQp_succ (ps : List Int) (l : List T) (p : Nat) : tQp ps l (p + 1) = tQp ps l p ++ tQ (placeName p) (inPlace ps p 0 l) := by
  unfold tQp
  rw [List.range_succ, List.flatMap_append, List.flatMap_singleton]
theorem tQp_four (ps : List Int) (l : List T) : tQp ps l 4 = tQ s_must (inPlace ps 0 0 l) ++ tQ s_must_not (inPlace ps 1 0 l) ++ tQ s_should (inPlace ps 2 0 l) ++ tQ s_filter (inPlace ps 3 0 l) := by
  rw [tQp_succ, tQp_succ, tQp_succ, tQp_succ]
  rfl
set_option maxRecDepth 20000 in
set_option maxHeartbeats 16000000 in
theorem whole_term {S : Nat → Prop} (ex : ByteArray) (epa : Option Addr) (epn epc : Nat) (eka : Option Addr) (ekn ekc : Nat) (_ps : List Int) (ks : List Nd) (w : World) (hK : NodesAt S w eka ekn ekc ks) (hk : ∀ r ∈ ks, Told3 r) (hkn : ekn ≤ 1048576) :
    Calls Tryz.prog 21 #[(⟨1, ex, epa, epn, epc, eka, ekn, ekc⟩ : Nv).val] w fun rr w' => ∃ g : El, rr = .returned g.val ∧ TreeAt (fun b => w.heap.size ≤ b) w' g (mapT [(s_term, mapT [(ex, mapT [(s_value, textT ex)])])]) ∧ Ext w w' := by
  have HKS := Lib.hid hK
  have HRK := Lib.hid hk
  have HKD := Lib.hid fun (w1 : World) (x : Ext w w1) (i : Nat) (hi : i ≤ 2147483647) => kidS_any (⟨1, ex, epa, epn, epc, eka, ekn, ekc⟩ : Nv) ks i w1 (hK.ext x) hk hi (show ekn ≤ 2147483647 by omega)
  clear hK hk
  simp only [Nv.val]
  simp only [Nv.val] at HKD
  go_enter Tryz.func21, Tryz.ntmps21
  have hbR : Box ((w.alloc (.cells #[.int .i64 1, .string ex, .slice epa epn epc, .slice eka ekn ekc] 41)).alloc (.cells (El.arr El0) 26)) w.heap.size #[.int .i64 1, .string ex, .slice epa epn epc, .slice eka ekn ekc] 41 := (Box.at rfl _ _).alloc _
  have hb0 : Box ((w.alloc (.cells #[.int .i64 1, .string ex, .slice epa epn epc, .slice eka ekn ekc] 41)).alloc (.cells (El.arr El0) 26)) (w.heap.size + 1) (El.arr El0) 26 := Box.at (by simp) _ _
  have hx0 : Ext w ((w.alloc (.cells #[.int .i64 1, .string ex, .slice epa epn epc, .slice eka ekn ekc] 41)).alloc (.cells (El.arr El0) 26)) := ext_alloc (ext_alloc (ext_refl _) _) _
  have hs0 : ((w.alloc (.cells #[.int .i64 1, .string ex, .slice epa epn epc, .slice eka ekn ekc] 41)).alloc (.cells (El.arr El0) 26)).heap.size = w.heap.size + 1 + 1 := by simp
  go_wp2_with (first
    | (go_at_call 66; refine (list_exact none 0 0 _).mono ?_; rintro r w5 ⟨rfl, hx5⟩; simp only [El.val])
    | fail)
  have hs5 := hx5.sz
  rw [hs0] at hs5
  have hxw5 := ext_trans hx0 hx5
  have hbR5 := hbR.ext hx5
  have hb05 := hb0.ext hx5
  clear hbR hb0 hs0
  go_loopw [4] (fun i wr => Ext w wr ∧ w5.heap.size + 1 ≤ wr.heap.size ∧ Box wr w.heap.size #[.int .i64 1, .string ex, .slice epa epn epc, .slice eka ekn ekc] 41 ∧ Box wr (w.heap.size + 1) (El.arr El0) 26 ∧
    ∃ (j : Nat) (kes : List El) (ca : Option Addr) (cn cc : Nat), j ≤ ekn ∧ i = .int .i64 j ∧ kes.length = j ∧ Making wr (w5.heap.size + 1) w5.heap.size 4 [] kes none 0 0 ca cn cc ∧ Kin wr (w5.heap.size + 1) (.slice ca cn cc) kes ((nodesT ks).take j)) (fun i _ => ekn - (intOf i).toNat)
  case atStart => exact ⟨ext_alloc hxw5 _, by simp, hbR5.alloc _, hb05.alloc _, 0, [], none, 0, 0, Nat.zero_le _, rfl, rfl, ⟨Box.at rfl _ _, World.ownsRow_nil _ _ _ _, World.ownsRow_nil _ _ _ _, by omega, fun _ h => by cases h⟩, Kin.nil _ _ _⟩
  case round =>
    obtain ⟨hx, hsz, hbRr, hb0r, j, kes, ca, cn, cc, hj, rfl, hes, M, HK⟩ := hrel
    have HES := Lib.hid hes
    have HK := Lib.hid HK
    clear hes
    have k3 := hbRr.cell 3 _ rfl
    by_cases hlt : j < ekn
    case pos =>
      obtain ⟨hl, -, -, -⟩ := HKS.out
      obtain ⟨r0, hr0⟩ := some_of_lt hl hlt
      obtain ⟨b, off, e, rfl, -, hrc, hra⟩ := HKS.out.get hr0
      have hbw0 : b < w.heap.size := lt_of_cell hrc.1
      have hrc := NCells.ext hx hrc
      have hRu := Lib.hid (fun (w1 : World) (x : Ext w w1) => HRK.out r0 (List.mem_of_getElem? hr0) S _ w1 (NodeAt.ext x hra))
      have HZ := Lib.hid (show (nodesT ks)[j]? = some (nodeT r0) by rw [nodesT_eq, List.getElem?_map, hr0]; rfl)
      clear hra hr0 hl
      obtain ⟨rk, rx, rpa, rpn, rpc, rka, rkn, rkc⟩ := e
      obtain ⟨o0, o1, o2, o3, o4, o5⟩ := M.box.six
      go_upto_region 5 with fail
      refine wp_region_order (fun (w' : World) => w'.cell? ⟨w5.heap.size, 5, none⟩ = some (.slice ca cn cc) ∧ w'.cell? ⟨w.heap.size, 3, none⟩ = some (.slice (some ⟨b, off, none⟩) ekn ekc) ∧ NCells w' b (off + j * 4) (⟨rk, rx, rpa, rpn, rpc, rka, rkn, rkc⟩ : Nv)) [0, 1, 2, 3, 4, 5, 6, 10] [0, 1, 2, 3, 4, 5, 6, 7, 8, 9, 10, 11] (by kernel_rfl) (by kernel_rfl) (fun d _ _ _ _ h => by cases d <;> exact h) (by kernel_rfl) ?_
      have hS : (fun (w' : World) => w'.cell? ⟨w5.heap.size, 5, none⟩ = some (.slice ca cn cc) ∧ w'.cell? ⟨w.heap.size, 3, none⟩ = some (.slice (some ⟨b, off, none⟩) ekn ekc) ∧ NCells w' b (off + j * 4) (⟨rk, rx, rpa, rpn, rpc, rka, rkn, rkc⟩ : Nv)) _ := ⟨o5, k3, hrc⟩
      (apply ord_held rfl rfl (by assumption) rfl; (focus ((intro w' hS'); go_simp; (try with_reducible rfl))); (try simp only [Act.put, List.setIfInBounds_toArray, List.set_cons_zero, List.set_cons_succ]))
      (apply ord_held rfl rfl (by assumption) rfl; (focus ((intro w' hS'); go_simp; (try with_reducible rfl))); (try simp only [Act.put, List.setIfInBounds_toArray, List.set_cons_zero, List.set_cons_succ]))
      (apply ord_held rfl rfl (by assumption) rfl; (focus ((intro w' hS'); go_simp; (try with_reducible rfl))); (try simp only [Act.put, List.setIfInBounds_toArray, List.set_cons_zero, List.set_cons_succ]))
      (apply ord_held rfl rfl (by assumption) rfl; (focus ((intro w' hS'); go_simp; (try with_reducible rfl))); (try simp only [Act.put, List.setIfInBounds_toArray, List.set_cons_zero, List.set_cons_succ]))
      (apply ord_held rfl rfl (by assumption) rfl; (focus ((intro w' hS'); go_simp; (try with_reducible rfl))); (try simp only [Act.put, List.setIfInBounds_toArray, List.set_cons_zero, List.set_cons_succ]))
      (apply ord_held rfl rfl (by assumption) rfl; (focus ((intro w' hS'); go_simp; (try with_reducible rfl))); (try simp only [Act.put, List.setIfInBounds_toArray, List.set_cons_zero, List.set_cons_succ]))
      (apply ord_held rfl rfl (by assumption) rfl; (focus ((intro w' hS'); go_simp; (try with_reducible rfl))); (try simp only [Act.put, List.setIfInBounds_toArray, List.set_cons_zero, List.set_cons_succ]))
      (apply ord_loud rfl rfl rfl; intro K hK; go_simp)
      refine (hRu.out _ (ext_drew hx)).mono ?_
      rintro r w2 ⟨e2, rfl, hT2, hx2⟩
      have x2 : Ext wr w2 := ext_trans (ext_drew (ext_refl _)) hx2
      have hS2 : (fun (w' : World) => w'.cell? ⟨w5.heap.size, 5, none⟩ = some (.slice ca cn cc) ∧ w'.cell? ⟨w.heap.size, 3, none⟩ = some (.slice (some ⟨b, off, none⟩) ekn ekc) ∧ NCells w' b (off + j * 4) (⟨rk, rx, rpa, rpn, rpc, rka, rkn, rkc⟩ : Nv)) w2 := ⟨x2.cell o5, x2.cell k3, NCells.ext x2 hrc⟩
      refine hK _ _ (fun _ => hS2) ?_
      clear hK K
      simp only [El.val]
      (try simp only [Act.put, List.setIfInBounds_toArray, List.set_cons_zero, List.set_cons_succ])
      (apply ord_loud rfl rfl rfl; intro K hK; go_simp)
      have x3 : Ext wr (w2.alloc (.cells #[.int .i64 e2.k, .string e2.x, .float .f64 e2.d, .bool e2.y, .slice e2.ka e2.n e2.kc, .slice e2.ca e2.m e2.cc] 26)) := ext_alloc x2 _
      have hbz : Box (w2.alloc (.cells #[.int .i64 e2.k, .string e2.x, .float .f64 e2.d, .bool e2.y, .slice e2.ka e2.n e2.kc, .slice e2.ca e2.m e2.cc] 26)) w2.heap.size e2.arr 26 := Box.new _ _ _
      have hT3 := hT2.ext (ext_alloc (ext_refl w2) (.cells #[.int .i64 e2.k, .string e2.x, .float .f64 e2.d, .bool e2.y, .slice e2.ka e2.n e2.kc, .slice e2.ca e2.m e2.cc] 26))
      have hS3 : (fun (w' : World) => w'.cell? ⟨w5.heap.size, 5, none⟩ = some (.slice ca cn cc) ∧ w'.cell? ⟨w.heap.size, 3, none⟩ = some (.slice (some ⟨b, off, none⟩) ekn ekc) ∧ NCells w' b (off + j * 4) (⟨rk, rx, rpa, rpn, rpc, rka, rkn, rkc⟩ : Nv)) (w2.alloc (.cells #[.int .i64 e2.k, .string e2.x, .float .f64 e2.d, .bool e2.y, .slice e2.ka e2.n e2.kc, .slice e2.ca e2.m e2.cc] 26)) := ⟨x3.cell o5, x3.cell k3, NCells.ext x3 hrc⟩
      refine hK _ _ (fun _ => hS3) ?_
      clear hK K
      have M1 := M.ext x3
      have hs2 := x2.sz
      have hbd : ∀ q, (Value.slice ca cn cc).ownBlock = some q → w5.heap.size + 1 ≤ q ∧ q < wr.heap.size := fun q h => M.kids.block h
      (try simp only [Act.put, List.setIfInBounds_toArray, List.set_cons_zero, List.set_cons_succ])
      apply ord_loud rfl rfl rfl
      intro K hK
      refine wp_append_tree _ _ _ rfl (w5.heap.size + 1) _ kes rfl M1.kids w2.heap.size e2 rfl (boxCells hbz) (by have := HES.out; omega) (by simp; omega) ?_
      intro g1 cap1 w4 hown hgrow hlies hglt
      have hS4 : (fun (w' : World) => w'.cell? ⟨w5.heap.size, 5, none⟩ = some (.slice ca cn cc) ∧ w'.cell? ⟨w.heap.size, 3, none⟩ = some (.slice (some ⟨b, off, none⟩) ekn ekc) ∧ NCells w' b (off + j * 4) (⟨rk, rx, rpa, rpn, rpc, rka, rkn, rkc⟩ : Nv)) w4 := ⟨hgrow.cell (x3.cell o5) (fun e => by have := hbd _ e.symm; simp at this; omega), hgrow.cell (x3.cell k3) (fun e => by have := hbd _ e.symm; simp at this; omega), ?_⟩
      rotate_left
      · obtain ⟨c0, c1, c2, c3⟩ := hrc
        have hq : ∀ (p : Addr) (u : Value), p.block = b → wr.cell? p = some u → w4.cell? p = some u := fun p u hp hc => hgrow.cell (x3.cell hc) (fun e => by have := hbd _ e.symm; omega)
        exact ⟨hq _ _ rfl c0, hq _ _ rfl c1, hq _ _ rfl c2, hq _ _ rfl c3⟩
      have q5 := (M1.boxMid' hgrow).free 5
      refine hK _ _ (fun _ => hS4) ?_
      clear hK K
      (try simp only [Act.put, List.setIfInBounds_toArray, List.set_cons_zero, List.set_cons_succ])
      have o5 := hS4.1
      (apply ord_held rfl rfl (by assumption) rfl; (focus ((intro w' hS'); go_simp; (try with_reducible rfl))); (try simp only [Act.put, List.setIfInBounds_toArray, List.set_cons_zero, List.set_cons_succ]))
      (apply ord_last rfl rfl rfl (by kernel_rfl); intro K hK; go_simp; refine hK _ _ ?_; clear hK K; (try simp only [Act.put, List.setIfInBounds_toArray, List.set_cons_zero, List.set_cons_succ]))
      refine ord_end ?_
      have M2 := M1.kid hown hgrow hlies
      have hMw := hxw5.sz
      have hb2 := M1.boxKid (hb0r.ext x3) (by omega) (by omega) hgrow 5 (.slice (some ⟨g1, 0, none⟩) (kes.length + 1) cap1)
      have hbR2 := M1.boxKid (hbRr.ext x3) (by omega) (by omega) hgrow 5 (.slice (some ⟨g1, 0, none⟩) (kes.length + 1) cap1)
      have x4 := M1.extKid (ext_trans hx x3) (by omega) hgrow 5 (.slice (some ⟨g1, 0, none⟩) (kes.length + 1) cap1)
      have HK2 := Lib.hid ((HK.out.ext x3).step (hT3.to fun q h1 h2 => ⟨by have h3 : wr.heap.size ≤ q := h1; omega, fun e => by have h3 : wr.heap.size ≤ q := h1; have := (hbd q e).2; omega⟩) hgrow hlies (by omega : w5.heap.size < w5.heap.size + 1) 5 (.slice (some ⟨g1, 0, none⟩) (kes.length + 1) cap1) (kes.length + 1) cap1)
      have hszz : w5.heap.size + 1 ≤ (w4.setCell ⟨w5.heap.size, 5, none⟩ (.slice (some ⟨g1, 0, none⟩) (kes.length + 1) cap1)).heap.size := by have h1 := hgrow.size; have h2 := x3.sz; simp; omega
      clear hown hgrow hlies hglt hS q5 M1 M o0 o1 o2 o3 o4 o5 hT2 hT3 hbz HK hS4 hS3 hS2 hbd
      generalize w4.setCell ⟨w5.heap.size, 5, none⟩ (.slice (some ⟨g1, 0, none⟩) (kes.length + 1) cap1) = w6 at M2 hb2 hbR2 x4 HK2 hszz ⊢
      go_wp2_with fail
      go_roundw
      case rel =>
        first
          | exact ⟨x4, hszz, hbR2, hb2, j + 1, kes ++ [e2], _, _, _, by omega, by go_num, by simp [HES.out], M2, by rw [take_snoc HZ.out]; exact HK2.out⟩
          | (repeat apply Exists.intro
             refine And.intro ?_ rfl
             exact ⟨x4, hszz, hbR2, hb2, j + 1, kes ++ [e2], _, _, _, by omega, by go_num, by simp [HES.out], M2, by rw [take_snoc HZ.out]; exact HK2.out⟩)
      case measure => simp [intOf]; omega
    have hjn : j = ekn := by omega
    have hfull : (nodesT ks).take j = nodesT ks := List.take_of_length_le (by
      rw [nodesT_eq, List.length_map]
      have h1 := HKS.out.1
      omega)
    have hK := HK.out
    rw [hfull] at hK
    have hTK : TreeAt (fun b => w5.heap.size + 1 ≤ b) wr ⟨4, ⟨#[]⟩, 0, false, none, 0, 0, ca, cn, cc⟩ (listT (nodesT ks)) := M.tree (ss := []) hK.1 (fun b hb => by cases hb) (fun b hb => (M.kids.block hb).1) fun i e t h1 h2 => TreeAt.to (hK.2 i e t h1 h2) (fun b hb _ => hb.1)
    have HCN := Lib.hid (show cn = ekn by have h1 := M.klen; have h2 := HES.out; omega)
    have hbk := M.box
    obtain ⟨y0, y1, y2, y3, y4, y5⟩ := hbk.six
    have k0 := hbRr.cell 0 _ rfl
    have k1 := hbRr.cell 1 _ rfl
    have k2 := hbRr.cell 2 _ rfl
    have hlb := hbk.lt
    have HTK := Lib.hid hTK
    clear hTK hK HK M hfull hjn hxw5 hbR5 hb05 hx5 hx0
    go_upto_region 8 with fail
    refine wp_region_order (fun (w' : World) => w'.cell? ⟨w.heap.size, 0, none⟩ = some (.int .i64 1) ∧ w'.cell? ⟨w.heap.size, 1, none⟩ = some (.string ex) ∧ w'.cell? ⟨w.heap.size, 2, none⟩ = some (.slice epa epn epc) ∧ w'.cell? ⟨w.heap.size, 3, none⟩ = some (.slice eka ekn ekc)) [0, 1, 2, 3, 5] [0, 1, 2, 3, 4, 5, 6, 7, 8] (by kernel_rfl) (by kernel_rfl) (fun d _ _ _ _ h => by cases d <;> exact h) (by kernel_rfl) ?_
    have hS : (fun (w' : World) => w'.cell? ⟨w.heap.size, 0, none⟩ = some (.int .i64 1) ∧ w'.cell? ⟨w.heap.size, 1, none⟩ = some (.string ex) ∧ w'.cell? ⟨w.heap.size, 2, none⟩ = some (.slice epa epn epc) ∧ w'.cell? ⟨w.heap.size, 3, none⟩ = some (.slice eka ekn ekc)) wr.drew := ⟨hbRr.drew.cell 0 _ rfl, hbRr.drew.cell 1 _ rfl, hbRr.drew.cell 2 _ rfl, hbRr.drew.cell 3 _ rfl⟩
    (apply ord_held rfl rfl (by assumption) rfl; (focus ((intro w' hS'); go_simp; (try with_reducible rfl))); (try simp only [Act.put, List.setIfInBounds_toArray, List.set_cons_zero, List.set_cons_succ]))
    (apply ord_held rfl rfl (by assumption) rfl; (focus ((intro w' hS'); go_simp; (try with_reducible rfl))); (try simp only [Act.put, List.setIfInBounds_toArray, List.set_cons_zero, List.set_cons_succ]))
    (apply ord_held rfl rfl (by assumption) rfl; (focus ((intro w' hS'); go_simp; (try with_reducible rfl))); (try simp only [Act.put, List.setIfInBounds_toArray, List.set_cons_zero, List.set_cons_succ]))
    (apply ord_held rfl rfl (by assumption) rfl; (focus ((intro w' hS'); go_simp; (try with_reducible rfl))); (try simp only [Act.put, List.setIfInBounds_toArray, List.set_cons_zero, List.set_cons_succ]))
    (apply ord_loud rfl rfl rfl; intro K hK; go_simp)
    refine (text_any ex _).mono ?_
    rintro r w7 ⟨gt, rfl, hgt, hx7⟩
    have x7 : Ext wr w7 := ext_trans (ext_drew (ext_refl _)) hx7
    have hbR7 := hbRr.ext x7
    have hb7 := hb0r.ext x7
    have hS_hbR7 : (fun (w' : World) => w'.cell? ⟨w.heap.size, 0, none⟩ = some (.int .i64 1) ∧ w'.cell? ⟨w.heap.size, 1, none⟩ = some (.string ex) ∧ w'.cell? ⟨w.heap.size, 2, none⟩ = some (.slice epa epn epc) ∧ w'.cell? ⟨w.heap.size, 3, none⟩ = some (.slice eka ekn ekc)) w7 := ⟨hbR7.cell 0 _ rfl, hbR7.cell 1 _ rfl, hbR7.cell 2 _ rfl, hbR7.cell 3 _ rfl⟩
    refine hK _ _ (fun _ => hS_hbR7) ?_
    clear hK K
    simp only [El.val]
    (try simp only [Act.put, List.setIfInBounds_toArray, List.set_cons_zero, List.set_cons_succ])
    (apply ord_held rfl rfl (by assumption) rfl; (focus ((intro w' hS'); go_simp; (try with_reducible rfl))); (try simp only [Act.put, List.setIfInBounds_toArray, List.set_cons_zero, List.set_cons_succ]))
    (apply ord_loud rfl rfl rfl; intro K hK; go_simp)
    have x8 : Ext w7 (w7.alloc (.cells #[.string s_value, .int .i64 gt.k, .string gt.x, .float .f64 gt.d, .bool gt.y, .slice gt.ka gt.n gt.kc, .slice gt.ca gt.m gt.cc] 72)) := ext_alloc (ext_refl _) _
    have hbp : Box (w7.alloc (.cells #[.string s_value, .int .i64 gt.k, .string gt.x, .float .f64 gt.d, .bool gt.y, .slice gt.ka gt.n gt.kc, .slice gt.ca gt.m gt.cc] 72)) w7.heap.size #[.string s_value, .int .i64 gt.k, .string gt.x, .float .f64 gt.d, .bool gt.y, .slice gt.ka gt.n gt.kc, .slice gt.ca gt.m gt.cc] 72 := Box.at rfl _ _
    have hbR8 := hbR7.ext x8
    have hb8 := hb7.ext x8
    have hS_hbR8 : (fun (w' : World) => w'.cell? ⟨w.heap.size, 0, none⟩ = some (.int .i64 1) ∧ w'.cell? ⟨w.heap.size, 1, none⟩ = some (.string ex) ∧ w'.cell? ⟨w.heap.size, 2, none⟩ = some (.slice epa epn epc) ∧ w'.cell? ⟨w.heap.size, 3, none⟩ = some (.slice eka ekn ekc)) (w7.alloc (.cells #[.string s_value, .int .i64 gt.k, .string gt.x, .float .f64 gt.d, .bool gt.y, .slice gt.ka gt.n gt.kc, .slice gt.ca gt.m gt.cc] 72)) := ⟨hbR8.cell 0 _ rfl, hbR8.cell 1 _ rfl, hbR8.cell 2 _ rfl, hbR8.cell 3 _ rfl⟩
    refine hK _ _ (fun _ => hS_hbR8) ?_
    clear hK K
    (try simp only [Act.put, List.setIfInBounds_toArray, List.set_cons_zero, List.set_cons_succ])
    have hsz8 := (ext_trans x7 x8).sz
    have hsz7 := x7.sz
    have hB := infield_any (S := (fun b => w.heap.size + 1 + 1 ≤ b)) s_term ex _ 1 1 _ _ (pairs_one hbp (by omega) (TreeAt.ext x8 (hgt _))) (by decide)
    (apply ord_loud rfl rfl rfl; intro K hK; go_simp)
    refine hB.mono ?_
    rintro r w9 ⟨g2, rfl, hT9, hx9⟩
    have hb9 := hb8.ext hx9
    have hbR9 := hbR8.ext hx9
    have hS_9 : (fun (w' : World) => w'.cell? ⟨w.heap.size, 0, none⟩ = some (.int .i64 1) ∧ w'.cell? ⟨w.heap.size, 1, none⟩ = some (.string ex) ∧ w'.cell? ⟨w.heap.size, 2, none⟩ = some (.slice epa epn epc) ∧ w'.cell? ⟨w.heap.size, 3, none⟩ = some (.slice eka ekn ekc)) w9 := ⟨hbR9.cell 0 _ rfl, hbR9.cell 1 _ rfl, hbR9.cell 2 _ rfl, hbR9.cell 3 _ rfl⟩
    refine hK _ _ (fun _ => hS_9) ?_
    clear hK K
    try simp only [El.val]
    (try simp only [Act.put, List.setIfInBounds_toArray, List.set_cons_zero, List.set_cons_succ])
    obtain ⟨o0, o1, o2, o3, o4, o5⟩ := hb9.six
    have f0 := hb9.free 0
    have f1 := hb9.free 1
    have f2 := hb9.free 2
    have f3 := hb9.free 3
    have f4 := hb9.free 4
    have f5 := hb9.free 5
    have hbRs := hbR9.sto6' (show w.heap.size ≠ w.heap.size + 1 by omega) (.int .i64 g2.k) (.string g2.x) (.float .f64 g2.d) (.bool g2.y) (.slice g2.ka g2.n g2.kc) (.slice g2.ca g2.m g2.cc)
    have hS_s : (fun (w' : World) => w'.cell? ⟨w.heap.size, 0, none⟩ = some (.int .i64 1) ∧ w'.cell? ⟨w.heap.size, 1, none⟩ = some (.string ex) ∧ w'.cell? ⟨w.heap.size, 2, none⟩ = some (.slice epa epn epc) ∧ w'.cell? ⟨w.heap.size, 3, none⟩ = some (.slice eka ekn ekc)) (sto w9 (w.heap.size + 1) g2) := ⟨hbRs.cell 0 _ rfl, hbRs.cell 1 _ rfl, hbRs.cell 2 _ rfl, hbRs.cell 3 _ rfl⟩
    (apply ord_loud rfl rfl rfl; intro K hK; go_simp)
    refine hK _ _ (fun _ => hS_s) ?_
    clear hK K
    (try simp only [Act.put, List.setIfInBounds_toArray, List.set_cons_zero, List.set_cons_succ])
    refine ord_end ?_
    have hx9w : Ext w w9 := ext_trans (ext_trans (ext_trans hx x7) x8) hx9
    go_wp2_with fail
    refine post_tree rfl rfl (hb9.sto g2) rfl ⟨g2, rfl, ?_, ext_sto6 hx9w (by omega) _ _ _ _ _ _⟩
    refine TreeAt.keep (S := (fun b => w.heap.size + 1 + 1 ≤ b)) (fun b hb _ => by omega) (keeps_sto w9 (by omega) g2) _ (hT9.to fun q hq _ => ?_)
    rcases hq with hq | hq
    · exact hq.1
    · omega
set_option maxRecDepth 20000 in
set_option maxHeartbeats 16000000 in
theorem whole_exists {S : Nat → Prop} (ex : ByteArray) (epa : Option Addr) (epn epc : Nat) (eka : Option Addr) (ekn ekc : Nat) (_ps : List Int) (ks : List Nd) (w : World) (hK : NodesAt S w eka ekn ekc ks) (hk : ∀ r ∈ ks, Told3 r) (hkn : ekn ≤ 1048576) :
    Calls Tryz.prog 21 #[(⟨2, ex, epa, epn, epc, eka, ekn, ekc⟩ : Nv).val] w fun rr w' => ∃ g : El, rr = .returned g.val ∧ TreeAt (fun b => w.heap.size ≤ b) w' g (mapT [(s_exists, mapT [(s_field, textT ex)])]) ∧ Ext w w' := by
  have HKS := Lib.hid hK
  have HRK := Lib.hid hk
  have HKD := Lib.hid fun (w1 : World) (x : Ext w w1) (i : Nat) (hi : i ≤ 2147483647) => kidS_any (⟨2, ex, epa, epn, epc, eka, ekn, ekc⟩ : Nv) ks i w1 (hK.ext x) hk hi (show ekn ≤ 2147483647 by omega)
  clear hK hk
  simp only [Nv.val]
  simp only [Nv.val] at HKD
  go_enter Tryz.func21, Tryz.ntmps21
  have hbR : Box ((w.alloc (.cells #[.int .i64 2, .string ex, .slice epa epn epc, .slice eka ekn ekc] 41)).alloc (.cells (El.arr El0) 26)) w.heap.size #[.int .i64 2, .string ex, .slice epa epn epc, .slice eka ekn ekc] 41 := (Box.at rfl _ _).alloc _
  have hb0 : Box ((w.alloc (.cells #[.int .i64 2, .string ex, .slice epa epn epc, .slice eka ekn ekc] 41)).alloc (.cells (El.arr El0) 26)) (w.heap.size + 1) (El.arr El0) 26 := Box.at (by simp) _ _
  have hx0 : Ext w ((w.alloc (.cells #[.int .i64 2, .string ex, .slice epa epn epc, .slice eka ekn ekc] 41)).alloc (.cells (El.arr El0) 26)) := ext_alloc (ext_alloc (ext_refl _) _) _
  have hs0 : ((w.alloc (.cells #[.int .i64 2, .string ex, .slice epa epn epc, .slice eka ekn ekc] 41)).alloc (.cells (El.arr El0) 26)).heap.size = w.heap.size + 1 + 1 := by simp
  go_wp2_with (first
    | (go_at_call 66; refine (list_exact none 0 0 _).mono ?_; rintro r w5 ⟨rfl, hx5⟩; simp only [El.val])
    | fail)
  have hs5 := hx5.sz
  rw [hs0] at hs5
  have hxw5 := ext_trans hx0 hx5
  have hbR5 := hbR.ext hx5
  have hb05 := hb0.ext hx5
  clear hbR hb0 hs0
  go_loopw [4] (fun i wr => Ext w wr ∧ w5.heap.size + 1 ≤ wr.heap.size ∧ Box wr w.heap.size #[.int .i64 2, .string ex, .slice epa epn epc, .slice eka ekn ekc] 41 ∧ Box wr (w.heap.size + 1) (El.arr El0) 26 ∧
    ∃ (j : Nat) (kes : List El) (ca : Option Addr) (cn cc : Nat), j ≤ ekn ∧ i = .int .i64 j ∧ kes.length = j ∧ Making wr (w5.heap.size + 1) w5.heap.size 4 [] kes none 0 0 ca cn cc ∧ Kin wr (w5.heap.size + 1) (.slice ca cn cc) kes ((nodesT ks).take j)) (fun i _ => ekn - (intOf i).toNat)
  case atStart => exact ⟨ext_alloc hxw5 _, by simp, hbR5.alloc _, hb05.alloc _, 0, [], none, 0, 0, Nat.zero_le _, rfl, rfl, ⟨Box.at rfl _ _, World.ownsRow_nil _ _ _ _, World.ownsRow_nil _ _ _ _, by omega, fun _ h => by cases h⟩, Kin.nil _ _ _⟩
  case round =>
    obtain ⟨hx, hsz, hbRr, hb0r, j, kes, ca, cn, cc, hj, rfl, hes, M, HK⟩ := hrel
    have HES := Lib.hid hes
    have HK := Lib.hid HK
    clear hes
    have k3 := hbRr.cell 3 _ rfl
    by_cases hlt : j < ekn
    case pos =>
      obtain ⟨hl, -, -, -⟩ := HKS.out
      obtain ⟨r0, hr0⟩ := some_of_lt hl hlt
      obtain ⟨b, off, e, rfl, -, hrc, hra⟩ := HKS.out.get hr0
      have hbw0 : b < w.heap.size := lt_of_cell hrc.1
      have hrc := NCells.ext hx hrc
      have hRu := Lib.hid (fun (w1 : World) (x : Ext w w1) => HRK.out r0 (List.mem_of_getElem? hr0) S _ w1 (NodeAt.ext x hra))
      have HZ := Lib.hid (show (nodesT ks)[j]? = some (nodeT r0) by rw [nodesT_eq, List.getElem?_map, hr0]; rfl)
      clear hra hr0 hl
      obtain ⟨rk, rx, rpa, rpn, rpc, rka, rkn, rkc⟩ := e
      obtain ⟨o0, o1, o2, o3, o4, o5⟩ := M.box.six
      go_upto_region 5 with fail
      refine wp_region_order (fun (w' : World) => w'.cell? ⟨w5.heap.size, 5, none⟩ = some (.slice ca cn cc) ∧ w'.cell? ⟨w.heap.size, 3, none⟩ = some (.slice (some ⟨b, off, none⟩) ekn ekc) ∧ NCells w' b (off + j * 4) (⟨rk, rx, rpa, rpn, rpc, rka, rkn, rkc⟩ : Nv)) [0, 1, 2, 3, 4, 5, 6, 10] [0, 1, 2, 3, 4, 5, 6, 7, 8, 9, 10, 11] (by kernel_rfl) (by kernel_rfl) (fun d _ _ _ _ h => by cases d <;> exact h) (by kernel_rfl) ?_
      have hS : (fun (w' : World) => w'.cell? ⟨w5.heap.size, 5, none⟩ = some (.slice ca cn cc) ∧ w'.cell? ⟨w.heap.size, 3, none⟩ = some (.slice (some ⟨b, off, none⟩) ekn ekc) ∧ NCells w' b (off + j * 4) (⟨rk, rx, rpa, rpn, rpc, rka, rkn, rkc⟩ : Nv)) _ := ⟨o5, k3, hrc⟩
      (apply ord_held rfl rfl (by assumption) rfl; (focus ((intro w' hS'); go_simp; (try with_reducible rfl))); (try simp only [Act.put, List.setIfInBounds_toArray, List.set_cons_zero, List.set_cons_succ]))
      (apply ord_held rfl rfl (by assumption) rfl; (focus ((intro w' hS'); go_simp; (try with_reducible rfl))); (try simp only [Act.put, List.setIfInBounds_toArray, List.set_cons_zero, List.set_cons_succ]))
      (apply ord_held rfl rfl (by assumption) rfl; (focus ((intro w' hS'); go_simp; (try with_reducible rfl))); (try simp only [Act.put, List.setIfInBounds_toArray, List.set_cons_zero, List.set_cons_succ]))
      (apply ord_held rfl rfl (by assumption) rfl; (focus ((intro w' hS'); go_simp; (try with_reducible rfl))); (try simp only [Act.put, List.setIfInBounds_toArray, List.set_cons_zero, List.set_cons_succ]))
      (apply ord_held rfl rfl (by assumption) rfl; (focus ((intro w' hS'); go_simp; (try with_reducible rfl))); (try simp only [Act.put, List.setIfInBounds_toArray, List.set_cons_zero, List.set_cons_succ]))
      (apply ord_held rfl rfl (by assumption) rfl; (focus ((intro w' hS'); go_simp; (try with_reducible rfl))); (try simp only [Act.put, List.setIfInBounds_toArray, List.set_cons_zero, List.set_cons_succ]))
      (apply ord_held rfl rfl (by assumption) rfl; (focus ((intro w' hS'); go_simp; (try with_reducible rfl))); (try simp only [Act.put, List.setIfInBounds_toArray, List.set_cons_zero, List.set_cons_succ]))
      (apply ord_loud rfl rfl rfl; intro K hK; go_simp)
      refine (hRu.out _ (ext_drew hx)).mono ?_
      rintro r w2 ⟨e2, rfl, hT2, hx2⟩
      have x2 : Ext wr w2 := ext_trans (ext_drew (ext_refl _)) hx2
      have hS2 : (fun (w' : World) => w'.cell? ⟨w5.heap.size, 5, none⟩ = some (.slice ca cn cc) ∧ w'.cell? ⟨w.heap.size, 3, none⟩ = some (.slice (some ⟨b, off, none⟩) ekn ekc) ∧ NCells w' b (off + j * 4) (⟨rk, rx, rpa, rpn, rpc, rka, rkn, rkc⟩ : Nv)) w2 := ⟨x2.cell o5, x2.cell k3, NCells.ext x2 hrc⟩
      refine hK _ _ (fun _ => hS2) ?_
      clear hK K
      simp only [El.val]
      (try simp only [Act.put, List.setIfInBounds_toArray, List.set_cons_zero, List.set_cons_succ])
      (apply ord_loud rfl rfl rfl; intro K hK; go_simp)
      have x3 : Ext wr (w2.alloc (.cells #[.int .i64 e2.k, .string e2.x, .float .f64 e2.d, .bool e2.y, .slice e2.ka e2.n e2.kc, .slice e2.ca e2.m e2.cc] 26)) := ext_alloc x2 _
      have hbz : Box (w2.alloc (.cells #[.int .i64 e2.k, .string e2.x, .float .f64 e2.d, .bool e2.y, .slice e2.ka e2.n e2.kc, .slice e2.ca e2.m e2.cc] 26)) w2.heap.size e2.arr 26 := Box.new _ _ _
      have hT3 := hT2.ext (ext_alloc (ext_refl w2) (.cells #[.int .i64 e2.k, .string e2.x, .float .f64 e2.d, .bool e2.y, .slice e2.ka e2.n e2.kc, .slice e2.ca e2.m e2.cc] 26))
      have hS3 : (fun (w' : World) => w'.cell? ⟨w5.heap.size, 5, none⟩ = some (.slice ca cn cc) ∧ w'.cell? ⟨w.heap.size, 3, none⟩ = some (.slice (some ⟨b, off, none⟩) ekn ekc) ∧ NCells w' b (off + j * 4) (⟨rk, rx, rpa, rpn, rpc, rka, rkn, rkc⟩ : Nv)) (w2.alloc (.cells #[.int .i64 e2.k, .string e2.x, .float .f64 e2.d, .bool e2.y, .slice e2.ka e2.n e2.kc, .slice e2.ca e2.m e2.cc] 26)) := ⟨x3.cell o5, x3.cell k3, NCells.ext x3 hrc⟩
      refine hK _ _ (fun _ => hS3) ?_
      clear hK K
      have M1 := M.ext x3
      have hs2 := x2.sz
      have hbd : ∀ q, (Value.slice ca cn cc).ownBlock = some q → w5.heap.size + 1 ≤ q ∧ q < wr.heap.size := fun q h => M.kids.block h
      (try simp only [Act.put, List.setIfInBounds_toArray, List.set_cons_zero, List.set_cons_succ])
      apply ord_loud rfl rfl rfl
      intro K hK
      refine wp_append_tree _ _ _ rfl (w5.heap.size + 1) _ kes rfl M1.kids w2.heap.size e2 rfl (boxCells hbz) (by have := HES.out; omega) (by simp; omega) ?_
      intro g1 cap1 w4 hown hgrow hlies hglt
      have hS4 : (fun (w' : World) => w'.cell? ⟨w5.heap.size, 5, none⟩ = some (.slice ca cn cc) ∧ w'.cell? ⟨w.heap.size, 3, none⟩ = some (.slice (some ⟨b, off, none⟩) ekn ekc) ∧ NCells w' b (off + j * 4) (⟨rk, rx, rpa, rpn, rpc, rka, rkn, rkc⟩ : Nv)) w4 := ⟨hgrow.cell (x3.cell o5) (fun e => by have := hbd _ e.symm; simp at this; omega), hgrow.cell (x3.cell k3) (fun e => by have := hbd _ e.symm; simp at this; omega), ?_⟩
      rotate_left
      · obtain ⟨c0, c1, c2, c3⟩ := hrc
        have hq : ∀ (p : Addr) (u : Value), p.block = b → wr.cell? p = some u → w4.cell? p = some u := fun p u hp hc => hgrow.cell (x3.cell hc) (fun e => by have := hbd _ e.symm; omega)
        exact ⟨hq _ _ rfl c0, hq _ _ rfl c1, hq _ _ rfl c2, hq _ _ rfl c3⟩
      have q5 := (M1.boxMid' hgrow).free 5
      refine hK _ _ (fun _ => hS4) ?_
      clear hK K
      (try simp only [Act.put, List.setIfInBounds_toArray, List.set_cons_zero, List.set_cons_succ])
      have o5 := hS4.1
      (apply ord_held rfl rfl (by assumption) rfl; (focus ((intro w' hS'); go_simp; (try with_reducible rfl))); (try simp only [Act.put, List.setIfInBounds_toArray, List.set_cons_zero, List.set_cons_succ]))
      (apply ord_last rfl rfl rfl (by kernel_rfl); intro K hK; go_simp; refine hK _ _ ?_; clear hK K; (try simp only [Act.put, List.setIfInBounds_toArray, List.set_cons_zero, List.set_cons_succ]))
      refine ord_end ?_
      have M2 := M1.kid hown hgrow hlies
      have hMw := hxw5.sz
      have hb2 := M1.boxKid (hb0r.ext x3) (by omega) (by omega) hgrow 5 (.slice (some ⟨g1, 0, none⟩) (kes.length + 1) cap1)
      have hbR2 := M1.boxKid (hbRr.ext x3) (by omega) (by omega) hgrow 5 (.slice (some ⟨g1, 0, none⟩) (kes.length + 1) cap1)
      have x4 := M1.extKid (ext_trans hx x3) (by omega) hgrow 5 (.slice (some ⟨g1, 0, none⟩) (kes.length + 1) cap1)
      have HK2 := Lib.hid ((HK.out.ext x3).step (hT3.to fun q h1 h2 => ⟨by have h3 : wr.heap.size ≤ q := h1; omega, fun e => by have h3 : wr.heap.size ≤ q := h1; have := (hbd q e).2; omega⟩) hgrow hlies (by omega : w5.heap.size < w5.heap.size + 1) 5 (.slice (some ⟨g1, 0, none⟩) (kes.length + 1) cap1) (kes.length + 1) cap1)
      have hszz : w5.heap.size + 1 ≤ (w4.setCell ⟨w5.heap.size, 5, none⟩ (.slice (some ⟨g1, 0, none⟩) (kes.length + 1) cap1)).heap.size := by have h1 := hgrow.size; have h2 := x3.sz; simp; omega
      clear hown hgrow hlies hglt hS q5 M1 M o0 o1 o2 o3 o4 o5 hT2 hT3 hbz HK hS4 hS3 hS2 hbd
      generalize w4.setCell ⟨w5.heap.size, 5, none⟩ (.slice (some ⟨g1, 0, none⟩) (kes.length + 1) cap1) = w6 at M2 hb2 hbR2 x4 HK2 hszz ⊢
      go_wp2_with fail
      go_roundw
      case rel =>
        first
          | exact ⟨x4, hszz, hbR2, hb2, j + 1, kes ++ [e2], _, _, _, by omega, by go_num, by simp [HES.out], M2, by rw [take_snoc HZ.out]; exact HK2.out⟩
          | (repeat apply Exists.intro
             refine And.intro ?_ rfl
             exact ⟨x4, hszz, hbR2, hb2, j + 1, kes ++ [e2], _, _, _, by omega, by go_num, by simp [HES.out], M2, by rw [take_snoc HZ.out]; exact HK2.out⟩)
      case measure => simp [intOf]; omega
    have hjn : j = ekn := by omega
    have hfull : (nodesT ks).take j = nodesT ks := List.take_of_length_le (by
      rw [nodesT_eq, List.length_map]
      have h1 := HKS.out.1
      omega)
    have hK := HK.out
    rw [hfull] at hK
    have hTK : TreeAt (fun b => w5.heap.size + 1 ≤ b) wr ⟨4, ⟨#[]⟩, 0, false, none, 0, 0, ca, cn, cc⟩ (listT (nodesT ks)) := M.tree (ss := []) hK.1 (fun b hb => by cases hb) (fun b hb => (M.kids.block hb).1) fun i e t h1 h2 => TreeAt.to (hK.2 i e t h1 h2) (fun b hb _ => hb.1)
    have HCN := Lib.hid (show cn = ekn by have h1 := M.klen; have h2 := HES.out; omega)
    have hbk := M.box
    obtain ⟨y0, y1, y2, y3, y4, y5⟩ := hbk.six
    have k0 := hbRr.cell 0 _ rfl
    have k1 := hbRr.cell 1 _ rfl
    have k2 := hbRr.cell 2 _ rfl
    have hlb := hbk.lt
    have HTK := Lib.hid hTK
    clear hTK hK HK M hfull hjn hxw5 hbR5 hb05 hx5 hx0
    go_wp2_with (first
      | (go_at_call 67; refine (text_any ex _).mono ?_; rintro r w7 ⟨gt, rfl, hgt, hx7⟩; simp only [El.val]
         have x8 : Ext wr (w7.alloc (.cells #[.string s_field, .int .i64 gt.k, .string gt.x, .float .f64 gt.d, .bool gt.y, .slice gt.ka gt.n gt.kc, .slice gt.ca gt.m gt.cc] 72)) := ext_alloc hx7 _
         have hbp : Box (w7.alloc (.cells #[.string s_field, .int .i64 gt.k, .string gt.x, .float .f64 gt.d, .bool gt.y, .slice gt.ka gt.n gt.kc, .slice gt.ca gt.m gt.cc] 72)) w7.heap.size #[.string s_field, .int .i64 gt.k, .string gt.x, .float .f64 gt.d, .bool gt.y, .slice gt.ka gt.n gt.kc, .slice gt.ca gt.m gt.cc] 72 := Box.at rfl _ _
         have hs7 := hx7.sz
         have hB := Lib.hid (beside_any (S := (fun b => w.heap.size + 1 + 1 ≤ b)) s_exists _ 1 1 _ _ (pairs_one hbp (by omega) (TreeAt.ext (ext_alloc (ext_refl w7) _) (hgt _))) (by decide)))
      | (go_at_call 46; refine hB.out.mono ?_; rintro r w9 ⟨g2, rfl, hT9, hx9⟩; simp only [El.val]
         have hb9 := (hb0r.ext x8).ext hx9; obtain ⟨o0, o1, o2, o3, o4, o5⟩ := hb9.six; have f0 := hb9.free 0; have f1 := hb9.free 1; have f2 := hb9.free 2; have f3 := hb9.free 3; have f4 := hb9.free 4; have f5 := hb9.free 5)
      | fail)
    have hx9w := ext_trans (ext_trans hx x8) hx9
    have hsz8 := x8.sz
    refine post_tree rfl rfl (hb9.sto g2) rfl ⟨g2, rfl, ?_, ext_sto6 hx9w (by omega) _ _ _ _ _ _⟩
    refine TreeAt.keep (S := (fun b => w.heap.size + 1 + 1 ≤ b)) (fun b hb _ => by omega) (keeps_sto w9 (by omega) g2) _ (hT9.to fun q hq _ => ?_)
    rcases hq with hq | hq
    · exact hq.1
    · omega
set_option maxRecDepth 20000 in
set_option maxHeartbeats 16000000 in
theorem whole_const {S : Nat → Prop} (ex : ByteArray) (epa : Option Addr) (epn epc : Nat) (eka : Option Addr) (ekn ekc : Nat) (_ps : List Int) (ks : List Nd) (w : World) (hK : NodesAt S w eka ekn ekc ks) (hk : ∀ r ∈ ks, Told3 r) (hkn : ekn ≤ 1048576) :
    Calls Tryz.prog 21 #[(⟨4, ex, epa, epn, epc, eka, ekn, ekc⟩ : Nv).val] w fun rr w' => ∃ g : El, rr = .returned g.val ∧ TreeAt (fun b => w.heap.size ≤ b) w' g (mapT [(s_constant_score, mapT [(s_filter, kidT (nodesT ks) 0)])]) ∧ Ext w w' := by
  have HKS := Lib.hid hK
  have HRK := Lib.hid hk
  have HKD := Lib.hid fun (w1 : World) (x : Ext w w1) (i : Nat) (hi : i ≤ 2147483647) => kidS_any (⟨4, ex, epa, epn, epc, eka, ekn, ekc⟩ : Nv) ks i w1 (hK.ext x) hk hi (show ekn ≤ 2147483647 by omega)
  clear hK hk
  simp only [Nv.val]
  simp only [Nv.val] at HKD
  go_enter Tryz.func21, Tryz.ntmps21
  have hbR : Box ((w.alloc (.cells #[.int .i64 4, .string ex, .slice epa epn epc, .slice eka ekn ekc] 41)).alloc (.cells (El.arr El0) 26)) w.heap.size #[.int .i64 4, .string ex, .slice epa epn epc, .slice eka ekn ekc] 41 := (Box.at rfl _ _).alloc _
  have hb0 : Box ((w.alloc (.cells #[.int .i64 4, .string ex, .slice epa epn epc, .slice eka ekn ekc] 41)).alloc (.cells (El.arr El0) 26)) (w.heap.size + 1) (El.arr El0) 26 := Box.at (by simp) _ _
  have hx0 : Ext w ((w.alloc (.cells #[.int .i64 4, .string ex, .slice epa epn epc, .slice eka ekn ekc] 41)).alloc (.cells (El.arr El0) 26)) := ext_alloc (ext_alloc (ext_refl _) _) _
  have hs0 : ((w.alloc (.cells #[.int .i64 4, .string ex, .slice epa epn epc, .slice eka ekn ekc] 41)).alloc (.cells (El.arr El0) 26)).heap.size = w.heap.size + 1 + 1 := by simp
  go_wp2_with (first
    | (go_at_call 66; refine (list_exact none 0 0 _).mono ?_; rintro r w5 ⟨rfl, hx5⟩; simp only [El.val])
    | fail)
  have hs5 := hx5.sz
  rw [hs0] at hs5
  have hxw5 := ext_trans hx0 hx5
  have hbR5 := hbR.ext hx5
  have hb05 := hb0.ext hx5
  clear hbR hb0 hs0
  go_loopw [4] (fun i wr => Ext w wr ∧ w5.heap.size + 1 ≤ wr.heap.size ∧ Box wr w.heap.size #[.int .i64 4, .string ex, .slice epa epn epc, .slice eka ekn ekc] 41 ∧ Box wr (w.heap.size + 1) (El.arr El0) 26 ∧
    ∃ (j : Nat) (kes : List El) (ca : Option Addr) (cn cc : Nat), j ≤ ekn ∧ i = .int .i64 j ∧ kes.length = j ∧ Making wr (w5.heap.size + 1) w5.heap.size 4 [] kes none 0 0 ca cn cc ∧ Kin wr (w5.heap.size + 1) (.slice ca cn cc) kes ((nodesT ks).take j)) (fun i _ => ekn - (intOf i).toNat)
  case atStart => exact ⟨ext_alloc hxw5 _, by simp, hbR5.alloc _, hb05.alloc _, 0, [], none, 0, 0, Nat.zero_le _, rfl, rfl, ⟨Box.at rfl _ _, World.ownsRow_nil _ _ _ _, World.ownsRow_nil _ _ _ _, by omega, fun _ h => by cases h⟩, Kin.nil _ _ _⟩
  case round =>
    obtain ⟨hx, hsz, hbRr, hb0r, j, kes, ca, cn, cc, hj, rfl, hes, M, HK⟩ := hrel
    have HES := Lib.hid hes
    have HK := Lib.hid HK
    clear hes
    have k3 := hbRr.cell 3 _ rfl
    by_cases hlt : j < ekn
    case pos =>
      obtain ⟨hl, -, -, -⟩ := HKS.out
      obtain ⟨r0, hr0⟩ := some_of_lt hl hlt
      obtain ⟨b, off, e, rfl, -, hrc, hra⟩ := HKS.out.get hr0
      have hbw0 : b < w.heap.size := lt_of_cell hrc.1
      have hrc := NCells.ext hx hrc
      have hRu := Lib.hid (fun (w1 : World) (x : Ext w w1) => HRK.out r0 (List.mem_of_getElem? hr0) S _ w1 (NodeAt.ext x hra))
      have HZ := Lib.hid (show (nodesT ks)[j]? = some (nodeT r0) by rw [nodesT_eq, List.getElem?_map, hr0]; rfl)
      clear hra hr0 hl
      obtain ⟨rk, rx, rpa, rpn, rpc, rka, rkn, rkc⟩ := e
      obtain ⟨o0, o1, o2, o3, o4, o5⟩ := M.box.six
      go_upto_region 5 with fail
      refine wp_region_order (fun (w' : World) => w'.cell? ⟨w5.heap.size, 5, none⟩ = some (.slice ca cn cc) ∧ w'.cell? ⟨w.heap.size, 3, none⟩ = some (.slice (some ⟨b, off, none⟩) ekn ekc) ∧ NCells w' b (off + j * 4) (⟨rk, rx, rpa, rpn, rpc, rka, rkn, rkc⟩ : Nv)) [0, 1, 2, 3, 4, 5, 6, 10] [0, 1, 2, 3, 4, 5, 6, 7, 8, 9, 10, 11] (by kernel_rfl) (by kernel_rfl) (fun d _ _ _ _ h => by cases d <;> exact h) (by kernel_rfl) ?_
      have hS : (fun (w' : World) => w'.cell? ⟨w5.heap.size, 5, none⟩ = some (.slice ca cn cc) ∧ w'.cell? ⟨w.heap.size, 3, none⟩ = some (.slice (some ⟨b, off, none⟩) ekn ekc) ∧ NCells w' b (off + j * 4) (⟨rk, rx, rpa, rpn, rpc, rka, rkn, rkc⟩ : Nv)) _ := ⟨o5, k3, hrc⟩
      (apply ord_held rfl rfl (by assumption) rfl; (focus ((intro w' hS'); go_simp; (try with_reducible rfl))); (try simp only [Act.put, List.setIfInBounds_toArray, List.set_cons_zero, List.set_cons_succ]))
      (apply ord_held rfl rfl (by assumption) rfl; (focus ((intro w' hS'); go_simp; (try with_reducible rfl))); (try simp only [Act.put, List.setIfInBounds_toArray, List.set_cons_zero, List.set_cons_succ]))
      (apply ord_held rfl rfl (by assumption) rfl; (focus ((intro w' hS'); go_simp; (try with_reducible rfl))); (try simp only [Act.put, List.setIfInBounds_toArray, List.set_cons_zero, List.set_cons_succ]))
      (apply ord_held rfl rfl (by assumption) rfl; (focus ((intro w' hS'); go_simp; (try with_reducible rfl))); (try simp only [Act.put, List.setIfInBounds_toArray, List.set_cons_zero, List.set_cons_succ]))
      (apply ord_held rfl rfl (by assumption) rfl; (focus ((intro w' hS'); go_simp; (try with_reducible rfl))); (try simp only [Act.put, List.setIfInBounds_toArray, List.set_cons_zero, List.set_cons_succ]))
      (apply ord_held rfl rfl (by assumption) rfl; (focus ((intro w' hS'); go_simp; (try with_reducible rfl))); (try simp only [Act.put, List.setIfInBounds_toArray, List.set_cons_zero, List.set_cons_succ]))
      (apply ord_held rfl rfl (by assumption) rfl; (focus ((intro w' hS'); go_simp; (try with_reducible rfl))); (try simp only [Act.put, List.setIfInBounds_toArray, List.set_cons_zero, List.set_cons_succ]))
      (apply ord_loud rfl rfl rfl; intro K hK; go_simp)
      refine (hRu.out _ (ext_drew hx)).mono ?_
      rintro r w2 ⟨e2, rfl, hT2, hx2⟩
      have x2 : Ext wr w2 := ext_trans (ext_drew (ext_refl _)) hx2
      have hS2 : (fun (w' : World) => w'.cell? ⟨w5.heap.size, 5, none⟩ = some (.slice ca cn cc) ∧ w'.cell? ⟨w.heap.size, 3, none⟩ = some (.slice (some ⟨b, off, none⟩) ekn ekc) ∧ NCells w' b (off + j * 4) (⟨rk, rx, rpa, rpn, rpc, rka, rkn, rkc⟩ : Nv)) w2 := ⟨x2.cell o5, x2.cell k3, NCells.ext x2 hrc⟩
      refine hK _ _ (fun _ => hS2) ?_
      clear hK K
      simp only [El.val]
      (try simp only [Act.put, List.setIfInBounds_toArray, List.set_cons_zero, List.set_cons_succ])
      (apply ord_loud rfl rfl rfl; intro K hK; go_simp)
      have x3 : Ext wr (w2.alloc (.cells #[.int .i64 e2.k, .string e2.x, .float .f64 e2.d, .bool e2.y, .slice e2.ka e2.n e2.kc, .slice e2.ca e2.m e2.cc] 26)) := ext_alloc x2 _
      have hbz : Box (w2.alloc (.cells #[.int .i64 e2.k, .string e2.x, .float .f64 e2.d, .bool e2.y, .slice e2.ka e2.n e2.kc, .slice e2.ca e2.m e2.cc] 26)) w2.heap.size e2.arr 26 := Box.new _ _ _
      have hT3 := hT2.ext (ext_alloc (ext_refl w2) (.cells #[.int .i64 e2.k, .string e2.x, .float .f64 e2.d, .bool e2.y, .slice e2.ka e2.n e2.kc, .slice e2.ca e2.m e2.cc] 26))
      have hS3 : (fun (w' : World) => w'.cell? ⟨w5.heap.size, 5, none⟩ = some (.slice ca cn cc) ∧ w'.cell? ⟨w.heap.size, 3, none⟩ = some (.slice (some ⟨b, off, none⟩) ekn ekc) ∧ NCells w' b (off + j * 4) (⟨rk, rx, rpa, rpn, rpc, rka, rkn, rkc⟩ : Nv)) (w2.alloc (.cells #[.int .i64 e2.k, .string e2.x, .float .f64 e2.d, .bool e2.y, .slice e2.ka e2.n e2.kc, .slice e2.ca e2.m e2.cc] 26)) := ⟨x3.cell o5, x3.cell k3, NCells.ext x3 hrc⟩
      refine hK _ _ (fun _ => hS3) ?_
      clear hK K
      have M1 := M.ext x3
      have hs2 := x2.sz
      have hbd : ∀ q, (Value.slice ca cn cc).ownBlock = some q → w5.heap.size + 1 ≤ q ∧ q < wr.heap.size := fun q h => M.kids.block h
      (try simp only [Act.put, List.setIfInBounds_toArray, List.set_cons_zero, List.set_cons_succ])
      apply ord_loud rfl rfl rfl
      intro K hK
      refine wp_append_tree _ _ _ rfl (w5.heap.size + 1) _ kes rfl M1.kids w2.heap.size e2 rfl (boxCells hbz) (by have := HES.out; omega) (by simp; omega) ?_
      intro g1 cap1 w4 hown hgrow hlies hglt
      have hS4 : (fun (w' : World) => w'.cell? ⟨w5.heap.size, 5, none⟩ = some (.slice ca cn cc) ∧ w'.cell? ⟨w.heap.size, 3, none⟩ = some (.slice (some ⟨b, off, none⟩) ekn ekc) ∧ NCells w' b (off + j * 4) (⟨rk, rx, rpa, rpn, rpc, rka, rkn, rkc⟩ : Nv)) w4 := ⟨hgrow.cell (x3.cell o5) (fun e => by have := hbd _ e.symm; simp at this; omega), hgrow.cell (x3.cell k3) (fun e => by have := hbd _ e.symm; simp at this; omega), ?_⟩
      rotate_left
      · obtain ⟨c0, c1, c2, c3⟩ := hrc
        have hq : ∀ (p : Addr) (u : Value), p.block = b → wr.cell? p = some u → w4.cell? p = some u := fun p u hp hc => hgrow.cell (x3.cell hc) (fun e => by have := hbd _ e.symm; omega)
        exact ⟨hq _ _ rfl c0, hq _ _ rfl c1, hq _ _ rfl c2, hq _ _ rfl c3⟩
      have q5 := (M1.boxMid' hgrow).free 5
      refine hK _ _ (fun _ => hS4) ?_
      clear hK K
      (try simp only [Act.put, List.setIfInBounds_toArray, List.set_cons_zero, List.set_cons_succ])
      have o5 := hS4.1
      (apply ord_held rfl rfl (by assumption) rfl; (focus ((intro w' hS'); go_simp; (try with_reducible rfl))); (try simp only [Act.put, List.setIfInBounds_toArray, List.set_cons_zero, List.set_cons_succ]))
      (apply ord_last rfl rfl rfl (by kernel_rfl); intro K hK; go_simp; refine hK _ _ ?_; clear hK K; (try simp only [Act.put, List.setIfInBounds_toArray, List.set_cons_zero, List.set_cons_succ]))
      refine ord_end ?_
      have M2 := M1.kid hown hgrow hlies
      have hMw := hxw5.sz
      have hb2 := M1.boxKid (hb0r.ext x3) (by omega) (by omega) hgrow 5 (.slice (some ⟨g1, 0, none⟩) (kes.length + 1) cap1)
      have hbR2 := M1.boxKid (hbRr.ext x3) (by omega) (by omega) hgrow 5 (.slice (some ⟨g1, 0, none⟩) (kes.length + 1) cap1)
      have x4 := M1.extKid (ext_trans hx x3) (by omega) hgrow 5 (.slice (some ⟨g1, 0, none⟩) (kes.length + 1) cap1)
      have HK2 := Lib.hid ((HK.out.ext x3).step (hT3.to fun q h1 h2 => ⟨by have h3 : wr.heap.size ≤ q := h1; omega, fun e => by have h3 : wr.heap.size ≤ q := h1; have := (hbd q e).2; omega⟩) hgrow hlies (by omega : w5.heap.size < w5.heap.size + 1) 5 (.slice (some ⟨g1, 0, none⟩) (kes.length + 1) cap1) (kes.length + 1) cap1)
      have hszz : w5.heap.size + 1 ≤ (w4.setCell ⟨w5.heap.size, 5, none⟩ (.slice (some ⟨g1, 0, none⟩) (kes.length + 1) cap1)).heap.size := by have h1 := hgrow.size; have h2 := x3.sz; simp; omega
      clear hown hgrow hlies hglt hS q5 M1 M o0 o1 o2 o3 o4 o5 hT2 hT3 hbz HK hS4 hS3 hS2 hbd
      generalize w4.setCell ⟨w5.heap.size, 5, none⟩ (.slice (some ⟨g1, 0, none⟩) (kes.length + 1) cap1) = w6 at M2 hb2 hbR2 x4 HK2 hszz ⊢
      go_wp2_with fail
      go_roundw
      case rel =>
        first
          | exact ⟨x4, hszz, hbR2, hb2, j + 1, kes ++ [e2], _, _, _, by omega, by go_num, by simp [HES.out], M2, by rw [take_snoc HZ.out]; exact HK2.out⟩
          | (repeat apply Exists.intro
             refine And.intro ?_ rfl
             exact ⟨x4, hszz, hbR2, hb2, j + 1, kes ++ [e2], _, _, _, by omega, by go_num, by simp [HES.out], M2, by rw [take_snoc HZ.out]; exact HK2.out⟩)
      case measure => simp [intOf]; omega
    have hjn : j = ekn := by omega
    have hfull : (nodesT ks).take j = nodesT ks := List.take_of_length_le (by
      rw [nodesT_eq, List.length_map]
      have h1 := HKS.out.1
      omega)
    have hK := HK.out
    rw [hfull] at hK
    have hTK : TreeAt (fun b => w5.heap.size + 1 ≤ b) wr ⟨4, ⟨#[]⟩, 0, false, none, 0, 0, ca, cn, cc⟩ (listT (nodesT ks)) := M.tree (ss := []) hK.1 (fun b hb => by cases hb) (fun b hb => (M.kids.block hb).1) fun i e t h1 h2 => TreeAt.to (hK.2 i e t h1 h2) (fun b hb _ => hb.1)
    have HCN := Lib.hid (show cn = ekn by have h1 := M.klen; have h2 := HES.out; omega)
    have hbk := M.box
    obtain ⟨y0, y1, y2, y3, y4, y5⟩ := hbk.six
    have k0 := hbRr.cell 0 _ rfl
    have k1 := hbRr.cell 1 _ rfl
    have k2 := hbRr.cell 2 _ rfl
    have hlb := hbk.lt
    have HTK := Lib.hid hTK
    clear hTK hK HK M hfull hjn hxw5 hbR5 hb05 hx5 hx0
    go_wp2_with (first
      | (go_at_call 68; refine (HKD.out _ hx 0 (by omega)).mono ?_; rintro r w7 ⟨gk, rfl, hgk, hx7⟩; simp only [El.val]
         have x8 : Ext wr (w7.alloc (.cells #[.string s_filter, .int .i64 gk.k, .string gk.x, .float .f64 gk.d, .bool gk.y, .slice gk.ka gk.n gk.kc, .slice gk.ca gk.m gk.cc] 72)) := ext_alloc hx7 _
         have hbp : Box (w7.alloc (.cells #[.string s_filter, .int .i64 gk.k, .string gk.x, .float .f64 gk.d, .bool gk.y, .slice gk.ka gk.n gk.kc, .slice gk.ca gk.m gk.cc] 72)) w7.heap.size #[.string s_filter, .int .i64 gk.k, .string gk.x, .float .f64 gk.d, .bool gk.y, .slice gk.ka gk.n gk.kc, .slice gk.ca gk.m gk.cc] 72 := Box.at rfl _ _
         have hs7 := hx7.sz
         have hB := Lib.hid (beside_any (S := (fun b => w.heap.size + 1 + 1 ≤ b)) s_constant_score _ 1 1 _ _ (pairs_one hbp (by omega) (TreeAt.ext (ext_alloc (ext_refl w7) _) (hgk.to fun b hb _ => by have hb : wr.heap.size ≤ b := hb; omega))) (by decide)))
      | (go_at_call 46; refine hB.out.mono ?_; rintro r w9 ⟨g2, rfl, hT9, hx9⟩; simp only [El.val]
         have hb9 := (hb0r.ext x8).ext hx9; obtain ⟨o0, o1, o2, o3, o4, o5⟩ := hb9.six; have f0 := hb9.free 0; have f1 := hb9.free 1; have f2 := hb9.free 2; have f3 := hb9.free 3; have f4 := hb9.free 4; have f5 := hb9.free 5)
      | fail)
    have hx9w := ext_trans (ext_trans hx x8) hx9
    have hsz8 := x8.sz
    refine post_tree rfl rfl (hb9.sto g2) rfl ⟨g2, rfl, ?_, ext_sto6 hx9w (by omega) _ _ _ _ _ _⟩
    refine TreeAt.keep (S := (fun b => w.heap.size + 1 + 1 ≤ b)) (fun b hb _ => by omega) (keeps_sto w9 (by omega) g2) _ (hT9.to fun q hq _ => ?_)
    rcases hq with hq | hq
    · exact hq.1
    · omega
set_option maxRecDepth 20000 in
set_option maxHeartbeats 16000000 in
theorem whole_dis {S : Nat → Prop} (ex : ByteArray) (epa : Option Addr) (epn epc : Nat) (eka : Option Addr) (ekn ekc : Nat) (_ps : List Int) (ks : List Nd) (w : World) (hK : NodesAt S w eka ekn ekc ks) (hk : ∀ r ∈ ks, Told3 r) (hkn : ekn ≤ 1048576) :
    Calls Tryz.prog 21 #[(⟨5, ex, epa, epn, epc, eka, ekn, ekc⟩ : Nv).val] w fun rr w' => ∃ g : El, rr = .returned g.val ∧ TreeAt (fun b => w.heap.size ≤ b) w' g (mapT [(s_dis_max, mapT [(s_queries, listT (nodesT ks))])]) ∧ Ext w w' := by
  have HKS := Lib.hid hK
  have HRK := Lib.hid hk
  have HKD := Lib.hid fun (w1 : World) (x : Ext w w1) (i : Nat) (hi : i ≤ 2147483647) => kidS_any (⟨5, ex, epa, epn, epc, eka, ekn, ekc⟩ : Nv) ks i w1 (hK.ext x) hk hi (show ekn ≤ 2147483647 by omega)
  clear hK hk
  simp only [Nv.val]
  simp only [Nv.val] at HKD
  go_enter Tryz.func21, Tryz.ntmps21
  have hbR : Box ((w.alloc (.cells #[.int .i64 5, .string ex, .slice epa epn epc, .slice eka ekn ekc] 41)).alloc (.cells (El.arr El0) 26)) w.heap.size #[.int .i64 5, .string ex, .slice epa epn epc, .slice eka ekn ekc] 41 := (Box.at rfl _ _).alloc _
  have hb0 : Box ((w.alloc (.cells #[.int .i64 5, .string ex, .slice epa epn epc, .slice eka ekn ekc] 41)).alloc (.cells (El.arr El0) 26)) (w.heap.size + 1) (El.arr El0) 26 := Box.at (by simp) _ _
  have hx0 : Ext w ((w.alloc (.cells #[.int .i64 5, .string ex, .slice epa epn epc, .slice eka ekn ekc] 41)).alloc (.cells (El.arr El0) 26)) := ext_alloc (ext_alloc (ext_refl _) _) _
  have hs0 : ((w.alloc (.cells #[.int .i64 5, .string ex, .slice epa epn epc, .slice eka ekn ekc] 41)).alloc (.cells (El.arr El0) 26)).heap.size = w.heap.size + 1 + 1 := by simp
  go_wp2_with (first
    | (go_at_call 66; refine (list_exact none 0 0 _).mono ?_; rintro r w5 ⟨rfl, hx5⟩; simp only [El.val])
    | fail)
  have hs5 := hx5.sz
  rw [hs0] at hs5
  have hxw5 := ext_trans hx0 hx5
  have hbR5 := hbR.ext hx5
  have hb05 := hb0.ext hx5
  clear hbR hb0 hs0
  go_loopw [4] (fun i wr => Ext w wr ∧ w5.heap.size + 1 ≤ wr.heap.size ∧ Box wr w.heap.size #[.int .i64 5, .string ex, .slice epa epn epc, .slice eka ekn ekc] 41 ∧ Box wr (w.heap.size + 1) (El.arr El0) 26 ∧
    ∃ (j : Nat) (kes : List El) (ca : Option Addr) (cn cc : Nat), j ≤ ekn ∧ i = .int .i64 j ∧ kes.length = j ∧ Making wr (w5.heap.size + 1) w5.heap.size 4 [] kes none 0 0 ca cn cc ∧ Kin wr (w5.heap.size + 1) (.slice ca cn cc) kes ((nodesT ks).take j)) (fun i _ => ekn - (intOf i).toNat)
  case atStart => exact ⟨ext_alloc hxw5 _, by simp, hbR5.alloc _, hb05.alloc _, 0, [], none, 0, 0, Nat.zero_le _, rfl, rfl, ⟨Box.at rfl _ _, World.ownsRow_nil _ _ _ _, World.ownsRow_nil _ _ _ _, by omega, fun _ h => by cases h⟩, Kin.nil _ _ _⟩
  case round =>
    obtain ⟨hx, hsz, hbRr, hb0r, j, kes, ca, cn, cc, hj, rfl, hes, M, HK⟩ := hrel
    have HES := Lib.hid hes
    have HK := Lib.hid HK
    clear hes
    have k3 := hbRr.cell 3 _ rfl
    by_cases hlt : j < ekn
    case pos =>
      obtain ⟨hl, -, -, -⟩ := HKS.out
      obtain ⟨r0, hr0⟩ := some_of_lt hl hlt
      obtain ⟨b, off, e, rfl, -, hrc, hra⟩ := HKS.out.get hr0
      have hbw0 : b < w.heap.size := lt_of_cell hrc.1
      have hrc := NCells.ext hx hrc
      have hRu := Lib.hid (fun (w1 : World) (x : Ext w w1) => HRK.out r0 (List.mem_of_getElem? hr0) S _ w1 (NodeAt.ext x hra))
      have HZ := Lib.hid (show (nodesT ks)[j]? = some (nodeT r0) by rw [nodesT_eq, List.getElem?_map, hr0]; rfl)
      clear hra hr0 hl
      obtain ⟨rk, rx, rpa, rpn, rpc, rka, rkn, rkc⟩ := e
      obtain ⟨o0, o1, o2, o3, o4, o5⟩ := M.box.six
      go_upto_region 5 with fail
      refine wp_region_order (fun (w' : World) => w'.cell? ⟨w5.heap.size, 5, none⟩ = some (.slice ca cn cc) ∧ w'.cell? ⟨w.heap.size, 3, none⟩ = some (.slice (some ⟨b, off, none⟩) ekn ekc) ∧ NCells w' b (off + j * 4) (⟨rk, rx, rpa, rpn, rpc, rka, rkn, rkc⟩ : Nv)) [0, 1, 2, 3, 4, 5, 6, 10] [0, 1, 2, 3, 4, 5, 6, 7, 8, 9, 10, 11] (by kernel_rfl) (by kernel_rfl) (fun d _ _ _ _ h => by cases d <;> exact h) (by kernel_rfl) ?_
      have hS : (fun (w' : World) => w'.cell? ⟨w5.heap.size, 5, none⟩ = some (.slice ca cn cc) ∧ w'.cell? ⟨w.heap.size, 3, none⟩ = some (.slice (some ⟨b, off, none⟩) ekn ekc) ∧ NCells w' b (off + j * 4) (⟨rk, rx, rpa, rpn, rpc, rka, rkn, rkc⟩ : Nv)) _ := ⟨o5, k3, hrc⟩
      (apply ord_held rfl rfl (by assumption) rfl; (focus ((intro w' hS'); go_simp; (try with_reducible rfl))); (try simp only [Act.put, List.setIfInBounds_toArray, List.set_cons_zero, List.set_cons_succ]))
      (apply ord_held rfl rfl (by assumption) rfl; (focus ((intro w' hS'); go_simp; (try with_reducible rfl))); (try simp only [Act.put, List.setIfInBounds_toArray, List.set_cons_zero, List.set_cons_succ]))
      (apply ord_held rfl rfl (by assumption) rfl; (focus ((intro w' hS'); go_simp; (try with_reducible rfl))); (try simp only [Act.put, List.setIfInBounds_toArray, List.set_cons_zero, List.set_cons_succ]))
      (apply ord_held rfl rfl (by assumption) rfl; (focus ((intro w' hS'); go_simp; (try with_reducible rfl))); (try simp only [Act.put, List.setIfInBounds_toArray, List.set_cons_zero, List.set_cons_succ]))
      (apply ord_held rfl rfl (by assumption) rfl; (focus ((intro w' hS'); go_simp; (try with_reducible rfl))); (try simp only [Act.put, List.setIfInBounds_toArray, List.set_cons_zero, List.set_cons_succ]))
      (apply ord_held rfl rfl (by assumption) rfl; (focus ((intro w' hS'); go_simp; (try with_reducible rfl))); (try simp only [Act.put, List.setIfInBounds_toArray, List.set_cons_zero, List.set_cons_succ]))
      (apply ord_held rfl rfl (by assumption) rfl; (focus ((intro w' hS'); go_simp; (try with_reducible rfl))); (try simp only [Act.put, List.setIfInBounds_toArray, List.set_cons_zero, List.set_cons_succ]))
      (apply ord_loud rfl rfl rfl; intro K hK; go_simp)
      refine (hRu.out _ (ext_drew hx)).mono ?_
      rintro r w2 ⟨e2, rfl, hT2, hx2⟩
      have x2 : Ext wr w2 := ext_trans (ext_drew (ext_refl _)) hx2
      have hS2 : (fun (w' : World) => w'.cell? ⟨w5.heap.size, 5, none⟩ = some (.slice ca cn cc) ∧ w'.cell? ⟨w.heap.size, 3, none⟩ = some (.slice (some ⟨b, off, none⟩) ekn ekc) ∧ NCells w' b (off + j * 4) (⟨rk, rx, rpa, rpn, rpc, rka, rkn, rkc⟩ : Nv)) w2 := ⟨x2.cell o5, x2.cell k3, NCells.ext x2 hrc⟩
      refine hK _ _ (fun _ => hS2) ?_
      clear hK K
      simp only [El.val]
      (try simp only [Act.put, List.setIfInBounds_toArray, List.set_cons_zero, List.set_cons_succ])
      (apply ord_loud rfl rfl rfl; intro K hK; go_simp)
      have x3 : Ext wr (w2.alloc (.cells #[.int .i64 e2.k, .string e2.x, .float .f64 e2.d, .bool e2.y, .slice e2.ka e2.n e2.kc, .slice e2.ca e2.m e2.cc] 26)) := ext_alloc x2 _
      have hbz : Box (w2.alloc (.cells #[.int .i64 e2.k, .string e2.x, .float .f64 e2.d, .bool e2.y, .slice e2.ka e2.n e2.kc, .slice e2.ca e2.m e2.cc] 26)) w2.heap.size e2.arr 26 := Box.new _ _ _
      have hT3 := hT2.ext (ext_alloc (ext_refl w2) (.cells #[.int .i64 e2.k, .string e2.x, .float .f64 e2.d, .bool e2.y, .slice e2.ka e2.n e2.kc, .slice e2.ca e2.m e2.cc] 26))
      have hS3 : (fun (w' : World) => w'.cell? ⟨w5.heap.size, 5, none⟩ = some (.slice ca cn cc) ∧ w'.cell? ⟨w.heap.size, 3, none⟩ = some (.slice (some ⟨b, off, none⟩) ekn ekc) ∧ NCells w' b (off + j * 4) (⟨rk, rx, rpa, rpn, rpc, rka, rkn, rkc⟩ : Nv)) (w2.alloc (.cells #[.int .i64 e2.k, .string e2.x, .float .f64 e2.d, .bool e2.y, .slice e2.ka e2.n e2.kc, .slice e2.ca e2.m e2.cc] 26)) := ⟨x3.cell o5, x3.cell k3, NCells.ext x3 hrc⟩
      refine hK _ _ (fun _ => hS3) ?_
      clear hK K
      have M1 := M.ext x3
      have hs2 := x2.sz
      have hbd : ∀ q, (Value.slice ca cn cc).ownBlock = some q → w5.heap.size + 1 ≤ q ∧ q < wr.heap.size := fun q h => M.kids.block h
      (try simp only [Act.put, List.setIfInBounds_toArray, List.set_cons_zero, List.set_cons_succ])
      apply ord_loud rfl rfl rfl
      intro K hK
      refine wp_append_tree _ _ _ rfl (w5.heap.size + 1) _ kes rfl M1.kids w2.heap.size e2 rfl (boxCells hbz) (by have := HES.out; omega) (by simp; omega) ?_
      intro g1 cap1 w4 hown hgrow hlies hglt
      have hS4 : (fun (w' : World) => w'.cell? ⟨w5.heap.size, 5, none⟩ = some (.slice ca cn cc) ∧ w'.cell? ⟨w.heap.size, 3, none⟩ = some (.slice (some ⟨b, off, none⟩) ekn ekc) ∧ NCells w' b (off + j * 4) (⟨rk, rx, rpa, rpn, rpc, rka, rkn, rkc⟩ : Nv)) w4 := ⟨hgrow.cell (x3.cell o5) (fun e => by have := hbd _ e.symm; simp at this; omega), hgrow.cell (x3.cell k3) (fun e => by have := hbd _ e.symm; simp at this; omega), ?_⟩
      rotate_left
      · obtain ⟨c0, c1, c2, c3⟩ := hrc
        have hq : ∀ (p : Addr) (u : Value), p.block = b → wr.cell? p = some u → w4.cell? p = some u := fun p u hp hc => hgrow.cell (x3.cell hc) (fun e => by have := hbd _ e.symm; omega)
        exact ⟨hq _ _ rfl c0, hq _ _ rfl c1, hq _ _ rfl c2, hq _ _ rfl c3⟩
      have q5 := (M1.boxMid' hgrow).free 5
      refine hK _ _ (fun _ => hS4) ?_
      clear hK K
      (try simp only [Act.put, List.setIfInBounds_toArray, List.set_cons_zero, List.set_cons_succ])
      have o5 := hS4.1
      (apply ord_held rfl rfl (by assumption) rfl; (focus ((intro w' hS'); go_simp; (try with_reducible rfl))); (try simp only [Act.put, List.setIfInBounds_toArray, List.set_cons_zero, List.set_cons_succ]))
      (apply ord_last rfl rfl rfl (by kernel_rfl); intro K hK; go_simp; refine hK _ _ ?_; clear hK K; (try simp only [Act.put, List.setIfInBounds_toArray, List.set_cons_zero, List.set_cons_succ]))
      refine ord_end ?_
      have M2 := M1.kid hown hgrow hlies
      have hMw := hxw5.sz
      have hb2 := M1.boxKid (hb0r.ext x3) (by omega) (by omega) hgrow 5 (.slice (some ⟨g1, 0, none⟩) (kes.length + 1) cap1)
      have hbR2 := M1.boxKid (hbRr.ext x3) (by omega) (by omega) hgrow 5 (.slice (some ⟨g1, 0, none⟩) (kes.length + 1) cap1)
      have x4 := M1.extKid (ext_trans hx x3) (by omega) hgrow 5 (.slice (some ⟨g1, 0, none⟩) (kes.length + 1) cap1)
      have HK2 := Lib.hid ((HK.out.ext x3).step (hT3.to fun q h1 h2 => ⟨by have h3 : wr.heap.size ≤ q := h1; omega, fun e => by have h3 : wr.heap.size ≤ q := h1; have := (hbd q e).2; omega⟩) hgrow hlies (by omega : w5.heap.size < w5.heap.size + 1) 5 (.slice (some ⟨g1, 0, none⟩) (kes.length + 1) cap1) (kes.length + 1) cap1)
      have hszz : w5.heap.size + 1 ≤ (w4.setCell ⟨w5.heap.size, 5, none⟩ (.slice (some ⟨g1, 0, none⟩) (kes.length + 1) cap1)).heap.size := by have h1 := hgrow.size; have h2 := x3.sz; simp; omega
      clear hown hgrow hlies hglt hS q5 M1 M o0 o1 o2 o3 o4 o5 hT2 hT3 hbz HK hS4 hS3 hS2 hbd
      generalize w4.setCell ⟨w5.heap.size, 5, none⟩ (.slice (some ⟨g1, 0, none⟩) (kes.length + 1) cap1) = w6 at M2 hb2 hbR2 x4 HK2 hszz ⊢
      go_wp2_with fail
      go_roundw
      case rel =>
        first
          | exact ⟨x4, hszz, hbR2, hb2, j + 1, kes ++ [e2], _, _, _, by omega, by go_num, by simp [HES.out], M2, by rw [take_snoc HZ.out]; exact HK2.out⟩
          | (repeat apply Exists.intro
             refine And.intro ?_ rfl
             exact ⟨x4, hszz, hbR2, hb2, j + 1, kes ++ [e2], _, _, _, by omega, by go_num, by simp [HES.out], M2, by rw [take_snoc HZ.out]; exact HK2.out⟩)
      case measure => simp [intOf]; omega
    have hjn : j = ekn := by omega
    have hfull : (nodesT ks).take j = nodesT ks := List.take_of_length_le (by
      rw [nodesT_eq, List.length_map]
      have h1 := HKS.out.1
      omega)
    have hK := HK.out
    rw [hfull] at hK
    have hTK : TreeAt (fun b => w5.heap.size + 1 ≤ b) wr ⟨4, ⟨#[]⟩, 0, false, none, 0, 0, ca, cn, cc⟩ (listT (nodesT ks)) := M.tree (ss := []) hK.1 (fun b hb => by cases hb) (fun b hb => (M.kids.block hb).1) fun i e t h1 h2 => TreeAt.to (hK.2 i e t h1 h2) (fun b hb _ => hb.1)
    have HCN := Lib.hid (show cn = ekn by have h1 := M.klen; have h2 := HES.out; omega)
    have hbk := M.box
    obtain ⟨y0, y1, y2, y3, y4, y5⟩ := hbk.six
    have k0 := hbRr.cell 0 _ rfl
    have k1 := hbRr.cell 1 _ rfl
    have k2 := hbRr.cell 2 _ rfl
    have hlb := hbk.lt
    have HTK := Lib.hid hTK
    clear hTK hK HK M hfull hjn hxw5 hbR5 hb05 hx5 hx0
    have x8 : Ext wr (wr.alloc (.cells #[.string s_queries, .int .i64 4, .string ⟨#[]⟩, .float .f64 0, .bool false, .slice none 0 0, .slice ca cn cc] 72)) := ext_alloc (ext_refl wr) _
    have hbp : Box (wr.alloc (.cells #[.string s_queries, .int .i64 4, .string ⟨#[]⟩, .float .f64 0, .bool false, .slice none 0 0, .slice ca cn cc] 72)) wr.heap.size #[.string s_queries, .int .i64 4, .string ⟨#[]⟩, .float .f64 0, .bool false, .slice none 0 0, .slice ca cn cc] 72 := Box.at rfl _ _
    have hB := Lib.hid (beside_any (S := (fun b => w.heap.size + 1 + 1 ≤ b)) s_dis_max _ 1 1 _ _ (pairs_one (e := (⟨4, ⟨#[]⟩, 0, false, none, 0, 0, ca, cn, cc⟩ : El)) hbp (by omega) (TreeAt.ext x8 (HTK.out.to fun b hb _ => by have hb : w5.heap.size + 1 ≤ b := hb; omega))) (by decide))
    go_wp2_with (first
      | (go_at_call 46; refine hB.out.mono ?_; rintro r w9 ⟨g2, rfl, hT9, hx9⟩; simp only [El.val]
         have hb9 := (hb0r.ext x8).ext hx9; obtain ⟨o0, o1, o2, o3, o4, o5⟩ := hb9.six; have f0 := hb9.free 0; have f1 := hb9.free 1; have f2 := hb9.free 2; have f3 := hb9.free 3; have f4 := hb9.free 4; have f5 := hb9.free 5)
      | fail)
    have hx9w := ext_trans (ext_trans hx x8) hx9
    have hsz8 := x8.sz
    refine post_tree rfl rfl (hb9.sto g2) rfl ⟨g2, rfl, ?_, ext_sto6 hx9w (by omega) _ _ _ _ _ _⟩
    refine TreeAt.keep (S := (fun b => w.heap.size + 1 + 1 ≤ b)) (fun b hb _ => by omega) (keeps_sto w9 (by omega) g2) _ (hT9.to fun q hq _ => ?_)
    rcases hq with hq | hq
    · exact hq.1
    · omega
set_option maxRecDepth 20000 in
set_option maxHeartbeats 16000000 in
theorem whole_all {S : Nat → Prop} (ex : ByteArray) (epa : Option Addr) (epn epc : Nat) (eka : Option Addr) (ekn ekc : Nat) (_ps : List Int) (ks : List Nd) (w : World) (hK : NodesAt S w eka ekn ekc ks) (hk : ∀ r ∈ ks, Told3 r) (hkn : ekn ≤ 1048576) (ek : Int) (h1 : ek ≠ 1) (h2 : ek ≠ 2) (h3 : ek ≠ 3) (h4 : ek ≠ 4) (h5 : ek ≠ 5) (h6 : ek ≠ 6) (h7 : ek ≠ 7) :
    Calls Tryz.prog 21 #[(⟨ek, ex, epa, epn, epc, eka, ekn, ekc⟩ : Nv).val] w fun rr w' => ∃ g : El, rr = .returned g.val ∧ TreeAt (fun b => w.heap.size ≤ b) w' g (allT) ∧ Ext w w' := by
  have HKS := Lib.hid hK
  have HRK := Lib.hid hk
  have HKD := Lib.hid fun (w1 : World) (x : Ext w w1) (i : Nat) (hi : i ≤ 2147483647) => kidS_any (⟨ek, ex, epa, epn, epc, eka, ekn, ekc⟩ : Nv) ks i w1 (hK.ext x) hk hi (show ekn ≤ 2147483647 by omega)
  clear hK hk
  simp only [Nv.val]
  simp only [Nv.val] at HKD
  go_enter Tryz.func21, Tryz.ntmps21
  have hbR : Box ((w.alloc (.cells #[.int .i64 ek, .string ex, .slice epa epn epc, .slice eka ekn ekc] 41)).alloc (.cells (El.arr El0) 26)) w.heap.size #[.int .i64 ek, .string ex, .slice epa epn epc, .slice eka ekn ekc] 41 := (Box.at rfl _ _).alloc _
  have hb0 : Box ((w.alloc (.cells #[.int .i64 ek, .string ex, .slice epa epn epc, .slice eka ekn ekc] 41)).alloc (.cells (El.arr El0) 26)) (w.heap.size + 1) (El.arr El0) 26 := Box.at (by simp) _ _
  have hx0 : Ext w ((w.alloc (.cells #[.int .i64 ek, .string ex, .slice epa epn epc, .slice eka ekn ekc] 41)).alloc (.cells (El.arr El0) 26)) := ext_alloc (ext_alloc (ext_refl _) _) _
  have hs0 : ((w.alloc (.cells #[.int .i64 ek, .string ex, .slice epa epn epc, .slice eka ekn ekc] 41)).alloc (.cells (El.arr El0) 26)).heap.size = w.heap.size + 1 + 1 := by simp
  go_wp2_with (first
    | (go_at_call 66; refine (list_exact none 0 0 _).mono ?_; rintro r w5 ⟨rfl, hx5⟩; simp only [El.val])
    | fail)
  have hs5 := hx5.sz
  rw [hs0] at hs5
  have hxw5 := ext_trans hx0 hx5
  have hbR5 := hbR.ext hx5
  have hb05 := hb0.ext hx5
  clear hbR hb0 hs0
  go_loopw [4] (fun i wr => Ext w wr ∧ w5.heap.size + 1 ≤ wr.heap.size ∧ Box wr w.heap.size #[.int .i64 ek, .string ex, .slice epa epn epc, .slice eka ekn ekc] 41 ∧ Box wr (w.heap.size + 1) (El.arr El0) 26 ∧
    ∃ (j : Nat) (kes : List El) (ca : Option Addr) (cn cc : Nat), j ≤ ekn ∧ i = .int .i64 j ∧ kes.length = j ∧ Making wr (w5.heap.size + 1) w5.heap.size 4 [] kes none 0 0 ca cn cc ∧ Kin wr (w5.heap.size + 1) (.slice ca cn cc) kes ((nodesT ks).take j)) (fun i _ => ekn - (intOf i).toNat)
  case atStart => exact ⟨ext_alloc hxw5 _, by simp, hbR5.alloc _, hb05.alloc _, 0, [], none, 0, 0, Nat.zero_le _, rfl, rfl, ⟨Box.at rfl _ _, World.ownsRow_nil _ _ _ _, World.ownsRow_nil _ _ _ _, by omega, fun _ h => by cases h⟩, Kin.nil _ _ _⟩
  case round =>
    obtain ⟨hx, hsz, hbRr, hb0r, j, kes, ca, cn, cc, hj, rfl, hes, M, HK⟩ := hrel
    have HES := Lib.hid hes
    have HK := Lib.hid HK
    clear hes
    have k3 := hbRr.cell 3 _ rfl
    by_cases hlt : j < ekn
    case pos =>
      obtain ⟨hl, -, -, -⟩ := HKS.out
      obtain ⟨r0, hr0⟩ := some_of_lt hl hlt
      obtain ⟨b, off, e, rfl, -, hrc, hra⟩ := HKS.out.get hr0
      have hbw0 : b < w.heap.size := lt_of_cell hrc.1
      have hrc := NCells.ext hx hrc
      have hRu := Lib.hid (fun (w1 : World) (x : Ext w w1) => HRK.out r0 (List.mem_of_getElem? hr0) S _ w1 (NodeAt.ext x hra))
      have HZ := Lib.hid (show (nodesT ks)[j]? = some (nodeT r0) by rw [nodesT_eq, List.getElem?_map, hr0]; rfl)
      clear hra hr0 hl
      obtain ⟨rk, rx, rpa, rpn, rpc, rka, rkn, rkc⟩ := e
      obtain ⟨o0, o1, o2, o3, o4, o5⟩ := M.box.six
      go_upto_region 5 with fail
      refine wp_region_order (fun (w' : World) => w'.cell? ⟨w5.heap.size, 5, none⟩ = some (.slice ca cn cc) ∧ w'.cell? ⟨w.heap.size, 3, none⟩ = some (.slice (some ⟨b, off, none⟩) ekn ekc) ∧ NCells w' b (off + j * 4) (⟨rk, rx, rpa, rpn, rpc, rka, rkn, rkc⟩ : Nv)) [0, 1, 2, 3, 4, 5, 6, 10] [0, 1, 2, 3, 4, 5, 6, 7, 8, 9, 10, 11] (by kernel_rfl) (by kernel_rfl) (fun d _ _ _ _ h => by cases d <;> exact h) (by kernel_rfl) ?_
      have hS : (fun (w' : World) => w'.cell? ⟨w5.heap.size, 5, none⟩ = some (.slice ca cn cc) ∧ w'.cell? ⟨w.heap.size, 3, none⟩ = some (.slice (some ⟨b, off, none⟩) ekn ekc) ∧ NCells w' b (off + j * 4) (⟨rk, rx, rpa, rpn, rpc, rka, rkn, rkc⟩ : Nv)) _ := ⟨o5, k3, hrc⟩
      (apply ord_held rfl rfl (by assumption) rfl; (focus ((intro w' hS'); go_simp; (try with_reducible rfl))); (try simp only [Act.put, List.setIfInBounds_toArray, List.set_cons_zero, List.set_cons_succ]))
      (apply ord_held rfl rfl (by assumption) rfl; (focus ((intro w' hS'); go_simp; (try with_reducible rfl))); (try simp only [Act.put, List.setIfInBounds_toArray, List.set_cons_zero, List.set_cons_succ]))
      (apply ord_held rfl rfl (by assumption) rfl; (focus ((intro w' hS'); go_simp; (try with_reducible rfl))); (try simp only [Act.put, List.setIfInBounds_toArray, List.set_cons_zero, List.set_cons_succ]))
      (apply ord_held rfl rfl (by assumption) rfl; (focus ((intro w' hS'); go_simp; (try with_reducible rfl))); (try simp only [Act.put, List.setIfInBounds_toArray, List.set_cons_zero, List.set_cons_succ]))
      (apply ord_held rfl rfl (by assumption) rfl; (focus ((intro w' hS'); go_simp; (try with_reducible rfl))); (try simp only [Act.put, List.setIfInBounds_toArray, List.set_cons_zero, List.set_cons_succ]))
      (apply ord_held rfl rfl (by assumption) rfl; (focus ((intro w' hS'); go_simp; (try with_reducible rfl))); (try simp only [Act.put, List.setIfInBounds_toArray, List.set_cons_zero, List.set_cons_succ]))
      (apply ord_held rfl rfl (by assumption) rfl; (focus ((intro w' hS'); go_simp; (try with_reducible rfl))); (try simp only [Act.put, List.setIfInBounds_toArray, List.set_cons_zero, List.set_cons_succ]))
      (apply ord_loud rfl rfl rfl; intro K hK; go_simp)
      refine (hRu.out _ (ext_drew hx)).mono ?_
      rintro r w2 ⟨e2, rfl, hT2, hx2⟩
      have x2 : Ext wr w2 := ext_trans (ext_drew (ext_refl _)) hx2
      have hS2 : (fun (w' : World) => w'.cell? ⟨w5.heap.size, 5, none⟩ = some (.slice ca cn cc) ∧ w'.cell? ⟨w.heap.size, 3, none⟩ = some (.slice (some ⟨b, off, none⟩) ekn ekc) ∧ NCells w' b (off + j * 4) (⟨rk, rx, rpa, rpn, rpc, rka, rkn, rkc⟩ : Nv)) w2 := ⟨x2.cell o5, x2.cell k3, NCells.ext x2 hrc⟩
      refine hK _ _ (fun _ => hS2) ?_
      clear hK K
      simp only [El.val]
      (try simp only [Act.put, List.setIfInBounds_toArray, List.set_cons_zero, List.set_cons_succ])
      (apply ord_loud rfl rfl rfl; intro K hK; go_simp)
      have x3 : Ext wr (w2.alloc (.cells #[.int .i64 e2.k, .string e2.x, .float .f64 e2.d, .bool e2.y, .slice e2.ka e2.n e2.kc, .slice e2.ca e2.m e2.cc] 26)) := ext_alloc x2 _
      have hbz : Box (w2.alloc (.cells #[.int .i64 e2.k, .string e2.x, .float .f64 e2.d, .bool e2.y, .slice e2.ka e2.n e2.kc, .slice e2.ca e2.m e2.cc] 26)) w2.heap.size e2.arr 26 := Box.new _ _ _
      have hT3 := hT2.ext (ext_alloc (ext_refl w2) (.cells #[.int .i64 e2.k, .string e2.x, .float .f64 e2.d, .bool e2.y, .slice e2.ka e2.n e2.kc, .slice e2.ca e2.m e2.cc] 26))
      have hS3 : (fun (w' : World) => w'.cell? ⟨w5.heap.size, 5, none⟩ = some (.slice ca cn cc) ∧ w'.cell? ⟨w.heap.size, 3, none⟩ = some (.slice (some ⟨b, off, none⟩) ekn ekc) ∧ NCells w' b (off + j * 4) (⟨rk, rx, rpa, rpn, rpc, rka, rkn, rkc⟩ : Nv)) (w2.alloc (.cells #[.int .i64 e2.k, .string e2.x, .float .f64 e2.d, .bool e2.y, .slice e2.ka e2.n e2.kc, .slice e2.ca e2.m e2.cc] 26)) := ⟨x3.cell o5, x3.cell k3, NCells.ext x3 hrc⟩
      refine hK _ _ (fun _ => hS3) ?_
      clear hK K
      have M1 := M.ext x3
      have hs2 := x2.sz
      have hbd : ∀ q, (Value.slice ca cn cc).ownBlock = some q → w5.heap.size + 1 ≤ q ∧ q < wr.heap.size := fun q h => M.kids.block h
      (try simp only [Act.put, List.setIfInBounds_toArray, List.set_cons_zero, List.set_cons_succ])
      apply ord_loud rfl rfl rfl
      intro K hK
      refine wp_append_tree _ _ _ rfl (w5.heap.size + 1) _ kes rfl M1.kids w2.heap.size e2 rfl (boxCells hbz) (by have := HES.out; omega) (by simp; omega) ?_
      intro g1 cap1 w4 hown hgrow hlies hglt
      have hS4 : (fun (w' : World) => w'.cell? ⟨w5.heap.size, 5, none⟩ = some (.slice ca cn cc) ∧ w'.cell? ⟨w.heap.size, 3, none⟩ = some (.slice (some ⟨b, off, none⟩) ekn ekc) ∧ NCells w' b (off + j * 4) (⟨rk, rx, rpa, rpn, rpc, rka, rkn, rkc⟩ : Nv)) w4 := ⟨hgrow.cell (x3.cell o5) (fun e => by have := hbd _ e.symm; simp at this; omega), hgrow.cell (x3.cell k3) (fun e => by have := hbd _ e.symm; simp at this; omega), ?_⟩
      rotate_left
      · obtain ⟨c0, c1, c2, c3⟩ := hrc
        have hq : ∀ (p : Addr) (u : Value), p.block = b → wr.cell? p = some u → w4.cell? p = some u := fun p u hp hc => hgrow.cell (x3.cell hc) (fun e => by have := hbd _ e.symm; omega)
        exact ⟨hq _ _ rfl c0, hq _ _ rfl c1, hq _ _ rfl c2, hq _ _ rfl c3⟩
      have q5 := (M1.boxMid' hgrow).free 5
      refine hK _ _ (fun _ => hS4) ?_
      clear hK K
      (try simp only [Act.put, List.setIfInBounds_toArray, List.set_cons_zero, List.set_cons_succ])
      have o5 := hS4.1
      (apply ord_held rfl rfl (by assumption) rfl; (focus ((intro w' hS'); go_simp; (try with_reducible rfl))); (try simp only [Act.put, List.setIfInBounds_toArray, List.set_cons_zero, List.set_cons_succ]))
      (apply ord_last rfl rfl rfl (by kernel_rfl); intro K hK; go_simp; refine hK _ _ ?_; clear hK K; (try simp only [Act.put, List.setIfInBounds_toArray, List.set_cons_zero, List.set_cons_succ]))
      refine ord_end ?_
      have M2 := M1.kid hown hgrow hlies
      have hMw := hxw5.sz
      have hb2 := M1.boxKid (hb0r.ext x3) (by omega) (by omega) hgrow 5 (.slice (some ⟨g1, 0, none⟩) (kes.length + 1) cap1)
      have hbR2 := M1.boxKid (hbRr.ext x3) (by omega) (by omega) hgrow 5 (.slice (some ⟨g1, 0, none⟩) (kes.length + 1) cap1)
      have x4 := M1.extKid (ext_trans hx x3) (by omega) hgrow 5 (.slice (some ⟨g1, 0, none⟩) (kes.length + 1) cap1)
      have HK2 := Lib.hid ((HK.out.ext x3).step (hT3.to fun q h1 h2 => ⟨by have h3 : wr.heap.size ≤ q := h1; omega, fun e => by have h3 : wr.heap.size ≤ q := h1; have := (hbd q e).2; omega⟩) hgrow hlies (by omega : w5.heap.size < w5.heap.size + 1) 5 (.slice (some ⟨g1, 0, none⟩) (kes.length + 1) cap1) (kes.length + 1) cap1)
      have hszz : w5.heap.size + 1 ≤ (w4.setCell ⟨w5.heap.size, 5, none⟩ (.slice (some ⟨g1, 0, none⟩) (kes.length + 1) cap1)).heap.size := by have h1 := hgrow.size; have h2 := x3.sz; simp; omega
      clear hown hgrow hlies hglt hS q5 M1 M o0 o1 o2 o3 o4 o5 hT2 hT3 hbz HK hS4 hS3 hS2 hbd
      generalize w4.setCell ⟨w5.heap.size, 5, none⟩ (.slice (some ⟨g1, 0, none⟩) (kes.length + 1) cap1) = w6 at M2 hb2 hbR2 x4 HK2 hszz ⊢
      go_wp2_with fail
      go_roundw
      case rel =>
        first
          | exact ⟨x4, hszz, hbR2, hb2, j + 1, kes ++ [e2], _, _, _, by omega, by go_num, by simp [HES.out], M2, by rw [take_snoc HZ.out]; exact HK2.out⟩
          | (repeat apply Exists.intro
             refine And.intro ?_ rfl
             exact ⟨x4, hszz, hbR2, hb2, j + 1, kes ++ [e2], _, _, _, by omega, by go_num, by simp [HES.out], M2, by rw [take_snoc HZ.out]; exact HK2.out⟩)
      case measure => simp [intOf]; omega
    have hjn : j = ekn := by omega
    have hfull : (nodesT ks).take j = nodesT ks := List.take_of_length_le (by
      rw [nodesT_eq, List.length_map]
      have h1 := HKS.out.1
      omega)
    have hK := HK.out
    rw [hfull] at hK
    have hTK : TreeAt (fun b => w5.heap.size + 1 ≤ b) wr ⟨4, ⟨#[]⟩, 0, false, none, 0, 0, ca, cn, cc⟩ (listT (nodesT ks)) := M.tree (ss := []) hK.1 (fun b hb => by cases hb) (fun b hb => (M.kids.block hb).1) fun i e t h1 h2 => TreeAt.to (hK.2 i e t h1 h2) (fun b hb _ => hb.1)
    have HCN := Lib.hid (show cn = ekn by have h1 := M.klen; have h2 := HES.out; omega)
    have hbk := M.box
    obtain ⟨y0, y1, y2, y3, y4, y5⟩ := hbk.six
    have k0 := hbRr.cell 0 _ rfl
    have k1 := hbRr.cell 1 _ rfl
    have k2 := hbRr.cell 2 _ rfl
    have hlb := hbk.lt
    have HTK := Lib.hid hTK
    clear hTK hK HK M hfull hjn hxw5 hbR5 hb05 hx5 hx0
    have x8 : Ext wr wr := ext_refl wr
    have hB := Lib.hid fun w' => beside_any (S := (fun b => w.heap.size + 1 + 1 ≤ b)) s_match_all none 0 0 [] w' (pairs_nil _ _) (by decide)
    go_wp2_with (first
      | (go_at_call 46; refine (hB.out _).mono ?_; rintro r w9 ⟨g2, rfl, hT9, hx9⟩; simp only [El.val]
         have hb9 := (hb0r.ext x8).ext hx9; obtain ⟨o0, o1, o2, o3, o4, o5⟩ := hb9.six; have f0 := hb9.free 0; have f1 := hb9.free 1; have f2 := hb9.free 2; have f3 := hb9.free 3; have f4 := hb9.free 4; have f5 := hb9.free 5)
      | fail)
    have hx9w := ext_trans (ext_trans hx x8) hx9
    have hsz8 := x8.sz
    refine post_tree rfl rfl (hb9.sto g2) rfl ⟨g2, rfl, ?_, ext_sto6 hx9w (by omega) _ _ _ _ _ _⟩
    refine TreeAt.keep (S := (fun b => w.heap.size + 1 + 1 ≤ b)) (fun b hb _ => by omega) (keeps_sto w9 (by omega) g2) _ (hT9.to fun q hq _ => ?_)
    rcases hq with hq | hq
    · exact hq.1
    · omega
set_option maxRecDepth 20000 in
set_option maxHeartbeats 16000000 in
theorem whole_nested {S : Nat → Prop} (ex : ByteArray) (epa : Option Addr) (epn epc : Nat) (eka : Option Addr) (ekn ekc : Nat) (_ps : List Int) (ks : List Nd) (w : World) (hK : NodesAt S w eka ekn ekc ks) (hk : ∀ r ∈ ks, Told3 r) (hkn : ekn ≤ 1048576) :
    Calls Tryz.prog 21 #[(⟨7, ex, epa, epn, epc, eka, ekn, ekc⟩ : Nv).val] w fun rr w' => ∃ g : El, rr = .returned g.val ∧ TreeAt (fun b => w.heap.size ≤ b) w' g (mapT [(s_nested, mapT [(s_path, textT ex), (s_query, kidT (nodesT ks) 0)])]) ∧ Ext w w' := by
  have HKS := Lib.hid hK
  have HRK := Lib.hid hk
  have HKD := Lib.hid fun (w1 : World) (x : Ext w w1) (i : Nat) (hi : i ≤ 2147483647) => kidS_any (⟨7, ex, epa, epn, epc, eka, ekn, ekc⟩ : Nv) ks i w1 (hK.ext x) hk hi (show ekn ≤ 2147483647 by omega)
  clear hK hk
  simp only [Nv.val]
  simp only [Nv.val] at HKD
  go_enter Tryz.func21, Tryz.ntmps21
  have hbR : Box ((w.alloc (.cells #[.int .i64 7, .string ex, .slice epa epn epc, .slice eka ekn ekc] 41)).alloc (.cells (El.arr El0) 26)) w.heap.size #[.int .i64 7, .string ex, .slice epa epn epc, .slice eka ekn ekc] 41 := (Box.at rfl _ _).alloc _
  have hb0 : Box ((w.alloc (.cells #[.int .i64 7, .string ex, .slice epa epn epc, .slice eka ekn ekc] 41)).alloc (.cells (El.arr El0) 26)) (w.heap.size + 1) (El.arr El0) 26 := Box.at (by simp) _ _
  have hx0 : Ext w ((w.alloc (.cells #[.int .i64 7, .string ex, .slice epa epn epc, .slice eka ekn ekc] 41)).alloc (.cells (El.arr El0) 26)) := ext_alloc (ext_alloc (ext_refl _) _) _
  have hs0 : ((w.alloc (.cells #[.int .i64 7, .string ex, .slice epa epn epc, .slice eka ekn ekc] 41)).alloc (.cells (El.arr El0) 26)).heap.size = w.heap.size + 1 + 1 := by simp
  go_wp2_with (first
    | (go_at_call 66; refine (list_exact none 0 0 _).mono ?_; rintro r w5 ⟨rfl, hx5⟩; simp only [El.val])
    | fail)
  have hs5 := hx5.sz
  rw [hs0] at hs5
  have hxw5 := ext_trans hx0 hx5
  have hbR5 := hbR.ext hx5
  have hb05 := hb0.ext hx5
  clear hbR hb0 hs0
  go_loopw [4] (fun i wr => Ext w wr ∧ w5.heap.size + 1 ≤ wr.heap.size ∧ Box wr w.heap.size #[.int .i64 7, .string ex, .slice epa epn epc, .slice eka ekn ekc] 41 ∧ Box wr (w.heap.size + 1) (El.arr El0) 26 ∧
    ∃ (j : Nat) (kes : List El) (ca : Option Addr) (cn cc : Nat), j ≤ ekn ∧ i = .int .i64 j ∧ kes.length = j ∧ Making wr (w5.heap.size + 1) w5.heap.size 4 [] kes none 0 0 ca cn cc ∧ Kin wr (w5.heap.size + 1) (.slice ca cn cc) kes ((nodesT ks).take j)) (fun i _ => ekn - (intOf i).toNat)
  case atStart => exact ⟨ext_alloc hxw5 _, by simp, hbR5.alloc _, hb05.alloc _, 0, [], none, 0, 0, Nat.zero_le _, rfl, rfl, ⟨Box.at rfl _ _, World.ownsRow_nil _ _ _ _, World.ownsRow_nil _ _ _ _, by omega, fun _ h => by cases h⟩, Kin.nil _ _ _⟩
  case round =>
    obtain ⟨hx, hsz, hbRr, hb0r, j, kes, ca, cn, cc, hj, rfl, hes, M, HK⟩ := hrel
    have HES := Lib.hid hes
    have HK := Lib.hid HK
    clear hes
    have k3 := hbRr.cell 3 _ rfl
    by_cases hlt : j < ekn
    case pos =>
      obtain ⟨hl, -, -, -⟩ := HKS.out
      obtain ⟨r0, hr0⟩ := some_of_lt hl hlt
      obtain ⟨b, off, e, rfl, -, hrc, hra⟩ := HKS.out.get hr0
      have hbw0 : b < w.heap.size := lt_of_cell hrc.1
      have hrc := NCells.ext hx hrc
      have hRu := Lib.hid (fun (w1 : World) (x : Ext w w1) => HRK.out r0 (List.mem_of_getElem? hr0) S _ w1 (NodeAt.ext x hra))
      have HZ := Lib.hid (show (nodesT ks)[j]? = some (nodeT r0) by rw [nodesT_eq, List.getElem?_map, hr0]; rfl)
      clear hra hr0 hl
      obtain ⟨rk, rx, rpa, rpn, rpc, rka, rkn, rkc⟩ := e
      obtain ⟨o0, o1, o2, o3, o4, o5⟩ := M.box.six
      go_upto_region 5 with fail
      refine wp_region_order (fun (w' : World) => w'.cell? ⟨w5.heap.size, 5, none⟩ = some (.slice ca cn cc) ∧ w'.cell? ⟨w.heap.size, 3, none⟩ = some (.slice (some ⟨b, off, none⟩) ekn ekc) ∧ NCells w' b (off + j * 4) (⟨rk, rx, rpa, rpn, rpc, rka, rkn, rkc⟩ : Nv)) [0, 1, 2, 3, 4, 5, 6, 10] [0, 1, 2, 3, 4, 5, 6, 7, 8, 9, 10, 11] (by kernel_rfl) (by kernel_rfl) (fun d _ _ _ _ h => by cases d <;> exact h) (by kernel_rfl) ?_
      have hS : (fun (w' : World) => w'.cell? ⟨w5.heap.size, 5, none⟩ = some (.slice ca cn cc) ∧ w'.cell? ⟨w.heap.size, 3, none⟩ = some (.slice (some ⟨b, off, none⟩) ekn ekc) ∧ NCells w' b (off + j * 4) (⟨rk, rx, rpa, rpn, rpc, rka, rkn, rkc⟩ : Nv)) _ := ⟨o5, k3, hrc⟩
      (apply ord_held rfl rfl (by assumption) rfl; (focus ((intro w' hS'); go_simp; (try with_reducible rfl))); (try simp only [Act.put, List.setIfInBounds_toArray, List.set_cons_zero, List.set_cons_succ]))
      (apply ord_held rfl rfl (by assumption) rfl; (focus ((intro w' hS'); go_simp; (try with_reducible rfl))); (try simp only [Act.put, List.setIfInBounds_toArray, List.set_cons_zero, List.set_cons_succ]))
      (apply ord_held rfl rfl (by assumption) rfl; (focus ((intro w' hS'); go_simp; (try with_reducible rfl))); (try simp only [Act.put, List.setIfInBounds_toArray, List.set_cons_zero, List.set_cons_succ]))
      (apply ord_held rfl rfl (by assumption) rfl; (focus ((intro w' hS'); go_simp; (try with_reducible rfl))); (try simp only [Act.put, List.setIfInBounds_toArray, List.set_cons_zero, List.set_cons_succ]))
      (apply ord_held rfl rfl (by assumption) rfl; (focus ((intro w' hS'); go_simp; (try with_reducible rfl))); (try simp only [Act.put, List.setIfInBounds_toArray, List.set_cons_zero, List.set_cons_succ]))
      (apply ord_held rfl rfl (by assumption) rfl; (focus ((intro w' hS'); go_simp; (try with_reducible rfl))); (try simp only [Act.put, List.setIfInBounds_toArray, List.set_cons_zero, List.set_cons_succ]))
      (apply ord_held rfl rfl (by assumption) rfl; (focus ((intro w' hS'); go_simp; (try with_reducible rfl))); (try simp only [Act.put, List.setIfInBounds_toArray, List.set_cons_zero, List.set_cons_succ]))
      (apply ord_loud rfl rfl rfl; intro K hK; go_simp)
      refine (hRu.out _ (ext_drew hx)).mono ?_
      rintro r w2 ⟨e2, rfl, hT2, hx2⟩
      have x2 : Ext wr w2 := ext_trans (ext_drew (ext_refl _)) hx2
      have hS2 : (fun (w' : World) => w'.cell? ⟨w5.heap.size, 5, none⟩ = some (.slice ca cn cc) ∧ w'.cell? ⟨w.heap.size, 3, none⟩ = some (.slice (some ⟨b, off, none⟩) ekn ekc) ∧ NCells w' b (off + j * 4) (⟨rk, rx, rpa, rpn, rpc, rka, rkn, rkc⟩ : Nv)) w2 := ⟨x2.cell o5, x2.cell k3, NCells.ext x2 hrc⟩
      refine hK _ _ (fun _ => hS2) ?_
      clear hK K
      simp only [El.val]
      (try simp only [Act.put, List.setIfInBounds_toArray, List.set_cons_zero, List.set_cons_succ])
      (apply ord_loud rfl rfl rfl; intro K hK; go_simp)
      have x3 : Ext wr (w2.alloc (.cells #[.int .i64 e2.k, .string e2.x, .float .f64 e2.d, .bool e2.y, .slice e2.ka e2.n e2.kc, .slice e2.ca e2.m e2.cc] 26)) := ext_alloc x2 _
      have hbz : Box (w2.alloc (.cells #[.int .i64 e2.k, .string e2.x, .float .f64 e2.d, .bool e2.y, .slice e2.ka e2.n e2.kc, .slice e2.ca e2.m e2.cc] 26)) w2.heap.size e2.arr 26 := Box.new _ _ _
      have hT3 := hT2.ext (ext_alloc (ext_refl w2) (.cells #[.int .i64 e2.k, .string e2.x, .float .f64 e2.d, .bool e2.y, .slice e2.ka e2.n e2.kc, .slice e2.ca e2.m e2.cc] 26))
      have hS3 : (fun (w' : World) => w'.cell? ⟨w5.heap.size, 5, none⟩ = some (.slice ca cn cc) ∧ w'.cell? ⟨w.heap.size, 3, none⟩ = some (.slice (some ⟨b, off, none⟩) ekn ekc) ∧ NCells w' b (off + j * 4) (⟨rk, rx, rpa, rpn, rpc, rka, rkn, rkc⟩ : Nv)) (w2.alloc (.cells #[.int .i64 e2.k, .string e2.x, .float .f64 e2.d, .bool e2.y, .slice e2.ka e2.n e2.kc, .slice e2.ca e2.m e2.cc] 26)) := ⟨x3.cell o5, x3.cell k3, NCells.ext x3 hrc⟩
      refine hK _ _ (fun _ => hS3) ?_
      clear hK K
      have M1 := M.ext x3
      have hs2 := x2.sz
      have hbd : ∀ q, (Value.slice ca cn cc).ownBlock = some q → w5.heap.size + 1 ≤ q ∧ q < wr.heap.size := fun q h => M.kids.block h
      (try simp only [Act.put, List.setIfInBounds_toArray, List.set_cons_zero, List.set_cons_succ])
      apply ord_loud rfl rfl rfl
      intro K hK
      refine wp_append_tree _ _ _ rfl (w5.heap.size + 1) _ kes rfl M1.kids w2.heap.size e2 rfl (boxCells hbz) (by have := HES.out; omega) (by simp; omega) ?_
      intro g1 cap1 w4 hown hgrow hlies hglt
      have hS4 : (fun (w' : World) => w'.cell? ⟨w5.heap.size, 5, none⟩ = some (.slice ca cn cc) ∧ w'.cell? ⟨w.heap.size, 3, none⟩ = some (.slice (some ⟨b, off, none⟩) ekn ekc) ∧ NCells w' b (off + j * 4) (⟨rk, rx, rpa, rpn, rpc, rka, rkn, rkc⟩ : Nv)) w4 := ⟨hgrow.cell (x3.cell o5) (fun e => by have := hbd _ e.symm; simp at this; omega), hgrow.cell (x3.cell k3) (fun e => by have := hbd _ e.symm; simp at this; omega), ?_⟩
      rotate_left
      · obtain ⟨c0, c1, c2, c3⟩ := hrc
        have hq : ∀ (p : Addr) (u : Value), p.block = b → wr.cell? p = some u → w4.cell? p = some u := fun p u hp hc => hgrow.cell (x3.cell hc) (fun e => by have := hbd _ e.symm; omega)
        exact ⟨hq _ _ rfl c0, hq _ _ rfl c1, hq _ _ rfl c2, hq _ _ rfl c3⟩
      have q5 := (M1.boxMid' hgrow).free 5
      refine hK _ _ (fun _ => hS4) ?_
      clear hK K
      (try simp only [Act.put, List.setIfInBounds_toArray, List.set_cons_zero, List.set_cons_succ])
      have o5 := hS4.1
      (apply ord_held rfl rfl (by assumption) rfl; (focus ((intro w' hS'); go_simp; (try with_reducible rfl))); (try simp only [Act.put, List.setIfInBounds_toArray, List.set_cons_zero, List.set_cons_succ]))
      (apply ord_last rfl rfl rfl (by kernel_rfl); intro K hK; go_simp; refine hK _ _ ?_; clear hK K; (try simp only [Act.put, List.setIfInBounds_toArray, List.set_cons_zero, List.set_cons_succ]))
      refine ord_end ?_
      have M2 := M1.kid hown hgrow hlies
      have hMw := hxw5.sz
      have hb2 := M1.boxKid (hb0r.ext x3) (by omega) (by omega) hgrow 5 (.slice (some ⟨g1, 0, none⟩) (kes.length + 1) cap1)
      have hbR2 := M1.boxKid (hbRr.ext x3) (by omega) (by omega) hgrow 5 (.slice (some ⟨g1, 0, none⟩) (kes.length + 1) cap1)
      have x4 := M1.extKid (ext_trans hx x3) (by omega) hgrow 5 (.slice (some ⟨g1, 0, none⟩) (kes.length + 1) cap1)
      have HK2 := Lib.hid ((HK.out.ext x3).step (hT3.to fun q h1 h2 => ⟨by have h3 : wr.heap.size ≤ q := h1; omega, fun e => by have h3 : wr.heap.size ≤ q := h1; have := (hbd q e).2; omega⟩) hgrow hlies (by omega : w5.heap.size < w5.heap.size + 1) 5 (.slice (some ⟨g1, 0, none⟩) (kes.length + 1) cap1) (kes.length + 1) cap1)
      have hszz : w5.heap.size + 1 ≤ (w4.setCell ⟨w5.heap.size, 5, none⟩ (.slice (some ⟨g1, 0, none⟩) (kes.length + 1) cap1)).heap.size := by have h1 := hgrow.size; have h2 := x3.sz; simp; omega
      clear hown hgrow hlies hglt hS q5 M1 M o0 o1 o2 o3 o4 o5 hT2 hT3 hbz HK hS4 hS3 hS2 hbd
      generalize w4.setCell ⟨w5.heap.size, 5, none⟩ (.slice (some ⟨g1, 0, none⟩) (kes.length + 1) cap1) = w6 at M2 hb2 hbR2 x4 HK2 hszz ⊢
      go_wp2_with fail
      go_roundw
      case rel =>
        first
          | exact ⟨x4, hszz, hbR2, hb2, j + 1, kes ++ [e2], _, _, _, by omega, by go_num, by simp [HES.out], M2, by rw [take_snoc HZ.out]; exact HK2.out⟩
          | (repeat apply Exists.intro
             refine And.intro ?_ rfl
             exact ⟨x4, hszz, hbR2, hb2, j + 1, kes ++ [e2], _, _, _, by omega, by go_num, by simp [HES.out], M2, by rw [take_snoc HZ.out]; exact HK2.out⟩)
      case measure => simp [intOf]; omega
    have hjn : j = ekn := by omega
    have hfull : (nodesT ks).take j = nodesT ks := List.take_of_length_le (by
      rw [nodesT_eq, List.length_map]
      have h1 := HKS.out.1
      omega)
    have hK := HK.out
    rw [hfull] at hK
    have hTK : TreeAt (fun b => w5.heap.size + 1 ≤ b) wr ⟨4, ⟨#[]⟩, 0, false, none, 0, 0, ca, cn, cc⟩ (listT (nodesT ks)) := M.tree (ss := []) hK.1 (fun b hb => by cases hb) (fun b hb => (M.kids.block hb).1) fun i e t h1 h2 => TreeAt.to (hK.2 i e t h1 h2) (fun b hb _ => hb.1)
    have HCN := Lib.hid (show cn = ekn by have h1 := M.klen; have h2 := HES.out; omega)
    have hbk := M.box
    obtain ⟨y0, y1, y2, y3, y4, y5⟩ := hbk.six
    have k0 := hbRr.cell 0 _ rfl
    have k1 := hbRr.cell 1 _ rfl
    have k2 := hbRr.cell 2 _ rfl
    have hlb := hbk.lt
    have HTK := Lib.hid hTK
    clear hTK hK HK M hfull hjn hxw5 hbR5 hb05 hx5 hx0
    go_upto_region 32 with fail
    refine wp_region_order (fun (w' : World) => w'.cell? ⟨w.heap.size, 0, none⟩ = some (.int .i64 7) ∧ w'.cell? ⟨w.heap.size, 1, none⟩ = some (.string ex) ∧ w'.cell? ⟨w.heap.size, 2, none⟩ = some (.slice epa epn epc) ∧ w'.cell? ⟨w.heap.size, 3, none⟩ = some (.slice eka ekn ekc)) [0, 1, 3, 4, 6] [0, 1, 4, 2, 3, 5, 6, 7, 8, 9] (by kernel_rfl) (by kernel_rfl) (fun d _ _ _ _ h => by cases d <;> exact h) (by kernel_rfl) ?_
    have hS : (fun (w' : World) => w'.cell? ⟨w.heap.size, 0, none⟩ = some (.int .i64 7) ∧ w'.cell? ⟨w.heap.size, 1, none⟩ = some (.string ex) ∧ w'.cell? ⟨w.heap.size, 2, none⟩ = some (.slice epa epn epc) ∧ w'.cell? ⟨w.heap.size, 3, none⟩ = some (.slice eka ekn ekc)) wr.drew := ⟨hbRr.drew.cell 0 _ rfl, hbRr.drew.cell 1 _ rfl, hbRr.drew.cell 2 _ rfl, hbRr.drew.cell 3 _ rfl⟩
    (apply ord_held rfl rfl (by assumption) rfl; (focus ((intro w' hS'); go_simp; (try with_reducible rfl))); (try simp only [Act.put, List.setIfInBounds_toArray, List.set_cons_zero, List.set_cons_succ]))
    (apply ord_held rfl rfl (by assumption) rfl; (focus ((intro w' hS'); go_simp; (try with_reducible rfl))); (try simp only [Act.put, List.setIfInBounds_toArray, List.set_cons_zero, List.set_cons_succ]))
    (apply ord_held rfl rfl (by assumption) rfl; (focus ((intro w' hS'); go_simp; (try with_reducible rfl))); (try simp only [Act.put, List.setIfInBounds_toArray, List.set_cons_zero, List.set_cons_succ]))
    (apply ord_loud rfl rfl rfl; intro K hK; go_simp)
    refine (text_any ex _).mono ?_
    rintro r w7 ⟨gt, rfl, hgt, hx7⟩
    have x7 : Ext wr w7 := ext_trans (ext_drew (ext_refl _)) hx7
    have hbR7 := hbRr.ext x7
    have hb7 := hb0r.ext x7
    have hsz7 := x7.sz
    have hS_hbR7 : (fun (w' : World) => w'.cell? ⟨w.heap.size, 0, none⟩ = some (.int .i64 7) ∧ w'.cell? ⟨w.heap.size, 1, none⟩ = some (.string ex) ∧ w'.cell? ⟨w.heap.size, 2, none⟩ = some (.slice epa epn epc) ∧ w'.cell? ⟨w.heap.size, 3, none⟩ = some (.slice eka ekn ekc)) w7 := ⟨hbR7.cell 0 _ rfl, hbR7.cell 1 _ rfl, hbR7.cell 2 _ rfl, hbR7.cell 3 _ rfl⟩
    refine hK _ _ (fun _ => hS_hbR7) ?_
    clear hK K
    simp only [El.val]
    (try simp only [Act.put, List.setIfInBounds_toArray, List.set_cons_zero, List.set_cons_succ])
    (apply ord_held rfl rfl (by assumption) rfl; (focus ((intro w' hS'); go_simp; (try with_reducible rfl))); (try simp only [Act.put, List.setIfInBounds_toArray, List.set_cons_zero, List.set_cons_succ]))
    (apply ord_loud rfl rfl rfl; intro K hK; go_simp)
    refine (HKD.out _ (ext_trans hx x7) 0 (by omega)).mono ?_
    rintro r w8 ⟨gk, rfl, hgk, hx8⟩
    have hbR8 := hbR7.ext hx8
    have hb8 := hb7.ext hx8
    have hsz8 := hx8.sz
    have hS_hbR8 : (fun (w' : World) => w'.cell? ⟨w.heap.size, 0, none⟩ = some (.int .i64 7) ∧ w'.cell? ⟨w.heap.size, 1, none⟩ = some (.string ex) ∧ w'.cell? ⟨w.heap.size, 2, none⟩ = some (.slice epa epn epc) ∧ w'.cell? ⟨w.heap.size, 3, none⟩ = some (.slice eka ekn ekc)) w8 := ⟨hbR8.cell 0 _ rfl, hbR8.cell 1 _ rfl, hbR8.cell 2 _ rfl, hbR8.cell 3 _ rfl⟩
    refine hK _ _ (fun _ => hS_hbR8) ?_
    clear hK K
    simp only [El.val]
    (try simp only [Act.put, List.setIfInBounds_toArray, List.set_cons_zero, List.set_cons_succ])
    (apply ord_held rfl rfl (by assumption) rfl; (focus ((intro w' hS'); go_simp; (try with_reducible rfl))); (try simp only [Act.put, List.setIfInBounds_toArray, List.set_cons_zero, List.set_cons_succ]))
    (apply ord_loud rfl rfl rfl; intro K hK; go_simp)
    have x10 : Ext w8 (w8.alloc (.cells #[.string s_path, .int .i64 gt.k, .string gt.x, .float .f64 gt.d, .bool gt.y, .slice gt.ka gt.n gt.kc, .slice gt.ca gt.m gt.cc, .string s_query, .int .i64 gk.k, .string gk.x, .float .f64 gk.d, .bool gk.y, .slice gk.ka gk.n gk.kc, .slice gk.ca gk.m gk.cc] 72)) := ext_alloc (ext_refl _) _
    have hbp : Box (w8.alloc (.cells #[.string s_path, .int .i64 gt.k, .string gt.x, .float .f64 gt.d, .bool gt.y, .slice gt.ka gt.n gt.kc, .slice gt.ca gt.m gt.cc, .string s_query, .int .i64 gk.k, .string gk.x, .float .f64 gk.d, .bool gk.y, .slice gk.ka gk.n gk.kc, .slice gk.ca gk.m gk.cc] 72)) w8.heap.size #[.string s_path, .int .i64 gt.k, .string gt.x, .float .f64 gt.d, .bool gt.y, .slice gt.ka gt.n gt.kc, .slice gt.ca gt.m gt.cc, .string s_query, .int .i64 gk.k, .string gk.x, .float .f64 gk.d, .bool gk.y, .slice gk.ka gk.n gk.kc, .slice gk.ca gk.m gk.cc] 72 := Box.at rfl _ _
    have hbR10 := hbR8.ext x10
    have hb10 := hb8.ext x10
    have hS_hbR10 : (fun (w' : World) => w'.cell? ⟨w.heap.size, 0, none⟩ = some (.int .i64 7) ∧ w'.cell? ⟨w.heap.size, 1, none⟩ = some (.string ex) ∧ w'.cell? ⟨w.heap.size, 2, none⟩ = some (.slice epa epn epc) ∧ w'.cell? ⟨w.heap.size, 3, none⟩ = some (.slice eka ekn ekc)) (w8.alloc (.cells #[.string s_path, .int .i64 gt.k, .string gt.x, .float .f64 gt.d, .bool gt.y, .slice gt.ka gt.n gt.kc, .slice gt.ca gt.m gt.cc, .string s_query, .int .i64 gk.k, .string gk.x, .float .f64 gk.d, .bool gk.y, .slice gk.ka gk.n gk.kc, .slice gk.ca gk.m gk.cc] 72)) := ⟨hbR10.cell 0 _ rfl, hbR10.cell 1 _ rfl, hbR10.cell 2 _ rfl, hbR10.cell 3 _ rfl⟩
    refine hK _ _ (fun _ => hS_hbR10) ?_
    clear hK K
    (try simp only [Act.put, List.setIfInBounds_toArray, List.set_cons_zero, List.set_cons_succ])
    have hB := beside_any (S := (fun b => w.heap.size + 1 + 1 ≤ b)) s_nested _ 2 2 _ _ (pairs_box (es := [(s_path, gt), (s_query, gk)]) hbp (by omega) (by simp [maxLen]) (Pk.append (Pk.one (k := s_path) (TreeAt.ext x10 (TreeAt.ext hx8 (hgt _)))) (Pk.one (k := s_query) (TreeAt.ext x10 (hgk.to fun b hb _ => by have hb : w7.heap.size ≤ b := hb; omega))))) (by decide)
    have hsz10 := x10.sz
    (apply ord_loud rfl rfl rfl; intro K hK; go_simp)
    refine hB.mono ?_
    rintro r w9 ⟨g2, rfl, hT9, hx9⟩
    have hb9 := hb10.ext hx9
    have hbR9 := hbR10.ext hx9
    have hS_9 : (fun (w' : World) => w'.cell? ⟨w.heap.size, 0, none⟩ = some (.int .i64 7) ∧ w'.cell? ⟨w.heap.size, 1, none⟩ = some (.string ex) ∧ w'.cell? ⟨w.heap.size, 2, none⟩ = some (.slice epa epn epc) ∧ w'.cell? ⟨w.heap.size, 3, none⟩ = some (.slice eka ekn ekc)) w9 := ⟨hbR9.cell 0 _ rfl, hbR9.cell 1 _ rfl, hbR9.cell 2 _ rfl, hbR9.cell 3 _ rfl⟩
    refine hK _ _ (fun _ => hS_9) ?_
    clear hK K
    try simp only [El.val]
    (try simp only [Act.put, List.setIfInBounds_toArray, List.set_cons_zero, List.set_cons_succ])
    obtain ⟨o0, o1, o2, o3, o4, o5⟩ := hb9.six
    have f0 := hb9.free 0
    have f1 := hb9.free 1
    have f2 := hb9.free 2
    have f3 := hb9.free 3
    have f4 := hb9.free 4
    have f5 := hb9.free 5
    have hbRs := hbR9.sto6' (show w.heap.size ≠ w.heap.size + 1 by omega) (.int .i64 g2.k) (.string g2.x) (.float .f64 g2.d) (.bool g2.y) (.slice g2.ka g2.n g2.kc) (.slice g2.ca g2.m g2.cc)
    have hS_s : (fun (w' : World) => w'.cell? ⟨w.heap.size, 0, none⟩ = some (.int .i64 7) ∧ w'.cell? ⟨w.heap.size, 1, none⟩ = some (.string ex) ∧ w'.cell? ⟨w.heap.size, 2, none⟩ = some (.slice epa epn epc) ∧ w'.cell? ⟨w.heap.size, 3, none⟩ = some (.slice eka ekn ekc)) (sto w9 (w.heap.size + 1) g2) := ⟨hbRs.cell 0 _ rfl, hbRs.cell 1 _ rfl, hbRs.cell 2 _ rfl, hbRs.cell 3 _ rfl⟩
    (apply ord_loud rfl rfl rfl; intro K hK; go_simp)
    refine hK _ _ (fun _ => hS_s) ?_
    clear hK K
    (try simp only [Act.put, List.setIfInBounds_toArray, List.set_cons_zero, List.set_cons_succ])
    refine ord_end ?_
    have hx9w : Ext w w9 := ext_trans (ext_trans (ext_trans (ext_trans hx x7) hx8) x10) hx9
    go_wp2_with fail
    refine post_tree rfl rfl (hb9.sto g2) rfl ⟨g2, rfl, ?_, ext_sto6 hx9w (by omega) _ _ _ _ _ _⟩
    refine TreeAt.keep (S := (fun b => w.heap.size + 1 + 1 ≤ b)) (fun b hb _ => by omega) (keeps_sto w9 (by omega) g2) _ (hT9.to fun q hq _ => ?_)
    rcases hq with hq | hq
    · exact hq.1
    · omega
set_option maxRecDepth 20000 in
set_option maxHeartbeats 16000000 in
theorem whole_boosting {S : Nat → Prop} (ex : ByteArray) (epa : Option Addr) (epn epc : Nat) (eka : Option Addr) (ekn ekc : Nat) (_ps : List Int) (ks : List Nd) (w : World) (hK : NodesAt S w eka ekn ekc ks) (hk : ∀ r ∈ ks, Told3 r) (hkn : ekn ≤ 1048576) :
    Calls Tryz.prog 21 #[(⟨6, ex, epa, epn, epc, eka, ekn, ekc⟩ : Nv).val] w fun rr w' => ∃ g : El, rr = .returned g.val ∧ TreeAt (fun b => w.heap.size ≤ b) w' g (mapT [(s_boosting, mapT [(s_positive, kidT (nodesT ks) 0), (s_negative, kidT (nodesT ks) 1), (s_negative_boost, numT halfB)])]) ∧ Ext w w' := by
  have HKS := Lib.hid hK
  have HRK := Lib.hid hk
  have HKD := Lib.hid fun (w1 : World) (x : Ext w w1) (i : Nat) (hi : i ≤ 2147483647) => kidS_any (⟨6, ex, epa, epn, epc, eka, ekn, ekc⟩ : Nv) ks i w1 (hK.ext x) hk hi (show ekn ≤ 2147483647 by omega)
  clear hK hk
  simp only [Nv.val]
  simp only [Nv.val] at HKD
  go_enter Tryz.func21, Tryz.ntmps21
  have hbR : Box ((w.alloc (.cells #[.int .i64 6, .string ex, .slice epa epn epc, .slice eka ekn ekc] 41)).alloc (.cells (El.arr El0) 26)) w.heap.size #[.int .i64 6, .string ex, .slice epa epn epc, .slice eka ekn ekc] 41 := (Box.at rfl _ _).alloc _
  have hb0 : Box ((w.alloc (.cells #[.int .i64 6, .string ex, .slice epa epn epc, .slice eka ekn ekc] 41)).alloc (.cells (El.arr El0) 26)) (w.heap.size + 1) (El.arr El0) 26 := Box.at (by simp) _ _
  have hx0 : Ext w ((w.alloc (.cells #[.int .i64 6, .string ex, .slice epa epn epc, .slice eka ekn ekc] 41)).alloc (.cells (El.arr El0) 26)) := ext_alloc (ext_alloc (ext_refl _) _) _
  have hs0 : ((w.alloc (.cells #[.int .i64 6, .string ex, .slice epa epn epc, .slice eka ekn ekc] 41)).alloc (.cells (El.arr El0) 26)).heap.size = w.heap.size + 1 + 1 := by simp
  go_wp2_with (first
    | (go_at_call 66; refine (list_exact none 0 0 _).mono ?_; rintro r w5 ⟨rfl, hx5⟩; simp only [El.val])
    | fail)
  have hs5 := hx5.sz
  rw [hs0] at hs5
  have hxw5 := ext_trans hx0 hx5
  have hbR5 := hbR.ext hx5
  have hb05 := hb0.ext hx5
  clear hbR hb0 hs0
  go_loopw [4] (fun i wr => Ext w wr ∧ w5.heap.size + 1 ≤ wr.heap.size ∧ Box wr w.heap.size #[.int .i64 6, .string ex, .slice epa epn epc, .slice eka ekn ekc] 41 ∧ Box wr (w.heap.size + 1) (El.arr El0) 26 ∧
    ∃ (j : Nat) (kes : List El) (ca : Option Addr) (cn cc : Nat), j ≤ ekn ∧ i = .int .i64 j ∧ kes.length = j ∧ Making wr (w5.heap.size + 1) w5.heap.size 4 [] kes none 0 0 ca cn cc ∧ Kin wr (w5.heap.size + 1) (.slice ca cn cc) kes ((nodesT ks).take j)) (fun i _ => ekn - (intOf i).toNat)
  case atStart => exact ⟨ext_alloc hxw5 _, by simp, hbR5.alloc _, hb05.alloc _, 0, [], none, 0, 0, Nat.zero_le _, rfl, rfl, ⟨Box.at rfl _ _, World.ownsRow_nil _ _ _ _, World.ownsRow_nil _ _ _ _, by omega, fun _ h => by cases h⟩, Kin.nil _ _ _⟩
  case round =>
    obtain ⟨hx, hsz, hbRr, hb0r, j, kes, ca, cn, cc, hj, rfl, hes, M, HK⟩ := hrel
    have HES := Lib.hid hes
    have HK := Lib.hid HK
    clear hes
    have k3 := hbRr.cell 3 _ rfl
    by_cases hlt : j < ekn
    case pos =>
      obtain ⟨hl, -, -, -⟩ := HKS.out
      obtain ⟨r0, hr0⟩ := some_of_lt hl hlt
      obtain ⟨b, off, e, rfl, -, hrc, hra⟩ := HKS.out.get hr0
      have hbw0 : b < w.heap.size := lt_of_cell hrc.1
      have hrc := NCells.ext hx hrc
      have hRu := Lib.hid (fun (w1 : World) (x : Ext w w1) => HRK.out r0 (List.mem_of_getElem? hr0) S _ w1 (NodeAt.ext x hra))
      have HZ := Lib.hid (show (nodesT ks)[j]? = some (nodeT r0) by rw [nodesT_eq, List.getElem?_map, hr0]; rfl)
      clear hra hr0 hl
      obtain ⟨rk, rx, rpa, rpn, rpc, rka, rkn, rkc⟩ := e
      obtain ⟨o0, o1, o2, o3, o4, o5⟩ := M.box.six
      go_upto_region 5 with fail
      refine wp_region_order (fun (w' : World) => w'.cell? ⟨w5.heap.size, 5, none⟩ = some (.slice ca cn cc) ∧ w'.cell? ⟨w.heap.size, 3, none⟩ = some (.slice (some ⟨b, off, none⟩) ekn ekc) ∧ NCells w' b (off + j * 4) (⟨rk, rx, rpa, rpn, rpc, rka, rkn, rkc⟩ : Nv)) [0, 1, 2, 3, 4, 5, 6, 10] [0, 1, 2, 3, 4, 5, 6, 7, 8, 9, 10, 11] (by kernel_rfl) (by kernel_rfl) (fun d _ _ _ _ h => by cases d <;> exact h) (by kernel_rfl) ?_
      have hS : (fun (w' : World) => w'.cell? ⟨w5.heap.size, 5, none⟩ = some (.slice ca cn cc) ∧ w'.cell? ⟨w.heap.size, 3, none⟩ = some (.slice (some ⟨b, off, none⟩) ekn ekc) ∧ NCells w' b (off + j * 4) (⟨rk, rx, rpa, rpn, rpc, rka, rkn, rkc⟩ : Nv)) _ := ⟨o5, k3, hrc⟩
      (apply ord_held rfl rfl (by assumption) rfl; (focus ((intro w' hS'); go_simp; (try with_reducible rfl))); (try simp only [Act.put, List.setIfInBounds_toArray, List.set_cons_zero, List.set_cons_succ]))
      (apply ord_held rfl rfl (by assumption) rfl; (focus ((intro w' hS'); go_simp; (try with_reducible rfl))); (try simp only [Act.put, List.setIfInBounds_toArray, List.set_cons_zero, List.set_cons_succ]))
      (apply ord_held rfl rfl (by assumption) rfl; (focus ((intro w' hS'); go_simp; (try with_reducible rfl))); (try simp only [Act.put, List.setIfInBounds_toArray, List.set_cons_zero, List.set_cons_succ]))
      (apply ord_held rfl rfl (by assumption) rfl; (focus ((intro w' hS'); go_simp; (try with_reducible rfl))); (try simp only [Act.put, List.setIfInBounds_toArray, List.set_cons_zero, List.set_cons_succ]))
      (apply ord_held rfl rfl (by assumption) rfl; (focus ((intro w' hS'); go_simp; (try with_reducible rfl))); (try simp only [Act.put, List.setIfInBounds_toArray, List.set_cons_zero, List.set_cons_succ]))
      (apply ord_held rfl rfl (by assumption) rfl; (focus ((intro w' hS'); go_simp; (try with_reducible rfl))); (try simp only [Act.put, List.setIfInBounds_toArray, List.set_cons_zero, List.set_cons_succ]))
      (apply ord_held rfl rfl (by assumption) rfl; (focus ((intro w' hS'); go_simp; (try with_reducible rfl))); (try simp only [Act.put, List.setIfInBounds_toArray, List.set_cons_zero, List.set_cons_succ]))
      (apply ord_loud rfl rfl rfl; intro K hK; go_simp)
      refine (hRu.out _ (ext_drew hx)).mono ?_
      rintro r w2 ⟨e2, rfl, hT2, hx2⟩
      have x2 : Ext wr w2 := ext_trans (ext_drew (ext_refl _)) hx2
      have hS2 : (fun (w' : World) => w'.cell? ⟨w5.heap.size, 5, none⟩ = some (.slice ca cn cc) ∧ w'.cell? ⟨w.heap.size, 3, none⟩ = some (.slice (some ⟨b, off, none⟩) ekn ekc) ∧ NCells w' b (off + j * 4) (⟨rk, rx, rpa, rpn, rpc, rka, rkn, rkc⟩ : Nv)) w2 := ⟨x2.cell o5, x2.cell k3, NCells.ext x2 hrc⟩
      refine hK _ _ (fun _ => hS2) ?_
      clear hK K
      simp only [El.val]
      (try simp only [Act.put, List.setIfInBounds_toArray, List.set_cons_zero, List.set_cons_succ])
      (apply ord_loud rfl rfl rfl; intro K hK; go_simp)
      have x3 : Ext wr (w2.alloc (.cells #[.int .i64 e2.k, .string e2.x, .float .f64 e2.d, .bool e2.y, .slice e2.ka e2.n e2.kc, .slice e2.ca e2.m e2.cc] 26)) := ext_alloc x2 _
      have hbz : Box (w2.alloc (.cells #[.int .i64 e2.k, .string e2.x, .float .f64 e2.d, .bool e2.y, .slice e2.ka e2.n e2.kc, .slice e2.ca e2.m e2.cc] 26)) w2.heap.size e2.arr 26 := Box.new _ _ _
      have hT3 := hT2.ext (ext_alloc (ext_refl w2) (.cells #[.int .i64 e2.k, .string e2.x, .float .f64 e2.d, .bool e2.y, .slice e2.ka e2.n e2.kc, .slice e2.ca e2.m e2.cc] 26))
      have hS3 : (fun (w' : World) => w'.cell? ⟨w5.heap.size, 5, none⟩ = some (.slice ca cn cc) ∧ w'.cell? ⟨w.heap.size, 3, none⟩ = some (.slice (some ⟨b, off, none⟩) ekn ekc) ∧ NCells w' b (off + j * 4) (⟨rk, rx, rpa, rpn, rpc, rka, rkn, rkc⟩ : Nv)) (w2.alloc (.cells #[.int .i64 e2.k, .string e2.x, .float .f64 e2.d, .bool e2.y, .slice e2.ka e2.n e2.kc, .slice e2.ca e2.m e2.cc] 26)) := ⟨x3.cell o5, x3.cell k3, NCells.ext x3 hrc⟩
      refine hK _ _ (fun _ => hS3) ?_
      clear hK K
      have M1 := M.ext x3
      have hs2 := x2.sz
      have hbd : ∀ q, (Value.slice ca cn cc).ownBlock = some q → w5.heap.size + 1 ≤ q ∧ q < wr.heap.size := fun q h => M.kids.block h
      (try simp only [Act.put, List.setIfInBounds_toArray, List.set_cons_zero, List.set_cons_succ])
      apply ord_loud rfl rfl rfl
      intro K hK
      refine wp_append_tree _ _ _ rfl (w5.heap.size + 1) _ kes rfl M1.kids w2.heap.size e2 rfl (boxCells hbz) (by have := HES.out; omega) (by simp; omega) ?_
      intro g1 cap1 w4 hown hgrow hlies hglt
      have hS4 : (fun (w' : World) => w'.cell? ⟨w5.heap.size, 5, none⟩ = some (.slice ca cn cc) ∧ w'.cell? ⟨w.heap.size, 3, none⟩ = some (.slice (some ⟨b, off, none⟩) ekn ekc) ∧ NCells w' b (off + j * 4) (⟨rk, rx, rpa, rpn, rpc, rka, rkn, rkc⟩ : Nv)) w4 := ⟨hgrow.cell (x3.cell o5) (fun e => by have := hbd _ e.symm; simp at this; omega), hgrow.cell (x3.cell k3) (fun e => by have := hbd _ e.symm; simp at this; omega), ?_⟩
      rotate_left
      · obtain ⟨c0, c1, c2, c3⟩ := hrc
        have hq : ∀ (p : Addr) (u : Value), p.block = b → wr.cell? p = some u → w4.cell? p = some u := fun p u hp hc => hgrow.cell (x3.cell hc) (fun e => by have := hbd _ e.symm; omega)
        exact ⟨hq _ _ rfl c0, hq _ _ rfl c1, hq _ _ rfl c2, hq _ _ rfl c3⟩
      have q5 := (M1.boxMid' hgrow).free 5
      refine hK _ _ (fun _ => hS4) ?_
      clear hK K
      (try simp only [Act.put, List.setIfInBounds_toArray, List.set_cons_zero, List.set_cons_succ])
      have o5 := hS4.1
      (apply ord_held rfl rfl (by assumption) rfl; (focus ((intro w' hS'); go_simp; (try with_reducible rfl))); (try simp only [Act.put, List.setIfInBounds_toArray, List.set_cons_zero, List.set_cons_succ]))
      (apply ord_last rfl rfl rfl (by kernel_rfl); intro K hK; go_simp; refine hK _ _ ?_; clear hK K; (try simp only [Act.put, List.setIfInBounds_toArray, List.set_cons_zero, List.set_cons_succ]))
      refine ord_end ?_
      have M2 := M1.kid hown hgrow hlies
      have hMw := hxw5.sz
      have hb2 := M1.boxKid (hb0r.ext x3) (by omega) (by omega) hgrow 5 (.slice (some ⟨g1, 0, none⟩) (kes.length + 1) cap1)
      have hbR2 := M1.boxKid (hbRr.ext x3) (by omega) (by omega) hgrow 5 (.slice (some ⟨g1, 0, none⟩) (kes.length + 1) cap1)
      have x4 := M1.extKid (ext_trans hx x3) (by omega) hgrow 5 (.slice (some ⟨g1, 0, none⟩) (kes.length + 1) cap1)
      have HK2 := Lib.hid ((HK.out.ext x3).step (hT3.to fun q h1 h2 => ⟨by have h3 : wr.heap.size ≤ q := h1; omega, fun e => by have h3 : wr.heap.size ≤ q := h1; have := (hbd q e).2; omega⟩) hgrow hlies (by omega : w5.heap.size < w5.heap.size + 1) 5 (.slice (some ⟨g1, 0, none⟩) (kes.length + 1) cap1) (kes.length + 1) cap1)
      have hszz : w5.heap.size + 1 ≤ (w4.setCell ⟨w5.heap.size, 5, none⟩ (.slice (some ⟨g1, 0, none⟩) (kes.length + 1) cap1)).heap.size := by have h1 := hgrow.size; have h2 := x3.sz; simp; omega
      clear hown hgrow hlies hglt hS q5 M1 M o0 o1 o2 o3 o4 o5 hT2 hT3 hbz HK hS4 hS3 hS2 hbd
      generalize w4.setCell ⟨w5.heap.size, 5, none⟩ (.slice (some ⟨g1, 0, none⟩) (kes.length + 1) cap1) = w6 at M2 hb2 hbR2 x4 HK2 hszz ⊢
      go_wp2_with fail
      go_roundw
      case rel =>
        first
          | exact ⟨x4, hszz, hbR2, hb2, j + 1, kes ++ [e2], _, _, _, by omega, by go_num, by simp [HES.out], M2, by rw [take_snoc HZ.out]; exact HK2.out⟩
          | (repeat apply Exists.intro
             refine And.intro ?_ rfl
             exact ⟨x4, hszz, hbR2, hb2, j + 1, kes ++ [e2], _, _, _, by omega, by go_num, by simp [HES.out], M2, by rw [take_snoc HZ.out]; exact HK2.out⟩)
      case measure => simp [intOf]; omega
    have hjn : j = ekn := by omega
    have hfull : (nodesT ks).take j = nodesT ks := List.take_of_length_le (by
      rw [nodesT_eq, List.length_map]
      have h1 := HKS.out.1
      omega)
    have hK := HK.out
    rw [hfull] at hK
    have hTK : TreeAt (fun b => w5.heap.size + 1 ≤ b) wr ⟨4, ⟨#[]⟩, 0, false, none, 0, 0, ca, cn, cc⟩ (listT (nodesT ks)) := M.tree (ss := []) hK.1 (fun b hb => by cases hb) (fun b hb => (M.kids.block hb).1) fun i e t h1 h2 => TreeAt.to (hK.2 i e t h1 h2) (fun b hb _ => hb.1)
    have HCN := Lib.hid (show cn = ekn by have h1 := M.klen; have h2 := HES.out; omega)
    have hbk := M.box
    obtain ⟨y0, y1, y2, y3, y4, y5⟩ := hbk.six
    have k0 := hbRr.cell 0 _ rfl
    have k1 := hbRr.cell 1 _ rfl
    have k2 := hbRr.cell 2 _ rfl
    have hlb := hbk.lt
    have HTK := Lib.hid hTK
    clear hTK hK HK M hfull hjn hxw5 hbR5 hb05 hx5 hx0
    go_upto_region 30 with fail
    refine wp_region_order (fun (w' : World) => w'.cell? ⟨w.heap.size, 0, none⟩ = some (.int .i64 6) ∧ w'.cell? ⟨w.heap.size, 1, none⟩ = some (.string ex) ∧ w'.cell? ⟨w.heap.size, 2, none⟩ = some (.slice epa epn epc) ∧ w'.cell? ⟨w.heap.size, 3, none⟩ = some (.slice eka ekn ekc)) [0, 2, 3, 5, 7] [0, 3, 1, 2, 4, 5, 6, 7, 8, 9, 10] (by kernel_rfl) (by kernel_rfl) (fun d _ _ _ _ h => by cases d <;> exact h) (by kernel_rfl) ?_
    have hS : (fun (w' : World) => w'.cell? ⟨w.heap.size, 0, none⟩ = some (.int .i64 6) ∧ w'.cell? ⟨w.heap.size, 1, none⟩ = some (.string ex) ∧ w'.cell? ⟨w.heap.size, 2, none⟩ = some (.slice epa epn epc) ∧ w'.cell? ⟨w.heap.size, 3, none⟩ = some (.slice eka ekn ekc)) wr.drew := ⟨hbRr.drew.cell 0 _ rfl, hbRr.drew.cell 1 _ rfl, hbRr.drew.cell 2 _ rfl, hbRr.drew.cell 3 _ rfl⟩
    (apply ord_held rfl rfl (by assumption) rfl; (focus ((intro w' hS'); go_simp; (try with_reducible rfl))); (try simp only [Act.put, List.setIfInBounds_toArray, List.set_cons_zero, List.set_cons_succ]))
    (apply ord_held rfl rfl (by assumption) rfl; (focus ((intro w' hS'); go_simp; (try with_reducible rfl))); (try simp only [Act.put, List.setIfInBounds_toArray, List.set_cons_zero, List.set_cons_succ]))
    (apply ord_loud rfl rfl rfl; intro K hK; go_simp)
    refine (HKD.out _ (ext_drew hx) 0 (by omega)).mono ?_
    rintro r w7 ⟨gp, rfl, hgp, hx7⟩
    have x7 : Ext wr w7 := ext_trans (ext_drew (ext_refl _)) hx7
    have hbR7 := hbRr.ext x7
    have hb7 := hb0r.ext x7
    have hsz7 := x7.sz
    have hS_hbR7 : (fun (w' : World) => w'.cell? ⟨w.heap.size, 0, none⟩ = some (.int .i64 6) ∧ w'.cell? ⟨w.heap.size, 1, none⟩ = some (.string ex) ∧ w'.cell? ⟨w.heap.size, 2, none⟩ = some (.slice epa epn epc) ∧ w'.cell? ⟨w.heap.size, 3, none⟩ = some (.slice eka ekn ekc)) w7 := ⟨hbR7.cell 0 _ rfl, hbR7.cell 1 _ rfl, hbR7.cell 2 _ rfl, hbR7.cell 3 _ rfl⟩
    refine hK _ _ (fun _ => hS_hbR7) ?_
    clear hK K
    simp only [El.val]
    (try simp only [Act.put, List.setIfInBounds_toArray, List.set_cons_zero, List.set_cons_succ])
    (apply ord_held rfl rfl (by assumption) rfl; (focus ((intro w' hS'); go_simp; (try with_reducible rfl))); (try simp only [Act.put, List.setIfInBounds_toArray, List.set_cons_zero, List.set_cons_succ]))
    (apply ord_loud rfl rfl rfl; intro K hK; go_simp)
    refine (HKD.out _ (ext_trans hx x7) 1 (by omega)).mono ?_
    rintro r w8 ⟨gk, rfl, hgk, hx8⟩
    have hbR8 := hbR7.ext hx8
    have hb8 := hb7.ext hx8
    have hsz8 := hx8.sz
    have hS_hbR8 : (fun (w' : World) => w'.cell? ⟨w.heap.size, 0, none⟩ = some (.int .i64 6) ∧ w'.cell? ⟨w.heap.size, 1, none⟩ = some (.string ex) ∧ w'.cell? ⟨w.heap.size, 2, none⟩ = some (.slice epa epn epc) ∧ w'.cell? ⟨w.heap.size, 3, none⟩ = some (.slice eka ekn ekc)) w8 := ⟨hbR8.cell 0 _ rfl, hbR8.cell 1 _ rfl, hbR8.cell 2 _ rfl, hbR8.cell 3 _ rfl⟩
    refine hK _ _ (fun _ => hS_hbR8) ?_
    clear hK K
    simp only [El.val]
    (try simp only [Act.put, List.setIfInBounds_toArray, List.set_cons_zero, List.set_cons_succ])
    (apply ord_held rfl rfl (by assumption) rfl; (focus ((intro w' hS'); go_simp; (try with_reducible rfl))); (try simp only [Act.put, List.setIfInBounds_toArray, List.set_cons_zero, List.set_cons_succ]))
    (apply ord_loud rfl rfl rfl; intro K hK; go_simp)
    refine (number_any halfB _).mono ?_
    rintro r wn ⟨gn, rfl, hgn, hxn⟩
    have hbRn := hbR8.ext hxn
    have hbn := hb8.ext hxn
    have hszn := hxn.sz
    have hS_hbRn : (fun (w' : World) => w'.cell? ⟨w.heap.size, 0, none⟩ = some (.int .i64 6) ∧ w'.cell? ⟨w.heap.size, 1, none⟩ = some (.string ex) ∧ w'.cell? ⟨w.heap.size, 2, none⟩ = some (.slice epa epn epc) ∧ w'.cell? ⟨w.heap.size, 3, none⟩ = some (.slice eka ekn ekc)) wn := ⟨hbRn.cell 0 _ rfl, hbRn.cell 1 _ rfl, hbRn.cell 2 _ rfl, hbRn.cell 3 _ rfl⟩
    refine hK _ _ (fun _ => hS_hbRn) ?_
    clear hK K
    simp only [El.val]
    (try simp only [Act.put, List.setIfInBounds_toArray, List.set_cons_zero, List.set_cons_succ])
    (apply ord_held rfl rfl (by assumption) rfl; (focus ((intro w' hS'); go_simp; (try with_reducible rfl))); (try simp only [Act.put, List.setIfInBounds_toArray, List.set_cons_zero, List.set_cons_succ]))
    (apply ord_loud rfl rfl rfl; intro K hK; go_simp)
    have x10 : Ext wn (wn.alloc (.cells #[.string s_positive, .int .i64 gp.k, .string gp.x, .float .f64 gp.d, .bool gp.y, .slice gp.ka gp.n gp.kc, .slice gp.ca gp.m gp.cc, .string s_negative, .int .i64 gk.k, .string gk.x, .float .f64 gk.d, .bool gk.y, .slice gk.ka gk.n gk.kc, .slice gk.ca gk.m gk.cc, .string s_negative_boost, .int .i64 gn.k, .string gn.x, .float .f64 gn.d, .bool gn.y, .slice gn.ka gn.n gn.kc, .slice gn.ca gn.m gn.cc] 72)) := ext_alloc (ext_refl _) _
    have hbp : Box (wn.alloc (.cells #[.string s_positive, .int .i64 gp.k, .string gp.x, .float .f64 gp.d, .bool gp.y, .slice gp.ka gp.n gp.kc, .slice gp.ca gp.m gp.cc, .string s_negative, .int .i64 gk.k, .string gk.x, .float .f64 gk.d, .bool gk.y, .slice gk.ka gk.n gk.kc, .slice gk.ca gk.m gk.cc, .string s_negative_boost, .int .i64 gn.k, .string gn.x, .float .f64 gn.d, .bool gn.y, .slice gn.ka gn.n gn.kc, .slice gn.ca gn.m gn.cc] 72)) wn.heap.size #[.string s_positive, .int .i64 gp.k, .string gp.x, .float .f64 gp.d, .bool gp.y, .slice gp.ka gp.n gp.kc, .slice gp.ca gp.m gp.cc, .string s_negative, .int .i64 gk.k, .string gk.x, .float .f64 gk.d, .bool gk.y, .slice gk.ka gk.n gk.kc, .slice gk.ca gk.m gk.cc, .string s_negative_boost, .int .i64 gn.k, .string gn.x, .float .f64 gn.d, .bool gn.y, .slice gn.ka gn.n gn.kc, .slice gn.ca gn.m gn.cc] 72 := Box.at rfl _ _
    have hbR10 := hbRn.ext x10
    have hb10 := hbn.ext x10
    have hS_hbR10 : (fun (w' : World) => w'.cell? ⟨w.heap.size, 0, none⟩ = some (.int .i64 6) ∧ w'.cell? ⟨w.heap.size, 1, none⟩ = some (.string ex) ∧ w'.cell? ⟨w.heap.size, 2, none⟩ = some (.slice epa epn epc) ∧ w'.cell? ⟨w.heap.size, 3, none⟩ = some (.slice eka ekn ekc)) (wn.alloc (.cells #[.string s_positive, .int .i64 gp.k, .string gp.x, .float .f64 gp.d, .bool gp.y, .slice gp.ka gp.n gp.kc, .slice gp.ca gp.m gp.cc, .string s_negative, .int .i64 gk.k, .string gk.x, .float .f64 gk.d, .bool gk.y, .slice gk.ka gk.n gk.kc, .slice gk.ca gk.m gk.cc, .string s_negative_boost, .int .i64 gn.k, .string gn.x, .float .f64 gn.d, .bool gn.y, .slice gn.ka gn.n gn.kc, .slice gn.ca gn.m gn.cc] 72)) := ⟨hbR10.cell 0 _ rfl, hbR10.cell 1 _ rfl, hbR10.cell 2 _ rfl, hbR10.cell 3 _ rfl⟩
    refine hK _ _ (fun _ => hS_hbR10) ?_
    clear hK K
    (try simp only [Act.put, List.setIfInBounds_toArray, List.set_cons_zero, List.set_cons_succ])
    have hB := beside_any (S := (fun b => w.heap.size + 1 + 1 ≤ b)) s_boosting _ 3 3 _ _ (pairs_box (es := [(s_positive, gp), (s_negative, gk), (s_negative_boost, gn)]) hbp (by omega) (by simp [maxLen]) (Pk.append (Pk.append (Pk.one (k := s_positive) (TreeAt.ext x10 (TreeAt.ext hxn (TreeAt.ext hx8 (hgp.to fun b hb _ => by have hb : wr.heap.size ≤ b := hb; omega))))) (Pk.one (k := s_negative) (TreeAt.ext x10 (TreeAt.ext hxn (hgk.to fun b hb _ => by have hb : w7.heap.size ≤ b := hb; omega))))) (Pk.one (k := s_negative_boost) (TreeAt.ext x10 (hgn _))))) (by decide)
    have hsz10 := x10.sz
    (apply ord_loud rfl rfl rfl; intro K hK; go_simp)
    refine hB.mono ?_
    rintro r w9 ⟨g2, rfl, hT9, hx9⟩
    have hb9 := hb10.ext hx9
    have hbR9 := hbR10.ext hx9
    have hS_9 : (fun (w' : World) => w'.cell? ⟨w.heap.size, 0, none⟩ = some (.int .i64 6) ∧ w'.cell? ⟨w.heap.size, 1, none⟩ = some (.string ex) ∧ w'.cell? ⟨w.heap.size, 2, none⟩ = some (.slice epa epn epc) ∧ w'.cell? ⟨w.heap.size, 3, none⟩ = some (.slice eka ekn ekc)) w9 := ⟨hbR9.cell 0 _ rfl, hbR9.cell 1 _ rfl, hbR9.cell 2 _ rfl, hbR9.cell 3 _ rfl⟩
    refine hK _ _ (fun _ => hS_9) ?_
    clear hK K
    try simp only [El.val]
    (try simp only [Act.put, List.setIfInBounds_toArray, List.set_cons_zero, List.set_cons_succ])
    obtain ⟨o0, o1, o2, o3, o4, o5⟩ := hb9.six
    have f0 := hb9.free 0
    have f1 := hb9.free 1
    have f2 := hb9.free 2
    have f3 := hb9.free 3
    have f4 := hb9.free 4
    have f5 := hb9.free 5
    have hbRs := hbR9.sto6' (show w.heap.size ≠ w.heap.size + 1 by omega) (.int .i64 g2.k) (.string g2.x) (.float .f64 g2.d) (.bool g2.y) (.slice g2.ka g2.n g2.kc) (.slice g2.ca g2.m g2.cc)
    have hS_s : (fun (w' : World) => w'.cell? ⟨w.heap.size, 0, none⟩ = some (.int .i64 6) ∧ w'.cell? ⟨w.heap.size, 1, none⟩ = some (.string ex) ∧ w'.cell? ⟨w.heap.size, 2, none⟩ = some (.slice epa epn epc) ∧ w'.cell? ⟨w.heap.size, 3, none⟩ = some (.slice eka ekn ekc)) (sto w9 (w.heap.size + 1) g2) := ⟨hbRs.cell 0 _ rfl, hbRs.cell 1 _ rfl, hbRs.cell 2 _ rfl, hbRs.cell 3 _ rfl⟩
    (apply ord_loud rfl rfl rfl; intro K hK; go_simp)
    refine hK _ _ (fun _ => hS_s) ?_
    clear hK K
    (try simp only [Act.put, List.setIfInBounds_toArray, List.set_cons_zero, List.set_cons_succ])
    refine ord_end ?_
    have hx9w : Ext w w9 := ext_trans (ext_trans (ext_trans (ext_trans (ext_trans hx x7) hx8) hxn) x10) hx9
    go_wp2_with fail
    refine post_tree rfl rfl (hb9.sto g2) rfl ⟨g2, rfl, ?_, ext_sto6 hx9w (by omega) _ _ _ _ _ _⟩
    refine TreeAt.keep (S := (fun b => w.heap.size + 1 + 1 ≤ b)) (fun b hb _ => by omega) (keeps_sto w9 (by omega) g2) _ (hT9.to fun q hq _ => ?_)
    rcases hq with hq | hq
    · exact hq.1
    · omega
/-- Trees that lie as they lay when the list was begun. -/
def KinW (S : Nat → Prop) (w : World) (es : List El) (ts : List T) : Prop := ts.length = es.length ∧ ∀ (i : Nat) (e : El) (t : T), es[i]? = some e → ts[i]? = some t → TreeAt S w e t
theorem KinW.snoc {S : Nat → Prop} {w : World} {es : List El} {ts : List T} {e : El} {t : T} (h : KinW S w es ts) (k : TreeAt S w e t) : KinW S w (es ++ [e]) (ts ++ [t]) := by
  refine ⟨by simp [h.1], fun i f u h1 h2 => ?_⟩
  by_cases hj : i < es.length
  · rw [List.getElem?_append_left hj] at h1
    rw [List.getElem?_append_left (by rw [h.1]; exact hj)] at h2
    exact h.2 i f u h1 h2
  · have hjl := (List.getElem?_eq_some_iff.1 h1).1
    simp only [List.length_append, List.length_cons, List.length_nil] at hjl
    obtain rfl : i = es.length := by omega
    rw [List.getElem?_append_right (Nat.le_refl _)] at h1
    rw [List.getElem?_append_right (by rw [h.1]; exact Nat.le_refl _), h.1] at h2
    simp at h1 h2
    subst h1 h2
    exact k
theorem tQ_some {k : ByteArray} {l : List T} (h : 0 < l.length) : tQ k l = [(k, listT l)] := by
  unfold tQ
  rw [if_neg]
  intro e
  rw [List.isEmpty_iff.1 e] at h
  simp at h
theorem tQ_none {k : ByteArray} {l : List T} (h : l.length = 0) : tQ k l = [] := by
  rw [List.length_eq_zero_iff.1 h]
  rfl
set_option maxRecDepth 20000 in
set_option maxHeartbeats 16000000 in
theorem whole_bool {S : Nat → Prop} (ex : ByteArray) (epa : Option Addr) (epn epc : Nat) (eka : Option Addr) (ekn ekc : Nat) (ps : List Int) (ks : List Nd) (w : World) (hK : NodesAt S w eka ekn ekc ks) (hk : ∀ r ∈ ks, Told3 r) (hkn : ekn ≤ 1048576) (hP : IntsAt S w epa epn epc ps) :
    Calls Tryz.prog 21 #[(⟨3, ex, epa, epn, epc, eka, ekn, ekc⟩ : Nv).val] w fun rr w' => ∃ g : El, rr = .returned g.val ∧ TreeAt (fun b => w.heap.size ≤ b) w' g (mapT [(s_bool, mapT (tQ s_must (inPlace ps 0 0 (nodesT ks)) ++ tQ s_must_not (inPlace ps 1 0 (nodesT ks)) ++ tQ s_should (inPlace ps 2 0 (nodesT ks)) ++ tQ s_filter (inPlace ps 3 0 (nodesT ks))))]) ∧ Ext w w' := by
  have HKS := Lib.hid hK
  have HRK := Lib.hid hk
  have HKD := Lib.hid fun (w1 : World) (x : Ext w w1) (i : Nat) (hi : i ≤ 2147483647) => kidS_any (⟨3, ex, epa, epn, epc, eka, ekn, ekc⟩ : Nv) ks i w1 (hK.ext x) hk hi (show ekn ≤ 2147483647 by omega)
  have HPS := Lib.hid hP
  clear hK hk hP
  simp only [Nv.val]
  simp only [Nv.val] at HKD
  go_enter Tryz.func21, Tryz.ntmps21
  have hbR : Box ((w.alloc (.cells #[.int .i64 3, .string ex, .slice epa epn epc, .slice eka ekn ekc] 41)).alloc (.cells (El.arr El0) 26)) w.heap.size #[.int .i64 3, .string ex, .slice epa epn epc, .slice eka ekn ekc] 41 := (Box.at rfl _ _).alloc _
  have hb0 : Box ((w.alloc (.cells #[.int .i64 3, .string ex, .slice epa epn epc, .slice eka ekn ekc] 41)).alloc (.cells (El.arr El0) 26)) (w.heap.size + 1) (El.arr El0) 26 := Box.at (by simp) _ _
  have hx0 : Ext w ((w.alloc (.cells #[.int .i64 3, .string ex, .slice epa epn epc, .slice eka ekn ekc] 41)).alloc (.cells (El.arr El0) 26)) := ext_alloc (ext_alloc (ext_refl _) _) _
  have hs0 : ((w.alloc (.cells #[.int .i64 3, .string ex, .slice epa epn epc, .slice eka ekn ekc] 41)).alloc (.cells (El.arr El0) 26)).heap.size = w.heap.size + 1 + 1 := by simp
  go_wp2_with (first
    | (go_at_call 66; refine (list_exact none 0 0 _).mono ?_; rintro r w5 ⟨rfl, hx5⟩; simp only [El.val])
    | fail)
  have hs5 := hx5.sz
  rw [hs0] at hs5
  have hxw5 := ext_trans hx0 hx5
  have hbR5 := hbR.ext hx5
  have hb05 := hb0.ext hx5
  clear hbR hb0 hs0
  go_loopw [4] (fun i wr => Ext w wr ∧ w5.heap.size + 1 ≤ wr.heap.size ∧ Box wr w.heap.size #[.int .i64 3, .string ex, .slice epa epn epc, .slice eka ekn ekc] 41 ∧ Box wr (w.heap.size + 1) (El.arr El0) 26 ∧
    ∃ (j : Nat) (kes : List El) (ca : Option Addr) (cn cc : Nat), j ≤ ekn ∧ i = .int .i64 j ∧ kes.length = j ∧ Making wr (w5.heap.size + 1) w5.heap.size 4 [] kes none 0 0 ca cn cc ∧ Kin wr (w5.heap.size + 1) (.slice ca cn cc) kes ((nodesT ks).take j)) (fun i _ => ekn - (intOf i).toNat)
  case atStart => exact ⟨ext_alloc hxw5 _, by simp, hbR5.alloc _, hb05.alloc _, 0, [], none, 0, 0, Nat.zero_le _, rfl, rfl, ⟨Box.at rfl _ _, World.ownsRow_nil _ _ _ _, World.ownsRow_nil _ _ _ _, by omega, fun _ h => by cases h⟩, Kin.nil _ _ _⟩
  case round =>
    obtain ⟨hx, hsz, hbRr, hb0r, j, kes, ca, cn, cc, hj, rfl, hes, M, HK⟩ := hrel
    have HES := Lib.hid hes
    have HK := Lib.hid HK
    clear hes
    have k3 := hbRr.cell 3 _ rfl
    by_cases hlt : j < ekn
    case pos =>
      obtain ⟨hl, -, -, -⟩ := HKS.out
      obtain ⟨r0, hr0⟩ := some_of_lt hl hlt
      obtain ⟨b, off, e, rfl, -, hrc, hra⟩ := HKS.out.get hr0
      have hbw0 : b < w.heap.size := lt_of_cell hrc.1
      have hrc := NCells.ext hx hrc
      have hRu := Lib.hid (fun (w1 : World) (x : Ext w w1) => HRK.out r0 (List.mem_of_getElem? hr0) S _ w1 (NodeAt.ext x hra))
      have HZ := Lib.hid (show (nodesT ks)[j]? = some (nodeT r0) by rw [nodesT_eq, List.getElem?_map, hr0]; rfl)
      clear hra hr0 hl
      obtain ⟨rk, rx, rpa, rpn, rpc, rka, rkn, rkc⟩ := e
      obtain ⟨o0, o1, o2, o3, o4, o5⟩ := M.box.six
      go_upto_region 5 with fail
      refine wp_region_order (fun (w' : World) => w'.cell? ⟨w5.heap.size, 5, none⟩ = some (.slice ca cn cc) ∧ w'.cell? ⟨w.heap.size, 3, none⟩ = some (.slice (some ⟨b, off, none⟩) ekn ekc) ∧ NCells w' b (off + j * 4) (⟨rk, rx, rpa, rpn, rpc, rka, rkn, rkc⟩ : Nv)) [0, 1, 2, 3, 4, 5, 6, 10] [0, 1, 2, 3, 4, 5, 6, 7, 8, 9, 10, 11] (by kernel_rfl) (by kernel_rfl) (fun d _ _ _ _ h => by cases d <;> exact h) (by kernel_rfl) ?_
      have hS : (fun (w' : World) => w'.cell? ⟨w5.heap.size, 5, none⟩ = some (.slice ca cn cc) ∧ w'.cell? ⟨w.heap.size, 3, none⟩ = some (.slice (some ⟨b, off, none⟩) ekn ekc) ∧ NCells w' b (off + j * 4) (⟨rk, rx, rpa, rpn, rpc, rka, rkn, rkc⟩ : Nv)) _ := ⟨o5, k3, hrc⟩
      (apply ord_held rfl rfl (by assumption) rfl; (focus ((intro w' hS'); go_simp; (try with_reducible rfl))); (try simp only [Act.put, List.setIfInBounds_toArray, List.set_cons_zero, List.set_cons_succ]))
      (apply ord_held rfl rfl (by assumption) rfl; (focus ((intro w' hS'); go_simp; (try with_reducible rfl))); (try simp only [Act.put, List.setIfInBounds_toArray, List.set_cons_zero, List.set_cons_succ]))
      (apply ord_held rfl rfl (by assumption) rfl; (focus ((intro w' hS'); go_simp; (try with_reducible rfl))); (try simp only [Act.put, List.setIfInBounds_toArray, List.set_cons_zero, List.set_cons_succ]))
      (apply ord_held rfl rfl (by assumption) rfl; (focus ((intro w' hS'); go_simp; (try with_reducible rfl))); (try simp only [Act.put, List.setIfInBounds_toArray, List.set_cons_zero, List.set_cons_succ]))
      (apply ord_held rfl rfl (by assumption) rfl; (focus ((intro w' hS'); go_simp; (try with_reducible rfl))); (try simp only [Act.put, List.setIfInBounds_toArray, List.set_cons_zero, List.set_cons_succ]))
      (apply ord_held rfl rfl (by assumption) rfl; (focus ((intro w' hS'); go_simp; (try with_reducible rfl))); (try simp only [Act.put, List.setIfInBounds_toArray, List.set_cons_zero, List.set_cons_succ]))
      (apply ord_held rfl rfl (by assumption) rfl; (focus ((intro w' hS'); go_simp; (try with_reducible rfl))); (try simp only [Act.put, List.setIfInBounds_toArray, List.set_cons_zero, List.set_cons_succ]))
      (apply ord_loud rfl rfl rfl; intro K hK; go_simp)
      refine (hRu.out _ (ext_drew hx)).mono ?_
      rintro r w2 ⟨e2, rfl, hT2, hx2⟩
      have x2 : Ext wr w2 := ext_trans (ext_drew (ext_refl _)) hx2
      have hS2 : (fun (w' : World) => w'.cell? ⟨w5.heap.size, 5, none⟩ = some (.slice ca cn cc) ∧ w'.cell? ⟨w.heap.size, 3, none⟩ = some (.slice (some ⟨b, off, none⟩) ekn ekc) ∧ NCells w' b (off + j * 4) (⟨rk, rx, rpa, rpn, rpc, rka, rkn, rkc⟩ : Nv)) w2 := ⟨x2.cell o5, x2.cell k3, NCells.ext x2 hrc⟩
      refine hK _ _ (fun _ => hS2) ?_
      clear hK K
      simp only [El.val]
      (try simp only [Act.put, List.setIfInBounds_toArray, List.set_cons_zero, List.set_cons_succ])
      (apply ord_loud rfl rfl rfl; intro K hK; go_simp)
      have x3 : Ext wr (w2.alloc (.cells #[.int .i64 e2.k, .string e2.x, .float .f64 e2.d, .bool e2.y, .slice e2.ka e2.n e2.kc, .slice e2.ca e2.m e2.cc] 26)) := ext_alloc x2 _
      have hbz : Box (w2.alloc (.cells #[.int .i64 e2.k, .string e2.x, .float .f64 e2.d, .bool e2.y, .slice e2.ka e2.n e2.kc, .slice e2.ca e2.m e2.cc] 26)) w2.heap.size e2.arr 26 := Box.new _ _ _
      have hT3 := hT2.ext (ext_alloc (ext_refl w2) (.cells #[.int .i64 e2.k, .string e2.x, .float .f64 e2.d, .bool e2.y, .slice e2.ka e2.n e2.kc, .slice e2.ca e2.m e2.cc] 26))
      have hS3 : (fun (w' : World) => w'.cell? ⟨w5.heap.size, 5, none⟩ = some (.slice ca cn cc) ∧ w'.cell? ⟨w.heap.size, 3, none⟩ = some (.slice (some ⟨b, off, none⟩) ekn ekc) ∧ NCells w' b (off + j * 4) (⟨rk, rx, rpa, rpn, rpc, rka, rkn, rkc⟩ : Nv)) (w2.alloc (.cells #[.int .i64 e2.k, .string e2.x, .float .f64 e2.d, .bool e2.y, .slice e2.ka e2.n e2.kc, .slice e2.ca e2.m e2.cc] 26)) := ⟨x3.cell o5, x3.cell k3, NCells.ext x3 hrc⟩
      refine hK _ _ (fun _ => hS3) ?_
      clear hK K
      have M1 := M.ext x3
      have hs2 := x2.sz
      have hbd : ∀ q, (Value.slice ca cn cc).ownBlock = some q → w5.heap.size + 1 ≤ q ∧ q < wr.heap.size := fun q h => M.kids.block h
      (try simp only [Act.put, List.setIfInBounds_toArray, List.set_cons_zero, List.set_cons_succ])
      apply ord_loud rfl rfl rfl
      intro K hK
      refine wp_append_tree _ _ _ rfl (w5.heap.size + 1) _ kes rfl M1.kids w2.heap.size e2 rfl (boxCells hbz) (by have := HES.out; omega) (by simp; omega) ?_
      intro g1 cap1 w4 hown hgrow hlies hglt
      have hS4 : (fun (w' : World) => w'.cell? ⟨w5.heap.size, 5, none⟩ = some (.slice ca cn cc) ∧ w'.cell? ⟨w.heap.size, 3, none⟩ = some (.slice (some ⟨b, off, none⟩) ekn ekc) ∧ NCells w' b (off + j * 4) (⟨rk, rx, rpa, rpn, rpc, rka, rkn, rkc⟩ : Nv)) w4 := ⟨hgrow.cell (x3.cell o5) (fun e => by have := hbd _ e.symm; simp at this; omega), hgrow.cell (x3.cell k3) (fun e => by have := hbd _ e.symm; simp at this; omega), ?_⟩
      rotate_left
      · obtain ⟨c0, c1, c2, c3⟩ := hrc
        have hq : ∀ (p : Addr) (u : Value), p.block = b → wr.cell? p = some u → w4.cell? p = some u := fun p u hp hc => hgrow.cell (x3.cell hc) (fun e => by have := hbd _ e.symm; omega)
        exact ⟨hq _ _ rfl c0, hq _ _ rfl c1, hq _ _ rfl c2, hq _ _ rfl c3⟩
      have q5 := (M1.boxMid' hgrow).free 5
      refine hK _ _ (fun _ => hS4) ?_
      clear hK K
      (try simp only [Act.put, List.setIfInBounds_toArray, List.set_cons_zero, List.set_cons_succ])
      have o5 := hS4.1
      (apply ord_held rfl rfl (by assumption) rfl; (focus ((intro w' hS'); go_simp; (try with_reducible rfl))); (try simp only [Act.put, List.setIfInBounds_toArray, List.set_cons_zero, List.set_cons_succ]))
      (apply ord_last rfl rfl rfl (by kernel_rfl); intro K hK; go_simp; refine hK _ _ ?_; clear hK K; (try simp only [Act.put, List.setIfInBounds_toArray, List.set_cons_zero, List.set_cons_succ]))
      refine ord_end ?_
      have M2 := M1.kid hown hgrow hlies
      have hMw := hxw5.sz
      have hb2 := M1.boxKid (hb0r.ext x3) (by omega) (by omega) hgrow 5 (.slice (some ⟨g1, 0, none⟩) (kes.length + 1) cap1)
      have hbR2 := M1.boxKid (hbRr.ext x3) (by omega) (by omega) hgrow 5 (.slice (some ⟨g1, 0, none⟩) (kes.length + 1) cap1)
      have x4 := M1.extKid (ext_trans hx x3) (by omega) hgrow 5 (.slice (some ⟨g1, 0, none⟩) (kes.length + 1) cap1)
      have HK2 := Lib.hid ((HK.out.ext x3).step (hT3.to fun q h1 h2 => ⟨by have h3 : wr.heap.size ≤ q := h1; omega, fun e => by have h3 : wr.heap.size ≤ q := h1; have := (hbd q e).2; omega⟩) hgrow hlies (by omega : w5.heap.size < w5.heap.size + 1) 5 (.slice (some ⟨g1, 0, none⟩) (kes.length + 1) cap1) (kes.length + 1) cap1)
      have hszz : w5.heap.size + 1 ≤ (w4.setCell ⟨w5.heap.size, 5, none⟩ (.slice (some ⟨g1, 0, none⟩) (kes.length + 1) cap1)).heap.size := by have h1 := hgrow.size; have h2 := x3.sz; simp; omega
      clear hown hgrow hlies hglt hS q5 M1 M o0 o1 o2 o3 o4 o5 hT2 hT3 hbz HK hS4 hS3 hS2 hbd
      generalize w4.setCell ⟨w5.heap.size, 5, none⟩ (.slice (some ⟨g1, 0, none⟩) (kes.length + 1) cap1) = w6 at M2 hb2 hbR2 x4 HK2 hszz ⊢
      go_wp2_with fail
      go_roundw
      case rel =>
        first
          | exact ⟨x4, hszz, hbR2, hb2, j + 1, kes ++ [e2], _, _, _, by omega, by go_num, by simp [HES.out], M2, by rw [take_snoc HZ.out]; exact HK2.out⟩
          | (repeat apply Exists.intro
             refine And.intro ?_ rfl
             exact ⟨x4, hszz, hbR2, hb2, j + 1, kes ++ [e2], _, _, _, by omega, by go_num, by simp [HES.out], M2, by rw [take_snoc HZ.out]; exact HK2.out⟩)
      case measure => simp [intOf]; omega
    have hjn : j = ekn := by omega
    have hfull : (nodesT ks).take j = nodesT ks := List.take_of_length_le (by
      rw [nodesT_eq, List.length_map]
      have h1 := HKS.out.1
      omega)
    have hK := HK.out
    rw [hfull] at hK
    have hTK : TreeAt (fun b => w5.heap.size + 1 ≤ b) wr ⟨4, ⟨#[]⟩, 0, false, none, 0, 0, ca, cn, cc⟩ (listT (nodesT ks)) := M.tree (ss := []) hK.1 (fun b hb => by cases hb) (fun b hb => (M.kids.block hb).1) fun i e t h1 h2 => TreeAt.to (hK.2 i e t h1 h2) (fun b hb _ => hb.1)
    have HCN := Lib.hid (show cn = ekn by have h1 := M.klen; have h2 := HES.out; omega)
    have hbk := M.box
    obtain ⟨y0, y1, y2, y3, y4, y5⟩ := hbk.six
    have k0 := hbRr.cell 0 _ rfl
    have k1 := hbRr.cell 1 _ rfl
    have k2 := hbRr.cell 2 _ rfl
    have hlb := hbk.lt
    have HTK := Lib.hid hTK
    clear hTK hK HK M hfull hjn hxw5 hbR5 hb05 hx5 hx0
    rename World => wk
    have hKA : KidsAt (fun b => w5.heap.size + 1 ≤ b ∧ b < wk.heap.size) wk ca cn cc (nodesT ks) := (HTK.out.parts.2.2.2.2.2).keep (S' := (fun b => w5.heap.size + 1 ≤ b ∧ b < wk.heap.size)) (fun b h1 h2 => ⟨h1, h2⟩) (fun _ _ _ => rfl)
    have HKA := Lib.hid hKA
    clear hKA
    go_wp2_with fail
    go_loopw [5, 6] (fun pv pl wq => Ext wk wq ∧ wk.heap.size + 1 ≤ wq.heap.size ∧ ∃ (p : Nat) (pes : List (ByteArray × El)) (vv : Value), vv = pv ∧ p ≤ 4 ∧ pl = .int .i64 p ∧ pes.length ≤ p ∧ OwnPairs wq wk.heap.size vv pes ∧ Pk (fun b => w.heap.size + 1 + 1 ≤ b ∧ vv.ownBlock ≠ some b) wq pes (tQp ps (nodesT ks) p)) (fun _ pl _ => 4 - (intOf pl).toNat)
    case atStart => exact ⟨ext_alloc (ext_refl _) _, by simp, 0, [], _, rfl, by omega, rfl, by simp, ⟨rfl, .inr ⟨wk.heap.size, 0, #[], rfl, Nat.le_refl _, Box.at rfl _ _, Nat.le_refl _, by simp [maxLen], rfl, rfl⟩⟩, ⟨rfl, fun _ _ _ h => by simp at h⟩⟩
    case round =>
      rename World => wq
      obtain ⟨hxq, hsq, p, pes, vv, hvv, hp4, rfl, hpl, hO, hPk⟩ := hrel
      subst hvv
      have HO := Lib.hid hO
      have HPK := Lib.hid hPk
      have hvb : ∀ q, vv.ownBlock = some q → wk.heap.size ≤ q ∧ q < wq.heap.size := fun q hq => World.ownsRow.lt hO q hq
      have HPL := Lib.hid hpl
      clear hO hPk hpl
      by_cases hlp : p < 4
      case pos =>
        go_wp2_with (first
          | (go_at_call 66; refine (list_exact none 0 0 _).mono ?_; rintro r wl ⟨rfl, hxl⟩; simp only [El.val])
          | fail)
        have hsl := hxl.sz
        have hxwl := ext_trans hxq hxl
        have hbRl := hbRr.ext hxwl
        have hbkl := hbk.ext hxwl
        clear y0 y1 y2 y3 y4 y5 k0 k1 k2
        have HLP := Lib.hid hlp
        have hd4 : decide ((p : Int) < 4) = true := by simp; omega
        simp only [hd4]
        clear hd4
        go_loopw [8] (fun i wi => Ext wl wi ∧ wl.heap.size + 1 ≤ wi.heap.size ∧ ∃ (jj : Nat) (les : List El) (la : Option Addr) (ln lc : Nat), jj ≤ cn ∧ i = .int .i64 jj ∧ les.length ≤ jj ∧ Making wi (wl.heap.size + 1) wl.heap.size 4 [] les none 0 0 la ln lc ∧ KinW (fun b => w5.heap.size + 1 ≤ b ∧ b < wk.heap.size) wl les (inPlace ps p 0 ((nodesT ks).take jj))) (fun i _ => cn - (intOf i).toNat)
        case atStart => exact ⟨ext_alloc (ext_refl _) _, by simp, 0, [], none, 0, 0, Nat.zero_le _, rfl, by simp, ⟨Box.at rfl _ _, World.ownsRow_nil _ _ _ _, World.ownsRow_nil _ _ _ _, by omega, fun _ h => by cases h⟩, ⟨rfl, fun _ _ _ h => by simp at h⟩⟩
        case round =>
          rename World => wi
          obtain ⟨hxi, hsi, jj, les, la, ln, lc, hjj, rfl, hll, M, hKW⟩ := hrel
          have HLL := Lib.hid hll
          have HKW := Lib.hid hKW
          clear hll hKW
          have hcnn := HCN.out
          have hbRi := hbRl.ext hxi
          have hbki := hbkl.ext hxi
          have k2 := hbRi.cell 2 _ rfl
          obtain ⟨y0, y1, y2, y3, y4, y5⟩ := hbki.six
          obtain ⟨o0, o1, o2, o3, o4, o5⟩ := M.box.six
          clear hcnn
          by_cases hlj : jj < cn
          case pos =>
            obtain ⟨t, ht⟩ := some_of_lt HKA.out.1 hlj
            obtain ⟨b, off, ⟨k6, x6, d6, y6, ka6, n6, kc6, ca6, m6, cc6⟩, rfl, hSb, hc6, hTl⟩ := HKA.out.get ht
            have hTl := hTl.ext hxwl
            have hc6 := CellsAt.ext (ext_trans hxwl hxi) hc6
            have hjb : jj ≤ 1048576 := by have := HCN.out; omega
            have HTJ := Lib.hid ht
            clear ht
            by_cases hje : jj < epn
            case pos =>
              obtain ⟨z, hz⟩ := some_of_lt HPS.out.1 hje
              obtain ⟨zb, zo, rfl, -, hcz⟩ := HPS.out.2.2.2 jj z hz
              have hcz := (ext_trans (ext_trans hx hxwl) hxi).cell hcz
              have hpz : placeAt ps jj = z := by unfold placeAt; rw [hz]; rfl
              clear hz
              by_cases hzp : z = (p : Int)
              case pos =>
                subst hzp
                have HPP := Lib.hid hpz
                clear hpz
                go_upto_region 21 with fail
                refine wp_region_order (fun (w' : World) => w'.cell? ⟨wl.heap.size, 5, none⟩ = some (.slice la ln lc) ∧ w'.cell? ⟨w5.heap.size, 5, none⟩ = some (.slice (some ⟨b, off, none⟩) cn cc) ∧ CellsAt w' b (off + jj * 6) (⟨k6, x6, d6, y6, ka6, n6, kc6, ca6, m6, cc6⟩ : El)) [0, 1, 2, 3, 4, 5, 6, 9] [0, 1, 2, 3, 4, 5, 6, 7, 8, 9, 10] (by kernel_rfl) (by kernel_rfl) (fun d _ _ _ _ h => by cases d <;> exact h) (by kernel_rfl) ?_
                have hS : (fun (w' : World) => w'.cell? ⟨wl.heap.size, 5, none⟩ = some (.slice la ln lc) ∧ w'.cell? ⟨w5.heap.size, 5, none⟩ = some (.slice (some ⟨b, off, none⟩) cn cc) ∧ CellsAt w' b (off + jj * 6) (⟨k6, x6, d6, y6, ka6, n6, kc6, ca6, m6, cc6⟩ : El)) wi.drew := ⟨o5, y5, hc6⟩
                (apply ord_held rfl rfl (by assumption) rfl; (focus ((intro w' hS'); go_simp; (try with_reducible rfl))); (try simp only [Act.put, List.setIfInBounds_toArray, List.set_cons_zero, List.set_cons_succ]))
                (apply ord_held rfl rfl (by assumption) rfl; (focus ((intro w' hS'); go_simp; (try with_reducible rfl))); (try simp only [Act.put, List.setIfInBounds_toArray, List.set_cons_zero, List.set_cons_succ]))
                (apply ord_held rfl rfl (by assumption) rfl; (focus ((intro w' hS'); go_simp; (try with_reducible rfl))); (try simp only [Act.put, List.setIfInBounds_toArray, List.set_cons_zero, List.set_cons_succ]))
                (apply ord_held rfl rfl (by assumption) rfl; (focus ((intro w' hS'); go_simp; (try with_reducible rfl))); (try simp only [Act.put, List.setIfInBounds_toArray, List.set_cons_zero, List.set_cons_succ]))
                (apply ord_held rfl rfl (by assumption) rfl; (focus ((intro w' hS'); go_simp; (try with_reducible rfl))); (try simp only [Act.put, List.setIfInBounds_toArray, List.set_cons_zero, List.set_cons_succ]))
                (apply ord_held rfl rfl (by assumption) rfl; (focus ((intro w' hS'); go_simp; (try with_reducible rfl))); (try simp only [Act.put, List.setIfInBounds_toArray, List.set_cons_zero, List.set_cons_succ]))
                (apply ord_held rfl rfl (by assumption) rfl; (focus ((intro w' hS'); go_simp; (try with_reducible rfl))); (try simp only [Act.put, List.setIfInBounds_toArray, List.set_cons_zero, List.set_cons_succ]))
                (apply ord_loud rfl rfl rfl; intro K hK; go_simp)
                have x3 : Ext wi (wi.alloc (.cells #[.int .i64 k6, .string x6, .float .f64 d6, .bool y6, .slice ka6 n6 kc6, .slice ca6 m6 cc6] 26)).drew := ext_drew (ext_alloc (ext_refl _) _)
                have hbz : Box (wi.alloc (.cells #[.int .i64 k6, .string x6, .float .f64 d6, .bool y6, .slice ka6 n6 kc6, .slice ca6 m6 cc6] 26)).drew wi.heap.size ((⟨k6, x6, d6, y6, ka6, n6, kc6, ca6, m6, cc6⟩ : El)).arr 26 := (Box.at rfl _ _).drew
                have hS3 : (fun (w' : World) => w'.cell? ⟨wl.heap.size, 5, none⟩ = some (.slice la ln lc) ∧ w'.cell? ⟨w5.heap.size, 5, none⟩ = some (.slice (some ⟨b, off, none⟩) cn cc) ∧ CellsAt w' b (off + jj * 6) (⟨k6, x6, d6, y6, ka6, n6, kc6, ca6, m6, cc6⟩ : El)) (wi.alloc (.cells #[.int .i64 k6, .string x6, .float .f64 d6, .bool y6, .slice ka6 n6 kc6, .slice ca6 m6 cc6] 26)).drew := ⟨x3.cell o5, x3.cell y5, CellsAt.ext x3 hc6⟩
                refine hK _ _ (fun _ => hS3) ?_
                clear hK K
                have M1 := M.ext x3
                have hbd : ∀ q, (Value.slice la ln lc).ownBlock = some q → wl.heap.size + 1 ≤ q ∧ q < wi.heap.size := fun q h => M.kids.block h
                (try simp only [Act.put, List.setIfInBounds_toArray, List.set_cons_zero, List.set_cons_succ])
                apply ord_loud rfl rfl rfl
                intro K hK
                refine wp_append_tree _ _ _ rfl (wl.heap.size + 1) _ les rfl M1.kids wi.heap.size (⟨k6, x6, d6, y6, ka6, n6, kc6, ca6, m6, cc6⟩ : El) rfl (boxCells hbz) (by have := HLL.out; omega) (by have h1 := x3.sz; omega) ?_
                intro g1 cap1 w4 hown hgrow hlies hglt
                have hS4 : (fun (w' : World) => w'.cell? ⟨wl.heap.size, 5, none⟩ = some (.slice la ln lc) ∧ w'.cell? ⟨w5.heap.size, 5, none⟩ = some (.slice (some ⟨b, off, none⟩) cn cc) ∧ CellsAt w' b (off + jj * 6) (⟨k6, x6, d6, y6, ka6, n6, kc6, ca6, m6, cc6⟩ : El)) w4 := ⟨hgrow.cell (x3.cell o5) (fun e => by have := hbd _ e.symm; simp at this; omega), hgrow.cell (x3.cell y5) (fun e => by have := hbd _ e.symm; simp at this; omega), ?_⟩
                rotate_left
                · obtain ⟨c0, c1, c2, c3, c4, c5⟩ := hc6
                  have hq : ∀ (p : Addr) (u : Value), p.block = b → wi.cell? p = some u → w4.cell? p = some u := fun p u hp hc => hgrow.cell (x3.cell hc) (fun e => by have := hbd _ e.symm; omega)
                  exact ⟨hq _ _ rfl c0, hq _ _ rfl c1, hq _ _ rfl c2, hq _ _ rfl c3, hq _ _ rfl c4, hq _ _ rfl c5⟩
                have q5 := (M1.boxMid' hgrow).free 5
                refine hK _ _ (fun _ => hS4) ?_
                clear hK K
                (try simp only [Act.put, List.setIfInBounds_toArray, List.set_cons_zero, List.set_cons_succ])
                have o5 := hS4.1
                (apply ord_held rfl rfl (by assumption) rfl; (focus ((intro w' hS'); go_simp; (try with_reducible rfl))); (try simp only [Act.put, List.setIfInBounds_toArray, List.set_cons_zero, List.set_cons_succ]))
                (apply ord_last rfl rfl rfl (by kernel_rfl); intro K hK; go_simp; refine hK _ _ ?_; clear hK K; (try simp only [Act.put, List.setIfInBounds_toArray, List.set_cons_zero, List.set_cons_succ]))
                refine ord_end ?_
                have M2 := M1.kid hown hgrow hlies
                have x4 := M1.extKid (ext_trans hxi x3) (Nat.le_refl wl.heap.size) hgrow 5 (.slice (some ⟨g1, 0, none⟩) (les.length + 1) cap1)
                have hszz : wl.heap.size + 1 ≤ (w4.setCell ⟨wl.heap.size, 5, none⟩ (.slice (some ⟨g1, 0, none⟩) (les.length + 1) cap1)).heap.size := by have h1 := hgrow.size; have h2 := x3.sz; simp; omega
                have HK2 := Lib.hid (KinW.snoc HKW.out hTl)
                clear hown hgrow hlies hglt hS q5 M1 M o0 o1 o2 o3 o4 o5 hbz HKW hS4 hS3 hbd hTl
                generalize w4.setCell ⟨wl.heap.size, 5, none⟩ (.slice (some ⟨g1, 0, none⟩) (les.length + 1) cap1) = w6 at M2 x4 HK2 hszz ⊢
                go_wp2_with fail
                go_roundw
                case rel =>
                  have hfin : KinW (fun b => w5.heap.size + 1 ≤ b ∧ b < wk.heap.size) wl (les ++ [(⟨k6, x6, d6, y6, ka6, n6, kc6, ca6, m6, cc6⟩ : El)]) (inPlace ps p 0 ((nodesT ks).take (jj + 1))) := by
                    rw [inPlace_take ps p HTJ.out, HPP.out, if_pos rfl]
                    exact HK2.out
                  first
                    | exact ⟨x4, hszz, jj + 1, les ++ [(⟨k6, x6, d6, y6, ka6, n6, kc6, ca6, m6, cc6⟩ : El)], _, _, _, by omega, by go_num, by have := HLL.out; simp; omega, M2, hfin⟩
                    | (repeat apply Exists.intro
                       refine And.intro ?_ rfl
                       exact ⟨x4, hszz, jj + 1, les ++ [(⟨k6, x6, d6, y6, ka6, n6, kc6, ca6, m6, cc6⟩ : El)], _, _, _, by omega, by go_num, by have := HLL.out; simp; omega, M2, hfin⟩)
                case measure => simp [intOf]; omega
              have HPP := Lib.hid (show ¬ placeAt ps jj = (p : Int) by rw [hpz]; exact hzp)
              have hzq : (z == (p : Int)) = false := beq_eq_false_iff_ne.2 hzp
              clear hpz
              go_wp2_with fail
              go_roundw
              case rel =>
                have hfin : KinW (fun b => w5.heap.size + 1 ≤ b ∧ b < wk.heap.size) wl les (inPlace ps p 0 ((nodesT ks).take (jj + 1))) := by
                  rw [inPlace_take ps p HTJ.out, if_neg HPP.out, List.append_nil]
                  exact HKW.out
                first
                  | exact ⟨hxi, hsi, jj + 1, les, _, _, _, by omega, by go_num, by have := HLL.out; omega, M, hfin⟩
                  | (repeat apply Exists.intro
                     refine And.intro ?_ rfl
                     exact ⟨hxi, hsi, jj + 1, les, _, _, _, by omega, by go_num, by have := HLL.out; omega, M, hfin⟩)
              case measure => simp [intOf]; omega
            have hpz : placeAt ps jj = 0 := by
              unfold placeAt
              rw [List.getElem?_eq_none (by have := HPS.out.1; omega)]
              rfl
            by_cases hzp : p = 0
            case pos =>
              have HPP := Lib.hid (show placeAt ps jj = (p : Int) by omega)
              have hzq : ((p : Int) == 0) = true := by simp [hzp]
              clear hpz hzp
              go_upto_region 21 with fail
              refine wp_region_order (fun (w' : World) => w'.cell? ⟨wl.heap.size, 5, none⟩ = some (.slice la ln lc) ∧ w'.cell? ⟨w5.heap.size, 5, none⟩ = some (.slice (some ⟨b, off, none⟩) cn cc) ∧ CellsAt w' b (off + jj * 6) (⟨k6, x6, d6, y6, ka6, n6, kc6, ca6, m6, cc6⟩ : El)) [0, 1, 2, 3, 4, 5, 6, 9] [0, 1, 2, 3, 4, 5, 6, 7, 8, 9, 10] (by kernel_rfl) (by kernel_rfl) (fun d _ _ _ _ h => by cases d <;> exact h) (by kernel_rfl) ?_
              have hS : (fun (w' : World) => w'.cell? ⟨wl.heap.size, 5, none⟩ = some (.slice la ln lc) ∧ w'.cell? ⟨w5.heap.size, 5, none⟩ = some (.slice (some ⟨b, off, none⟩) cn cc) ∧ CellsAt w' b (off + jj * 6) (⟨k6, x6, d6, y6, ka6, n6, kc6, ca6, m6, cc6⟩ : El)) wi.drew := ⟨o5, y5, hc6⟩
              (apply ord_held rfl rfl (by assumption) rfl; (focus ((intro w' hS'); go_simp; (try with_reducible rfl))); (try simp only [Act.put, List.setIfInBounds_toArray, List.set_cons_zero, List.set_cons_succ]))
              (apply ord_held rfl rfl (by assumption) rfl; (focus ((intro w' hS'); go_simp; (try with_reducible rfl))); (try simp only [Act.put, List.setIfInBounds_toArray, List.set_cons_zero, List.set_cons_succ]))
              (apply ord_held rfl rfl (by assumption) rfl; (focus ((intro w' hS'); go_simp; (try with_reducible rfl))); (try simp only [Act.put, List.setIfInBounds_toArray, List.set_cons_zero, List.set_cons_succ]))
              (apply ord_held rfl rfl (by assumption) rfl; (focus ((intro w' hS'); go_simp; (try with_reducible rfl))); (try simp only [Act.put, List.setIfInBounds_toArray, List.set_cons_zero, List.set_cons_succ]))
              (apply ord_held rfl rfl (by assumption) rfl; (focus ((intro w' hS'); go_simp; (try with_reducible rfl))); (try simp only [Act.put, List.setIfInBounds_toArray, List.set_cons_zero, List.set_cons_succ]))
              (apply ord_held rfl rfl (by assumption) rfl; (focus ((intro w' hS'); go_simp; (try with_reducible rfl))); (try simp only [Act.put, List.setIfInBounds_toArray, List.set_cons_zero, List.set_cons_succ]))
              (apply ord_held rfl rfl (by assumption) rfl; (focus ((intro w' hS'); go_simp; (try with_reducible rfl))); (try simp only [Act.put, List.setIfInBounds_toArray, List.set_cons_zero, List.set_cons_succ]))
              (apply ord_loud rfl rfl rfl; intro K hK; go_simp)
              have x3 : Ext wi (wi.alloc (.cells #[.int .i64 k6, .string x6, .float .f64 d6, .bool y6, .slice ka6 n6 kc6, .slice ca6 m6 cc6] 26)).drew := ext_drew (ext_alloc (ext_refl _) _)
              have hbz : Box (wi.alloc (.cells #[.int .i64 k6, .string x6, .float .f64 d6, .bool y6, .slice ka6 n6 kc6, .slice ca6 m6 cc6] 26)).drew wi.heap.size ((⟨k6, x6, d6, y6, ka6, n6, kc6, ca6, m6, cc6⟩ : El)).arr 26 := (Box.at rfl _ _).drew
              have hS3 : (fun (w' : World) => w'.cell? ⟨wl.heap.size, 5, none⟩ = some (.slice la ln lc) ∧ w'.cell? ⟨w5.heap.size, 5, none⟩ = some (.slice (some ⟨b, off, none⟩) cn cc) ∧ CellsAt w' b (off + jj * 6) (⟨k6, x6, d6, y6, ka6, n6, kc6, ca6, m6, cc6⟩ : El)) (wi.alloc (.cells #[.int .i64 k6, .string x6, .float .f64 d6, .bool y6, .slice ka6 n6 kc6, .slice ca6 m6 cc6] 26)).drew := ⟨x3.cell o5, x3.cell y5, CellsAt.ext x3 hc6⟩
              refine hK _ _ (fun _ => hS3) ?_
              clear hK K
              have M1 := M.ext x3
              have hbd : ∀ q, (Value.slice la ln lc).ownBlock = some q → wl.heap.size + 1 ≤ q ∧ q < wi.heap.size := fun q h => M.kids.block h
              (try simp only [Act.put, List.setIfInBounds_toArray, List.set_cons_zero, List.set_cons_succ])
              apply ord_loud rfl rfl rfl
              intro K hK
              refine wp_append_tree _ _ _ rfl (wl.heap.size + 1) _ les rfl M1.kids wi.heap.size (⟨k6, x6, d6, y6, ka6, n6, kc6, ca6, m6, cc6⟩ : El) rfl (boxCells hbz) (by have := HLL.out; omega) (by have h1 := x3.sz; omega) ?_
              intro g1 cap1 w4 hown hgrow hlies hglt
              have hS4 : (fun (w' : World) => w'.cell? ⟨wl.heap.size, 5, none⟩ = some (.slice la ln lc) ∧ w'.cell? ⟨w5.heap.size, 5, none⟩ = some (.slice (some ⟨b, off, none⟩) cn cc) ∧ CellsAt w' b (off + jj * 6) (⟨k6, x6, d6, y6, ka6, n6, kc6, ca6, m6, cc6⟩ : El)) w4 := ⟨hgrow.cell (x3.cell o5) (fun e => by have := hbd _ e.symm; simp at this; omega), hgrow.cell (x3.cell y5) (fun e => by have := hbd _ e.symm; simp at this; omega), ?_⟩
              rotate_left
              · obtain ⟨c0, c1, c2, c3, c4, c5⟩ := hc6
                have hq : ∀ (p : Addr) (u : Value), p.block = b → wi.cell? p = some u → w4.cell? p = some u := fun p u hp hc => hgrow.cell (x3.cell hc) (fun e => by have := hbd _ e.symm; omega)
                exact ⟨hq _ _ rfl c0, hq _ _ rfl c1, hq _ _ rfl c2, hq _ _ rfl c3, hq _ _ rfl c4, hq _ _ rfl c5⟩
              have q5 := (M1.boxMid' hgrow).free 5
              refine hK _ _ (fun _ => hS4) ?_
              clear hK K
              (try simp only [Act.put, List.setIfInBounds_toArray, List.set_cons_zero, List.set_cons_succ])
              have o5 := hS4.1
              (apply ord_held rfl rfl (by assumption) rfl; (focus ((intro w' hS'); go_simp; (try with_reducible rfl))); (try simp only [Act.put, List.setIfInBounds_toArray, List.set_cons_zero, List.set_cons_succ]))
              (apply ord_last rfl rfl rfl (by kernel_rfl); intro K hK; go_simp; refine hK _ _ ?_; clear hK K; (try simp only [Act.put, List.setIfInBounds_toArray, List.set_cons_zero, List.set_cons_succ]))
              refine ord_end ?_
              have M2 := M1.kid hown hgrow hlies
              have x4 := M1.extKid (ext_trans hxi x3) (Nat.le_refl wl.heap.size) hgrow 5 (.slice (some ⟨g1, 0, none⟩) (les.length + 1) cap1)
              have hszz : wl.heap.size + 1 ≤ (w4.setCell ⟨wl.heap.size, 5, none⟩ (.slice (some ⟨g1, 0, none⟩) (les.length + 1) cap1)).heap.size := by have h1 := hgrow.size; have h2 := x3.sz; simp; omega
              have HK2 := Lib.hid (KinW.snoc HKW.out hTl)
              clear hown hgrow hlies hglt hS q5 M1 M o0 o1 o2 o3 o4 o5 hbz HKW hS4 hS3 hbd hTl
              generalize w4.setCell ⟨wl.heap.size, 5, none⟩ (.slice (some ⟨g1, 0, none⟩) (les.length + 1) cap1) = w6 at M2 x4 HK2 hszz ⊢
              go_wp2_with fail
              go_roundw
              case rel =>
                have hfin : KinW (fun b => w5.heap.size + 1 ≤ b ∧ b < wk.heap.size) wl (les ++ [(⟨k6, x6, d6, y6, ka6, n6, kc6, ca6, m6, cc6⟩ : El)]) (inPlace ps p 0 ((nodesT ks).take (jj + 1))) := by
                  rw [inPlace_take ps p HTJ.out, HPP.out, if_pos rfl]
                  exact HK2.out
                first
                  | exact ⟨x4, hszz, jj + 1, les ++ [(⟨k6, x6, d6, y6, ka6, n6, kc6, ca6, m6, cc6⟩ : El)], _, _, _, by omega, by go_num, by have := HLL.out; simp; omega, M2, hfin⟩
                  | (repeat apply Exists.intro
                     refine And.intro ?_ rfl
                     exact ⟨x4, hszz, jj + 1, les ++ [(⟨k6, x6, d6, y6, ka6, n6, kc6, ca6, m6, cc6⟩ : El)], _, _, _, by omega, by go_num, by have := HLL.out; simp; omega, M2, hfin⟩)
              case measure => simp [intOf]; omega
            have HPP := Lib.hid (show ¬ placeAt ps jj = (p : Int) by rw [hpz]; omega)
            have hzq : ((p : Int) == 0) = false := beq_eq_false_iff_ne.2 (by omega)
            clear hpz
            go_wp2_with fail
            go_roundw
            case rel =>
              have hfin : KinW (fun b => w5.heap.size + 1 ≤ b ∧ b < wk.heap.size) wl les (inPlace ps p 0 ((nodesT ks).take (jj + 1))) := by
                rw [inPlace_take ps p HTJ.out, if_neg HPP.out, List.append_nil]
                exact HKW.out
              first
                | exact ⟨hxi, hsi, jj + 1, les, _, _, _, by omega, by go_num, by have := HLL.out; omega, M, hfin⟩
                | (repeat apply Exists.intro
                   refine And.intro ?_ rfl
                   exact ⟨hxi, hsi, jj + 1, les, _, _, _, by omega, by go_num, by have := HLL.out; omega, M, hfin⟩)
            case measure => simp [intOf]; omega
          have hfull : (nodesT ks).take jj = nodesT ks := List.take_of_length_le (by have h1 := HKA.out.1; omega)
          have hKW := HKW.out
          rw [hfull] at hKW
          have hln : ln = les.length := M.klen
          have HLN := Lib.hid hln
          have HKW := Lib.hid hKW
          have hjb : jj ≤ 1048576 := by have := HCN.out; omega
          clear hfull hKW hln
          have hTL : TreeAt (fun b => (w5.heap.size + 1 ≤ b ∧ b < wk.heap.size) ∨ wl.heap.size + 1 ≤ b) wi (⟨4, ⟨#[]⟩, 0, false, none, 0, 0, la, ln, lc⟩ : El) (listT (inPlace ps p 0 (nodesT ks))) := M.tree (ss := []) HKW.out.1 (fun b hb => by cases hb) (fun b hb => .inr (M.kids.block hb).1) (fun i e t h1 h2 => ((HKW.out.2 i e t h1 h2).ext hxi).to (fun b hb _ => .inl hb))
          have hMl := M.box.lt
          have HTL := Lib.hid (hTL.to (S' := fun b => w.heap.size + 1 + 1 ≤ b ∧ vv.ownBlock ≠ some b) (fun b hb _ => ⟨by omega, fun e => by have := hvb b e; omega⟩))
          have HO1 := Lib.hid (HO.out.ext (ext_trans hxl hxi))
          have HPK1 := Lib.hid (Pk.ext (ext_trans hxl hxi) HPK.out)
          have hxwi := ext_trans hxwl hxi
          clear hTL HO HPK
          by_cases hz0 : 0 < ln
          case pos =>
            go_upto_region 23 with fail
            refine wp_region_order (fun (w' : World) => Six w' wl.heap.size (⟨4, ⟨#[]⟩, 0, false, none, 0, 0, la, ln, lc⟩ : El)) [0, 2, 5] [0, 2, 5, 1, 3, 4, 6, 7, 8, 9] (by kernel_rfl) (by kernel_rfl) (fun d _ _ _ _ h => by cases d <;> exact h) (by kernel_rfl) ?_
            have hS : (fun (w' : World) => Six w' wl.heap.size (⟨4, ⟨#[]⟩, 0, false, none, 0, 0, la, ln, lc⟩ : El)) wi.drew := M.box.six
            (apply ord_held rfl rfl (by assumption) rfl; (focus ((intro w' hS'); go_simp; (try with_reducible rfl))); (try simp only [Act.put, List.setIfInBounds_toArray, List.set_cons_zero, List.set_cons_succ]))
            (apply ord_held rfl rfl (by assumption) rfl; (focus ((intro w' hS'); go_simp; (try with_reducible rfl))); (try simp only [Act.put, List.setIfInBounds_toArray, List.set_cons_zero, List.set_cons_succ]))
            (apply ord_held rfl rfl (by assumption) rfl; (focus ((intro w' hS'); go_simp; (try with_reducible rfl))); (try simp only [Act.put, List.setIfInBounds_toArray, List.set_cons_zero, List.set_cons_succ]))
            (apply ord_loud rfl rfl rfl; intro K hK; go_simp)
            refine (placesB_any _).mono ?_
            rintro r w2 ⟨rfl, hw2⟩
            have x2 : Ext wi w2 := by rw [hw2]; exact ext_alloc (ext_drew (ext_refl _)) _
            have hbP : Box w2 wi.heap.size #[.string s_must, .string s_must_not, .string s_should, .string s_filter] 9 := by rw [hw2]; exact Box.at rfl _ _
            have hcP := place_cell hbP HLP.out
            have hS2 : (fun (w' : World) => Six w' wl.heap.size (⟨4, ⟨#[]⟩, 0, false, none, 0, 0, la, ln, lc⟩ : El)) w2 := Six.ext x2 M.box.six
            refine hK _ _ (fun _ => hS2) ?_
            clear hK K hw2 hbP
            (try simp only [Act.put, List.setIfInBounds_toArray, List.set_cons_zero, List.set_cons_succ])
            (apply ord_loud rfl rfl rfl; intro K hK; go_simp)
            refine hK _ _ (fun _ => hS2) ?_
            clear hK K
            (try simp only [Act.put, List.setIfInBounds_toArray, List.set_cons_zero, List.set_cons_succ])
            (apply ord_loud rfl rfl rfl; intro K hK; go_simp)
            refine hK _ _ (fun _ => hS2) ?_
            clear hK K
            (try simp only [Act.put, List.setIfInBounds_toArray, List.set_cons_zero, List.set_cons_succ])
            (apply ord_loud rfl rfl rfl; intro K hK; go_simp)
            refine hK _ _ (fun _ => hS2) ?_
            clear hK K
            (try simp only [Act.put, List.setIfInBounds_toArray, List.set_cons_zero, List.set_cons_succ])
            (apply ord_loud rfl rfl rfl; intro K hK; go_simp)
            have x3 : Ext wi (w2.alloc (.cells #[.string (placeName p), .int .i64 4, .string ⟨#[]⟩, .float .f64 0, .bool false, .slice none 0 0, .slice la ln lc] 72)) := ext_alloc x2 _
            have hbp : Box (w2.alloc (.cells #[.string (placeName p), .int .i64 4, .string ⟨#[]⟩, .float .f64 0, .bool false, .slice none 0 0, .slice la ln lc] 72)) w2.heap.size #[.string (placeName p), .int .i64 4, .string ⟨#[]⟩, .float .f64 0, .bool false, .slice none 0 0, .slice la ln lc] 72 := Box.at rfl _ _
            have hS3 : (fun (w' : World) => Six w' wl.heap.size (⟨4, ⟨#[]⟩, 0, false, none, 0, 0, la, ln, lc⟩ : El)) (w2.alloc (.cells #[.string (placeName p), .int .i64 4, .string ⟨#[]⟩, .float .f64 0, .bool false, .slice none 0 0, .slice la ln lc] 72)) := Six.ext x3 M.box.six
            refine hK _ _ (fun _ => hS3) ?_
            clear hK K
            (try simp only [Act.put, List.setIfInBounds_toArray, List.set_cons_zero, List.set_cons_succ])
            apply ord_loud rfl rfl rfl
            intro K hK
            refine wp_append_pairs _ _ _ rfl wk.heap.size vv pes rfl (HO1.out.ext x3) w2.heap.size 0 1 [(placeName (p : Int), (⟨4, ⟨#[]⟩, 0, false, none, 0, 0, la, ln, lc⟩ : El))] (by simp) rfl (fun i q hq => by
              cases i with
              | zero => simp at hq; subst hq; exact ⟨hbp.cell 0 _ rfl, hbp.cell 1 _ rfl, hbp.cell 2 _ rfl, hbp.cell 3 _ rfl, hbp.cell 4 _ rfl, hbp.cell 5 _ rfl, hbp.cell 6 _ rfl⟩
              | succ i => simp at hq) (by have := HPL.out; simp; omega) (by have h1 := x3.sz; omega) ?_
            intro g1 cap1 w4 hown hgrow hlies hglt
            have hb7 : Box w4 wl.heap.size #[.int .i64 4, .string ⟨#[]⟩, .float .f64 0, .bool false, .slice none 0 0, .slice la ln lc] 26 := (M.box.ext x3).grown hgrow (fun e => by have := hvb _ e.symm; omega)
            have hS4 : (fun (w' : World) => Six w' wl.heap.size (⟨4, ⟨#[]⟩, 0, false, none, 0, 0, la, ln, lc⟩ : El)) w4 := hb7.six
            refine hK _ _ (fun _ => hS4) ?_
            clear hK K
            (try simp only [Act.put, List.setIfInBounds_toArray, List.set_cons_zero, List.set_cons_succ])
            (apply ord_last rfl rfl rfl (by kernel_rfl); intro K hK; go_simp; refine hK _ _ ?_; clear hK K; (try simp only [Act.put, List.setIfInBounds_toArray, List.set_cons_zero, List.set_cons_succ]))
            refine ord_end ?_
            have hx5 : Ext wk w4 := ext_grown (ext_trans hxwi x3) hgrow (fun k hk => (hvb k hk).1)
            have hPk5 := Lib.hid (pkn_snoc (g := g1) (cap := cap1) (n := pes.length + 1) (k := placeName (p : Int)) (Pk.ext x3 HPK1.out) (HTL.out.ext x3) hgrow hlies)
            have hown5 := Lib.hid hown
            have hsz5 := hgrow.size
            have hx3s := x3.sz
            clear hown hgrow hlies hS hS2 hS3 hS4 hcP hbp hb7
            go_wp2_with fail
            go_roundw
            case rel =>
              have hfin : Pk (fun b => w.heap.size + 1 + 1 ≤ b ∧ (Value.slice (some ⟨g1, 0, none⟩) (pes.length + 1) cap1).ownBlock ≠ some b) w4 (pes ++ [(placeName (p : Int), (⟨4, ⟨#[]⟩, 0, false, none, 0, 0, la, ln, lc⟩ : El))]) (tQp ps (nodesT ks) (p + 1)) := by
                rw [tQp_succ, tQ_some (by have h1 := HKW.out.1; have h2 := HLN.out; omega)]
                exact hPk5.out
              first
                | exact ⟨hx5, by omega, p + 1, pes ++ [(placeName (p : Int), (⟨4, ⟨#[]⟩, 0, false, none, 0, 0, la, ln, lc⟩ : El))], _, rfl, by omega, by go_num, by have := HPL.out; simp; omega, by simpa using hown5.out, by simpa using hfin⟩
                | (repeat apply Exists.intro
                   refine And.intro ?_ rfl
                   exact ⟨hx5, by omega, p + 1, pes ++ [(placeName (p : Int), (⟨4, ⟨#[]⟩, 0, false, none, 0, 0, la, ln, lc⟩ : El))], _, rfl, by omega, by go_num, by have := HPL.out; simp; omega, by simpa using hown5.out, by simpa using hfin⟩)
            case measure => simp [intOf]; omega
          have hle : ln = 0 := by omega
          go_wp2_with fail
          go_roundw
          case rel =>
            have hfin : Pk (fun b => w.heap.size + 1 + 1 ≤ b ∧ vv.ownBlock ≠ some b) wi pes (tQp ps (nodesT ks) (p + 1)) := by
              rw [tQp_succ, tQ_none (by have h1 := HKW.out.1; have h2 := HLN.out; omega), List.append_nil]
              exact HPK1.out
            exact ⟨hxwi, by omega, p + 1, pes, vv, rfl, by omega, by go_num, by have := HPL.out; omega, HO1.out, hfin⟩
          case measure => simp [intOf]; omega
      obtain rfl : p = 4 := by omega
      have hPk := HPK.out
      have hb0q := hb0r.ext hxq
      have hlen : (tQp ps (nodesT ks) 4).length ≤ 4 := by have h1 := hPk.1; have h2 := HPL.out; omega
      obtain ⟨pa, pc, hve, hPA⟩ := HO.out.pairs (S := (fun b => w.heap.size + 1 + 1 ≤ b)) hPk.1 (fun b hb => by have := (hvb b hb).1; omega) (fun i e q he hq => ⟨(hPk.2 i e q he hq).1, (hPk.2 i e q he hq).2.to (fun b hb _ => hb.1)⟩)
      have hB := Lib.hid (beside_any (S := (fun b => w.heap.size + 1 + 1 ≤ b)) s_bool _ _ _ _ wq hPA (by omega))
      subst hve
      clear hPk hPA HO HPK hvb hlen
      go_wp2_with (first
        | (go_at_call 46; refine hB.out.mono ?_; rintro r w9 ⟨g2, rfl, hT9, hx9⟩; simp only [El.val]
           have hb9 := hb0q.ext hx9; obtain ⟨o0, o1, o2, o3, o4, o5⟩ := hb9.six; have f0 := hb9.free 0; have f1 := hb9.free 1; have f2 := hb9.free 2; have f3 := hb9.free 3; have f4 := hb9.free 4; have f5 := hb9.free 5)
        | fail)
      have hx9w := ext_trans (ext_trans hx hxq) hx9
      rw [tQp_four] at hT9
      try simp only [List.append_assoc] at hT9
      refine post_tree rfl rfl (hb9.sto g2) rfl ⟨g2, rfl, ?_, ext_sto6 hx9w (by omega) _ _ _ _ _ _⟩
      refine TreeAt.keep (S := (fun b => w.heap.size + 1 + 1 ≤ b)) (fun b hb _ => by omega) (keeps_sto w9 (by omega) g2) _ (hT9.to fun q hq _ => ?_)
      rcases hq with hq | hq
      · exact hq.1
      · omega
end Go.Proofs.YtfngaoicoecncaaGreatDoor

namespace Go.Proofs.YtfngaoicoecncaaGreatDoor
open Go.RowKit

theorem told3_mk (k : Int) (x : ByteArray) (ps : List Int) (ks : List Nd) (hSm : SmallN 1048576 (.mk k x ps ks)) (hk : ∀ r ∈ ks, Told3 r) : Told3 (.mk k x ps ks) := by
  rintro S ⟨ek, ex, epa, epn, epc, eka, ekn, ekc⟩ w h
  obtain ⟨h1, h2, hP, hK⟩ := h.parts
  simp only at h1 h2 hP hK
  subst h1 h2
  simp only [SmallN] at hSm
  have hkn : ekn ≤ 1048576 := by have := hK.1; omega
  rw [nodeT]
  split
  · rename_i e; subst e; exact whole_term (S := S) ex epa epn epc eka ekn ekc ps ks w hK hk hkn
  split
  · rename_i e; subst e; exact whole_exists (S := S) ex epa epn epc eka ekn ekc ps ks w hK hk hkn
  split
  · rename_i e; subst e; exact whole_bool (S := S) ex epa epn epc eka ekn ekc ps ks w hK hk hkn hP
  split
  · rename_i e; subst e; exact whole_const (S := S) ex epa epn epc eka ekn ekc ps ks w hK hk hkn
  split
  · rename_i e; subst e; exact whole_dis (S := S) ex epa epn epc eka ekn ekc ps ks w hK hk hkn
  split
  · rename_i e; subst e; exact whole_boosting (S := S) ex epa epn epc eka ekn ekc ps ks w hK hk hkn
  split
  · rename_i e; subst e; exact whole_nested (S := S) ex epa epn epc eka ekn ekc ps ks w hK hk hkn
  · rename_i e1 e2 e3 e4 e5 e6 e7; exact whole_all (S := S) ex epa epn epc eka ekn ekc ps ks w hK hk hkn ek e1 e2 e3 e4 e5 e6 e7
mutual
theorem told3 : ∀ r : Nd, SmallN 1048576 r → Told3 r
  | .mk k x ps ks, h2 => told3_mk k x ps ks h2 (told3s ks (by simp only [SmallN] at h2; exact h2.2.2.2))
theorem told3s : ∀ l : List Nd, SmallNs 1048576 l → ∀ r ∈ l, Told3 r
  | [], _, r, h => by cases h
  | q :: l, h2, r, hr => by
    simp only [SmallNs] at h2
    rcases List.mem_cons.1 hr with e | hr
    · rw [e]; exact told3 q h2.1
    · exact told3s l h2.2 r hr
end
end Go.Proofs.YtfngaoicoecncaaGreatDoor

