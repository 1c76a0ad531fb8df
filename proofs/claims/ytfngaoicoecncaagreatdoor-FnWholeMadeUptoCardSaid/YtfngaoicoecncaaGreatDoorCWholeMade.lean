/-
  A bool query that is made of others at once is the same as one that is made of their trees: the tied card of the statement FnWholeMade in its second form: where what comes in is of bulk at most 1048576.
-/
import Derived.Test.YtfngaoicoecncaaGreatDoorNf
import Derived.Test.YtfngaoicoecncaaGreatDoorP5
import Derived.Test.YtfngaoicoecncaaGreatDoorBk
import Derived.Test.YtfngaoicoecncaaGreatDoorBool
import Derived.Test.YtfngaoicoecncaaGreatDoorShelf2
import Derived.Test.YtfngaoicoecncaaGreatDoorZz
import Derived.Test.YtfngaoicoecncaaGreatDoorOb
import Derived.Test.YtfngaoicoecncaaGreatDoorCards
import Derived.Test.YtfngaoicoecncaaGreatDoorTie
import Derived.Lay
import Derived.LaidMore
import Derived.LaidSub
import Derived.Lib.LaidTab
import Derived.SevenTiedAt
import Derived.ProofKit
import Derived.OpenShut
import Derived.Stop.Joined
import Derived.Stop.LaidErr
import Derived.Deep.DeepHandedRow
namespace Go.Proofs.YtfngaoicoecncaaGreatDoor
open Go.RowKit

theorem placesB_any (w : World) : Calls Tryz.prog 64 #[] w fun r w' => r = .returned (.slice (some ⟨w.heap.size, 0, none⟩) 4 4) ∧ w' = w.alloc (.cells #[.string s_must, .string s_must_not, .string s_should, .string s_filter] 9) := by
  go_enter Tryz.func64, Tryz.ntmps64
  go_wp2_with fail
  go_ret
  exact ⟨rfl, rfl⟩
theorem place_cell {w : World} {b : Nat} (h : Box w b #[.string s_must, .string s_must_not, .string s_should, .string s_filter] 9) {p : Nat} (hp : p < 4) : w.cell? ⟨b, p, none⟩ = some (.string (placeName (p : Int))) := by
  match p, hp with
  | 0, _ => exact h.cell 0 _ rfl
  | 1, _ => exact h.cell 1 _ rfl
  | 2, _ => exact h.cell 2 _ rfl
  | 3, _ => exact h.cell 3 _ rfl
/-- Names with trees to which one more is appended. -/
theorem pkn_snoc {w w' : World} {base g cap n : Nat} {v : Value} {es : List (ByteArray × El)} {ps : List (ByteArray × T)} {k : ByteArray} {e : El} {t : T} (hP : Pk (fun b => base ≤ b ∧ v.ownBlock ≠ some b) w es ps) (ht : TreeAt (fun b => base ≤ b ∧ v.ownBlock ≠ some b) w e t)
    (hg : w.grownBy w' v.ownBlock) (hl : Lies w v g) : Pk (fun b => base ≤ b ∧ (Value.slice (some ⟨g, 0, none⟩) n cap).ownBlock ≠ some b) w' (es ++ [(k, e)]) (ps ++ [(k, t)]) := by
  have hk : Keeps (fun b => base ≤ b ∧ v.ownBlock ≠ some b) w w' := keeps_grown hg (fun b hb e => hb.2 e.symm)
  have hS : ∀ b, (base ≤ b ∧ v.ownBlock ≠ some b) → b < w.heap.size → base ≤ b ∧ (Value.slice (some ⟨g, 0, none⟩) n cap).ownBlock ≠ some b := fun b hb hlt => by
    refine ⟨hb.1, fun e => ?_⟩
    simp only [Value.ownBlock, Option.some.injEq] at e
    rcases hl with hl | hl
    · exact hb.2 (by rw [hl, e])
    · omega
  exact Pk.append (hP.keep hS hk) (Pk.one (TreeAt.keep hS hk _ ht))
end Go.Proofs.YtfngaoicoecncaaGreatDoor

namespace Go.Proofs.YtfngaoicoecncaaGreatDoor
open Go.RowKit

theorem post_node {fn : Func} {R : Ending → World → Prop} {a : Act} {w : World} {p : Tmp} {b : Nat} {v0 v1 v2 v3 : Value} {t : TypeId} (hr : fn.results = #[.cell p 41]) (hp : a.tmps.getD p undef = .pointer (some ⟨b, 0, none⟩)) (hb : Box w b #[v0, v1, v2, v3] t) (hd : a.defers = [])
    (hR : R (.returned (.agg #[v0, v1, v2, v3])) w) : bodyPost Tryz.prog fn R .ret a w := by
  have hl : (loadVar 41 ⟨b, 0, none⟩).run Tryz.prog w = .ok (.agg #[v0, v1, v2, v3]) w := by
    have h0 := hb.cell 0 _ rfl
    have h1 := hb.cell 1 _ rfl
    have h2 := hb.cell 2 _ rfl
    have h3 := hb.cell 3 _ rfl
    simp at h0 h1 h2 h3
    simp [go_sem, h0, h1, h2, h3]
  refine bodyPost_ret (v := .agg #[v0, v1, v2, v3]) ?_ hd hR
  simp at hp
  simp [results, hr, hp, asAddr, hl]
theorem boolNode_any (ka : Option Addr) (kn kc : Nat) (pa : Option Addr) (pn pc : Nat) (w : World) : Calls Tryz.prog 15 #[.slice ka kn kc, .slice pa pn pc] w fun r w' => r = .returned (⟨3, ⟨#[]⟩, pa, pn, pc, ka, kn, kc⟩ : Nv).val ∧ Ext w w' := by
  go_enter Tryz.func15, Tryz.ntmps15
  go_wp2_with fail
  refine post_node rfl rfl (Box.at rfl _ _) rfl ⟨rfl, by (repeat (first | exact ext_refl _ | assumption | refine ext_alloc ?_ _ | refine ext_drew ?_ | refine ext_set ?_ (by simp) _ | refine ext_trans ?_ (by assumption)))⟩
theorem ints_get {S : Nat → Prop} {w : World} {a : Option Addr} {n c : Nat} {l : List Int} (h : IntsAt S w a n c l) {i : Nat} {z : Int} (hz : l[i]? = some z) : ∃ b off, a = some ⟨b, off, none⟩ ∧ w.cell? ⟨b, off + i, none⟩ = some (.int .i64 z) := by
  obtain ⟨b, off, e, -, hc⟩ := h.2.2.2 i z hz
  exact ⟨b, off, e, hc⟩
set_option maxRecDepth 20000 in
set_option maxHeartbeats 8000000 in
theorem boolOf_any {S : Nat → Prop} (ka : Option Addr) (kn kc : Nat) (pa : Option Addr) (pn pc : Nat) (ks : List Nd) (ps : List Int) (w : World) (hK : NodesAt S w ka kn kc ks) (hP : IntsAt S w pa pn pc ps) (hl : ps.length = ks.length) (hp : ∀ p ∈ ps, 0 ≤ p ∧ p ≤ 3) (hF : FitNs ks) (hSm : SmallNs 1048576 ks) (hn : kn ≤ 1048576) :
    Calls Tryz.prog 18 #[.slice ka kn kc, .slice pa pn pc] w fun r w' => ∃ a c, r = .returned (.slice a kn c) ∧ PairsAt (fun b => w.heap.size ≤ b) w' a kn c (setsN ps 0 ks) ∧ Ext w w' := by
  have HKS := Lib.hid hK
  have HPS := Lib.hid hP
  have HL := Lib.hid hl
  have HPF := Lib.hid hp
  have HF := Lib.hid ((fitNs_iff _).1 hF)
  have HSM := Lib.hid ((smallNs_iff _ _).1 hSm)
  have hsl := Lib.hid (setsN_len ps ks 0)
  clear hK hP hl hp hF hSm
  go_enter Tryz.func18, Tryz.ntmps18
  go_wp2_with fail
  go_loopw [5, 6] (fun v i wr => Ext w wr ∧ w.heap.size + 1 ≤ wr.heap.size ∧ ∃ (j : Nat) (es : List (ByteArray × El)) (vv : Value), vv = v ∧ j ≤ kn ∧ i = .int .i64 j ∧ es.length = j ∧ OwnSets wr w.heap.size vv es ∧ Pk (fun b => w.heap.size ≤ b ∧ vv.ownBlock ≠ some b) wr es ((setsN ps 0 ks).take j)) (fun _ i _ => kn - (intOf i).toNat)
  case atStart => exact ⟨ext_alloc (ext_refl _) _, by simp, 0, [], _, rfl, Nat.zero_le _, rfl, rfl, ⟨rfl, .inr ⟨w.heap.size, 0, #[], rfl, Nat.le_refl _, Box.at rfl _ _, Nat.le_refl _, by simp [maxLen], rfl, rfl⟩⟩, ⟨rfl, fun _ _ _ h => by simp at h⟩⟩
  case round =>
    obtain ⟨hx, hsz, j, es, vv, hvv, hj, rfl, hel, hO, hPk⟩ := hrel
    subst hvv
    have hvb : ∀ q, vv.ownBlock = some q → w.heap.size ≤ q ∧ q < wr.heap.size := fun q hq => World.ownsRow.lt hO q hq
    have HO := Lib.hid hO
    have HPK := Lib.hid hPk
    have HEL := Lib.hid hel
    clear hO hPk hel
    by_cases hlt : j < kn
    case pos =>
      obtain ⟨r0, hr0⟩ := some_of_lt HKS.out.1 hlt
      obtain ⟨b, off, e, rfl, -, hrc, hra⟩ := HKS.out.get hr0
      obtain ⟨q0, q1, q2, q3⟩ := NCells.ext hx hrc
      have hpj : j < ps.length := by have h1 := HKS.out.1; have h2 := HL.out; omega
      obtain ⟨z, hz⟩ := some_of_lt rfl hpj
      obtain ⟨pb, po, rfl, hcz⟩ := ints_get HPS.out hz
      have hpw : pb < w.heap.size := lt_of_cell hcz
      have hcz := hx.cell hcz
      have hz3 := HPF.out z (List.mem_of_getElem? hz)
      obtain ⟨p, rfl⟩ : ∃ p : Nat, z = (p : Int) := ⟨z.toNat, by omega⟩
      have hp4 : p < 4 := by omega
      have HP4 := Lib.hid hp4
      have hpn : j < pn := by have h1 := HPS.out.1; omega
      have hget := setsN_get ps ks 0 j r0 hr0
      rw [Nat.zero_add, show placeAt ps j = (p : Int) by unfold placeAt; rw [hz]; rfl] at hget
      have HGET := Lib.hid hget
      have hRu := Lib.hid (fun (w1 : World) (x : Ext w w1) => wholeI_any (S := S) e r0 w1 (NodeAt.ext x hra) (HF.out r0 (List.mem_of_getElem? hr0)) (HSM.out r0 (List.mem_of_getElem? hr0)))
      clear hra hr0 hrc hz hz3 hp4 hget hpj
      obtain ⟨rk, rx, rpa, rpn, rpc, rka, rkn, rkc⟩ := e
      simp only [Nv.val] at hRu
      go_upto_region 6 with (first
        | (go_at_call 16; refine (hRu.out _ hx).mono ?_; rintro r w2 ⟨g, rfl, hT2, hx2⟩; simp only [El.val])
        | fail)
      have hx3 : Ext wr (w2.alloc (.cells g.arr 26)) := ext_alloc hx2 _
      have hb7 : Box (w2.alloc (.cells g.arr 26)) w2.heap.size g.arr 26 := Box.at rfl _ _
      have hT3 := Lib.hid ((hT2.ext (ext_alloc (ext_refl w2) (.cells g.arr 26))).to (S' := fun b => w.heap.size ≤ b ∧ vv.ownBlock ≠ some b) (fun b hb _ => by
        have hb : wr.heap.size + 1 ≤ b := hb
        exact ⟨by omega, fun e => by have := hvb b e; omega⟩))
      have hcz3 := hx3.cell hcz
      have hs2 := hx2.sz
      clear hT2 hx2 q0 q1 q2 q3 hcz
      generalize w2.alloc (.cells g.arr 26) = w3 at hb7 hT3 hx3 hcz3 ⊢
      generalize w2.heap.size = b7 at hb7 hs2 ⊢
      have hb7l := hb7.lt
      refine wp_region_order (fun (w' : World) => Six w' b7 g ∧ w'.cell? ⟨pb, po + j, none⟩ = some (.int .i64 p)) [0, 2, 3, 4, 5, 8] [0, 2, 3, 4, 5, 8, 1, 6, 7, 9, 10, 11, 12] (by kernel_rfl) (by kernel_rfl) (fun d _ _ _ _ h => by cases d <;> exact h) (by kernel_rfl) ?_
      have hS : (fun (w' : World) => Six w' b7 g ∧ w'.cell? ⟨pb, po + j, none⟩ = some (.int .i64 p)) w3.drew := ⟨hb7.Six, hcz3⟩
      (apply ord_held rfl rfl (by assumption) rfl; (focus ((intro w' hS'); go_simp; (try with_reducible rfl))); (try simp only [Act.put, List.setIfInBounds_toArray, List.set_cons_zero, List.set_cons_succ]))
      (apply ord_held rfl rfl (by assumption) rfl; (focus ((intro w' hS'); go_simp; (try with_reducible rfl))); (try simp only [Act.put, List.setIfInBounds_toArray, List.set_cons_zero, List.set_cons_succ]))
      (apply ord_held rfl rfl (by assumption) rfl; (focus ((intro w' hS'); go_simp; (try with_reducible rfl))); (try simp only [Act.put, List.setIfInBounds_toArray, List.set_cons_zero, List.set_cons_succ]))
      (apply ord_held rfl rfl (by assumption) rfl; (focus ((intro w' hS'); go_simp; (try with_reducible rfl))); (try simp only [Act.put, List.setIfInBounds_toArray, List.set_cons_zero, List.set_cons_succ]))
      (apply ord_held rfl rfl (by assumption) rfl; (focus ((intro w' hS'); go_simp; (try with_reducible rfl))); (try simp only [Act.put, List.setIfInBounds_toArray, List.set_cons_zero, List.set_cons_succ]))
      (apply ord_held rfl rfl (by assumption) rfl; (focus ((intro w' hS'); go_simp; (try with_reducible rfl))); (try simp only [Act.put, List.setIfInBounds_toArray, List.set_cons_zero, List.set_cons_succ]))
      (apply ord_loud rfl rfl rfl; intro K hK; go_simp)
      refine (placesB_any _).mono ?_
      rintro r w4 ⟨rfl, hw4⟩
      have x4 : Ext w3 w4 := by rw [hw4]; exact ext_alloc (ext_drew (ext_refl _)) _
      have hbP : Box w4 w3.heap.size #[.string s_must, .string s_must_not, .string s_should, .string s_filter] 9 := by rw [hw4]; exact Box.at rfl _ _
      have hcP := place_cell hbP HP4.out
      have hp4 : p < 4 := HP4.out
      have hp5 : (p : Int) < 4 := by omega
      have hS4 : (fun (w' : World) => Six w' b7 g ∧ w'.cell? ⟨pb, po + j, none⟩ = some (.int .i64 p)) w4 := ⟨(hb7.ext x4).Six, x4.cell hcz3⟩
      refine hK _ _ (fun _ => hS4) ?_
      clear hK K hw4 hbP
      (try simp only [Act.put, List.setIfInBounds_toArray, List.set_cons_zero, List.set_cons_succ])
      (apply ord_loud rfl rfl rfl; intro K hK; go_simp)
      refine hK _ _ (fun _ => hS4) ?_
      clear hK K
      (try simp only [Act.put, List.setIfInBounds_toArray, List.set_cons_zero, List.set_cons_succ])
      (apply ord_loud rfl rfl rfl; intro K hK; go_simp)
      refine hK _ _ (fun _ => hS4) ?_
      clear hK K
      (try simp only [Act.put, List.setIfInBounds_toArray, List.set_cons_zero, List.set_cons_succ])
      (apply ord_loud rfl rfl rfl; intro K hK; go_simp)
      refine hK _ _ (fun _ => hS4) ?_
      clear hK K
      (try simp only [Act.put, List.setIfInBounds_toArray, List.set_cons_zero, List.set_cons_succ])
      (apply ord_loud rfl rfl rfl; intro K hK; go_simp)
      have x5 : Ext w3 (w4.alloc (.cells #[.string (placeName (p : Int)), .int .i64 g.k, .string g.x, .float .f64 g.d, .bool g.y, .slice g.ka g.n g.kc, .slice g.ca g.m g.cc] 57)) := ext_alloc x4 _
      have hbp : Box (w4.alloc (.cells #[.string (placeName (p : Int)), .int .i64 g.k, .string g.x, .float .f64 g.d, .bool g.y, .slice g.ka g.n g.kc, .slice g.ca g.m g.cc] 57)) w4.heap.size #[.string (placeName (p : Int)), .int .i64 g.k, .string g.x, .float .f64 g.d, .bool g.y, .slice g.ka g.n g.kc, .slice g.ca g.m g.cc] 57 := Box.at rfl _ _
      have hS5 : (fun (w' : World) => Six w' b7 g ∧ w'.cell? ⟨pb, po + j, none⟩ = some (.int .i64 p)) (w4.alloc (.cells #[.string (placeName (p : Int)), .int .i64 g.k, .string g.x, .float .f64 g.d, .bool g.y, .slice g.ka g.n g.kc, .slice g.ca g.m g.cc] 57)) := ⟨(hb7.ext x5).Six, x5.cell hcz3⟩
      refine hK _ _ (fun _ => hS5) ?_
      clear hK K
      (try simp only [Act.put, List.setIfInBounds_toArray, List.set_cons_zero, List.set_cons_succ])
      have hxw5 := ext_trans hx3 x5
      apply ord_loud rfl rfl rfl
      intro K hK
      refine wp_append_sets _ _ _ rfl w.heap.size vv es rfl (HO.out.ext hxw5) w4.heap.size 0 1 [(placeName (p : Int), g)] (by simp) rfl (fun i q hq => by
        cases i with
        | zero => simp at hq; subst hq; exact ⟨hbp.cell 0 _ rfl, hbp.cell 1 _ rfl, hbp.cell 2 _ rfl, hbp.cell 3 _ rfl, hbp.cell 4 _ rfl, hbp.cell 5 _ rfl, hbp.cell 6 _ rfl⟩
        | succ i => simp at hq) (by have := HEL.out; simp; omega) (by have h1 := hxw5.sz; omega) ?_
      intro g1 cap1 w6 hown hgrow hlies hglt
      have hb76 : Box w6 b7 g.arr 26 := (hb7.ext x5).grown hgrow (fun e => by have := hvb _ e.symm; omega)
      have hcz6 : w6.cell? ⟨pb, po + j, none⟩ = some (.int .i64 p) := hS5.2 |> fun h => hgrow.cell h (fun e => by
        have h1 := hvb _ e.symm
        simp at h1
        omega)
      have hS6 : (fun (w' : World) => Six w' b7 g ∧ w'.cell? ⟨pb, po + j, none⟩ = some (.int .i64 p)) w6 := ⟨hb76.Six, hcz6⟩
      refine hK _ _ (fun _ => hS6) ?_
      clear hK K
      (try simp only [Act.put, List.setIfInBounds_toArray, List.set_cons_zero, List.set_cons_succ])
      (apply ord_last rfl rfl rfl (by kernel_rfl); intro K hK; go_simp; refine hK _ _ ?_; clear hK K; (try simp only [Act.put, List.setIfInBounds_toArray, List.set_cons_zero, List.set_cons_succ]))
      refine ord_end ?_
      have hx6 : Ext w w6 := ext_grown (ext_trans hx hxw5) hgrow (fun k hk => (hvb k hk).1)
      have hPk6 := Lib.hid (pkn_snoc (g := g1) (cap := cap1) (n := es.length + 1) (k := placeName (p : Int)) (Pk.ext hxw5 HPK.out) (hT3.out.ext x5) hgrow hlies)
      have hown6 := Lib.hid hown
      have hsz6 := hgrow.size
      have hs5 := hxw5.sz
      clear hown hgrow hlies hS hS4 hS5 hS6 hcP hbp hb76 hcz6 hp4
      go_wp2_with fail
      go_roundw
      case rel =>
        have hfin : Pk (fun b => w.heap.size ≤ b ∧ (Value.slice (some ⟨g1, 0, none⟩) (es.length + 1) cap1).ownBlock ≠ some b) w6 (es ++ [(placeName (p : Int), g)]) ((setsN ps 0 ks).take (j + 1)) := by
          rw [take_snoc HGET.out]
          exact hPk6.out
        first
          | exact ⟨hx6, by omega, j + 1, es ++ [(placeName (p : Int), g)], _, rfl, by omega, by go_num, by simp [HEL.out], by simpa using hown6.out, by simpa using hfin⟩
          | (repeat apply Exists.intro
             refine And.intro ?_ rfl
             exact ⟨hx6, by omega, j + 1, es ++ [(placeName (p : Int), g)], _, rfl, by omega, by go_num, by simp [HEL.out], by simpa using hown6.out, by simpa using hfin⟩)
      case measure => simp [intOf]; omega
    have hjn : j = kn := by omega
    have hfull : (setsN ps 0 ks).take j = setsN ps 0 ks := List.take_of_length_le (by have h1 := hsl.out; have h2 := HKS.out.1; omega)
    have hPk := HPK.out
    rw [hfull] at hPk
    obtain ⟨a, c, rfl, hPA⟩ := HO.out.sets (S := fun b => w.heap.size ≤ b) hPk.1 (fun b hb => (hvb b hb).1) (fun i e q he hq => ⟨(hPk.2 i e q he hq).1, (hPk.2 i e q he hq).2.to (fun b hb _ => hb.1)⟩)
    have hn1 : (setsN ps 0 ks).length = kn := by have h1 := hsl.out; have h2 := HKS.out.1; omega
    rw [hn1] at hPA ⊢
    clear hPk HO HPK hfull hvb hn1
    go_wp2_with fail
    go_ret
    exact ⟨a, c, rfl, hPA, hx⟩
end Go.Proofs.YtfngaoicoecncaaGreatDoor

namespace Go.Proofs.YtfngaoicoecncaaGreatDoor
open Go.RowKit

set_option maxRecDepth 20000 in
set_option maxHeartbeats 80000000 in
theorem bool_any {S : Nat → Prop} (a : Option Addr) (n c : Nat) (ps : List (ByteArray × T)) (w : World) (hTen : TenAt w) (hC : ClauseP ps) (hM : LeastP ps) (hA : clsAll ps ≤ 2147483647) (h : PairsAt S w a n c ps) :
    Calls Tryz.prog 17 #[.slice a n c] w fun r w' => ∃ g : El, r = .returned (.tuple #[g.val, .bool true]) ∧ TreeAt (fun b => w.heap.size + 1 ≤ b) w' g (treeJ (jMap [(s_bool, jMap (boolJ ps))])) ∧ Ext w w' := by
  obtain ⟨hl, hn, hm, hc⟩ := h
  unfold maxLen at hm
  have HL := Lib.hid hl
  have HTen := Lib.hid hTen
  have HC := Lib.hid hC
  have HM := Lib.hid hM
  clear hl hTen hC hM
  go_enter Tryz.func17, Tryz.ntmps17
  have hxa : Ext w (w.alloc (.cells (El.arr El0) 26)) := ext_alloc (ext_refl _) _
  have hr0 : Box (w.alloc (.cells (El.arr El0) 26)) w.heap.size (El.arr El0) 26 := Box.at rfl _ _
  have hsz1 : (w.alloc (.cells (El.arr El0) 26)).heap.size = w.heap.size + 1 := by simp
  go_wp2_with (first
    | (go_at_call 52; refine (newBool_any _).mono ?_; rintro r w1 ⟨g0, g1, g2, g3, bq, rfl, hBJ, hbl, hgb0, hgb1, hgb2, hgb3, hb1⟩)
    | fail)
  obtain ⟨hx1, k0, k1, k2, k3, d01, d02, d03, d12, d13, d23⟩ := hBJ
  obtain ⟨k0, q0⟩ := k0 rfl
  obtain ⟨k1, q1⟩ := k1 rfl
  obtain ⟨k2, q2⟩ := k2 rfl
  obtain ⟨k3, q3⟩ := k3 rfl
  have d01 := d01 rfl rfl
  have d02 := d02 rfl rfl
  have d03 := d03 rfl rfl
  have d12 := d12 rfl rfl
  have d13 := d13 rfl rfl
  have d23 := d23 rfl rfl
  rw [hsz1] at hbl q0 q1 q2 q3
  have hxs := ext_trans hxa hx1
  have hb0s := hr0.ext hx1
  have hlb1 := hb1.lt
  have hss : bq + 1 ≤ w1.heap.size := hlb1
  have hn0 : ∀ {g : Nat}, g < bq → (Value.slice (some ⟨g, 0, none⟩) 0 0).ownBlock ≠ some bq := fun hg => by simp only [Value.ownBlock]; exact someNe (by omega)
  have hd0 : ∀ {g g' : Nat}, g ≠ g' → Dj (.slice (some ⟨g, 0, none⟩) 0 0) (.slice (some ⟨g', 0, none⟩) 0 0) := fun hg q hq e => by
    simp only [Value.ownBlock, Option.some.injEq] at hq e
    omega
  have hc0 : ∀ {g : Nat}, Box w1 g #[] 82 → w.heap.size + 1 ≤ g → Cl (w.heap.size + 1) w1 (.slice (some ⟨g, 0, none⟩) 0 0) [] := fun {g} hb hg => ⟨[], ⟨rfl, .inr ⟨g, 0, #[], rfl, hg, hb, Nat.le_refl _, by simp [maxLen], rfl, rfl⟩⟩, GivesL.nil _ _⟩
  have hBS0 : BS (w.heap.size + 1) bq w1 (.slice (some ⟨g0, 0, none⟩) 0 0) (.slice (some ⟨g1, 0, none⟩) 0 0) (.slice (some ⟨g2, 0, none⟩) 0 0) (.slice (some ⟨g3, 0, none⟩) 0 0) [] [] [] [] :=
    ⟨⟨hc0 k0 q0, hn0 hgb0⟩, ⟨hc0 k1 q1, hn0 hgb1⟩, ⟨hc0 k2 q2, hn0 hgb2⟩, ⟨hc0 k3 q3, hn0 hgb3⟩, hd0 d01, hd0 d02, hd0 d03, hd0 d12, hd0 d13, hd0 d23⟩
  clear hc0 hd0 hn0 k0 k1 k2 k3 d01 d02 d03 d12 d13 d23 hr0 hsz1
  go_loopw [10] (fun i wr => Ext w wr ∧ bq + 1 ≤ wr.heap.size ∧ Box wr w.heap.size (El.arr El0) 26 ∧ ∃ (j : Nat) (V1 V2 V3 V4 : Value) (v5 : Option Addr) (v6 : ByteArray) (v7 : Option Addr) (v8 : ByteArray), j ≤ n ∧ i = .int .i64 j ∧ Box wr bq #[.nilIface, V1, V2, V3, V4, .pointer v5, .string v6, .pointer v7, .string v8] 133 ∧ BS (w.heap.size + 1) bq wr V1 V2 V3 V4 ((clsOf (ps.take j) s_must).map jFull) ((clsOf (ps.take j) s_must_not).map jFull) ((clsOf (ps.take j) s_filter).map jFull) ((clsOf (ps.take j) s_should).map jFull) ∧ FN (OffB bq V1 V2 V3 V4) wr v5 (lastOf (ps.take j) s_boost) ∧ v6 = fT (leastOf (ps.take j)) ∧ FY (OffB bq V1 V2 V3 V4) wr v7 (lastOf (ps.take j) s_adjust_pure_negative) ∧ v8 = fT (lastOf (ps.take j) s_name)) (fun i _ => n - (intOf i).toNat)
  case atStart => exact ⟨hxs, hss, hb0s, 0, _, _, _, _, none, ⟨#[]⟩, none, ⟨#[]⟩, Nat.zero_le _, rfl, hb1, hBS0, rfl, rfl, rfl, rfl⟩
  case round =>
    obtain ⟨hx, hsz, hb0, j, V1, V2, V3, V4, v5, v6, v7, v8, hj, rfl, hbq, hBS, h5, h6, h7, h8⟩ := hrel
    have HBS := Lib.hid hBS
    have H5 := Lib.hid h5
    have H6 := Lib.hid h6
    have H7 := Lib.hid h7
    have H8 := Lib.hid h8
    clear hBS h5 h6 h7 h8
    have hbql := hbq.lt
    by_cases hlt : j < n
    · obtain ⟨p, hp⟩ := some_of_lt HL.out hlt
      obtain ⟨b, off, ⟨k, x, d, y, ka, kn, kc, ca, m, cc⟩, rfl, hSb, hc7, hT⟩ := hc j p hp
      obtain ⟨z0, z1, z2, z3, z4, z5, z6⟩ := Cells7.ext hx hc7
      have HP := Lib.hid hp
      have hl0 : w.heap.size < wr.heap.size := by omega
      have hl1 : ¬ w.heap.size = wr.heap.size := by omega
      have hl2 : bq < wr.heap.size + 1 := by omega
      have hTx := Lib.hid hT.parts.2.1
      have hTd := Lib.hid hT.parts.2.2.1
      have hTy := Lib.hid hT.parts.2.2.2.1
      have hTe := Lib.hid (TreeAt.keep (S' := fun b => b < w.heap.size) (fun b _ hb => hb) (fun _ _ _ => rfl) _ hT)
      clear hp hT
      have hc0 := hbq.cell 0 _ rfl
      have hf0 := hbq.free 0
      have hc1 := hbq.cell 1 _ rfl
      have hf1 := hbq.free 1
      have hc2 := hbq.cell 2 _ rfl
      have hf2 := hbq.free 2
      have hc3 := hbq.cell 3 _ rfl
      have hf3 := hbq.free 3
      have hc4 := hbq.cell 4 _ rfl
      have hf4 := hbq.free 4
      have hc5 := hbq.cell 5 _ rfl
      have hf5 := hbq.free 5
      have hc6 := hbq.cell 6 _ rfl
      have hf6 := hbq.free 6
      have hc7 := hbq.cell 7 _ rfl
      have hf7 := hbq.free 7
      have hc8 := hbq.cell 8 _ rfl
      have hf8 := hbq.free 8
      cases he0 : p.1.toList == [109, 117, 115, 116]
      · have e0 : seq p.1 s_must = false := by rw [seq, show s_must.toList = [109, 117, 115, 116] by rw [Lib.toList_data]]; exact he0
        cases he1 : p.1.toList == [109, 117, 115, 116, 95, 110, 111, 116]
        · have e1 : seq p.1 s_must_not = false := by rw [seq, show s_must_not.toList = [109, 117, 115, 116, 95, 110, 111, 116] by rw [Lib.toList_data]]; exact he1
          cases he2 : p.1.toList == [115, 104, 111, 117, 108, 100]
          · have e2 : seq p.1 s_should = false := by rw [seq, show s_should.toList = [115, 104, 111, 117, 108, 100] by rw [Lib.toList_data]]; exact he2
            cases he3 : p.1.toList == [102, 105, 108, 116, 101, 114]
            · have e3 : seq p.1 s_filter = false := by rw [seq, show s_filter.toList = [102, 105, 108, 116, 101, 114] by rw [Lib.toList_data]]; exact he3
              cases he4 : p.1.toList == [97, 100, 106, 117, 115, 116, 95, 112, 117, 114, 101, 95, 110, 101, 103, 97, 116, 105, 118, 101]
              · have e4 : seq p.1 s_adjust_pure_negative = false := by rw [seq, show s_adjust_pure_negative.toList = [97, 100, 106, 117, 115, 116, 95, 112, 117, 114, 101, 95, 110, 101, 103, 97, 116, 105, 118, 101] by rw [Lib.toList_data]]; exact he4
                cases he5 : p.1.toList == [98, 111, 111, 115, 116]
                · have e5 : seq p.1 s_boost = false := by rw [seq, show s_boost.toList = [98, 111, 111, 115, 116] by rw [Lib.toList_data]]; exact he5
                  cases he6 : p.1.toList == [109, 105, 110, 105, 109, 117, 109, 95, 115, 104, 111, 117, 108, 100, 95, 109, 97, 116, 99, 104]
                  · have e6 : seq p.1 s_minimum_should_match = false := by rw [seq, show s_minimum_should_match.toList = [109, 105, 110, 105, 109, 117, 109, 95, 115, 104, 111, 117, 108, 100, 95, 109, 97, 116, 99, 104] by rw [Lib.toList_data]]; exact he6
                    cases he7 : p.1.toList == [109, 105, 110, 105, 109, 117, 109, 95, 110, 117, 109, 98, 101, 114, 95, 115, 104, 111, 117, 108, 100, 95, 109, 97, 116, 99, 104]
                    · have e7 : seq p.1 s_minimum_number_should_match = false := by rw [seq, show s_minimum_number_should_match.toList = [109, 105, 110, 105, 109, 117, 109, 95, 110, 117, 109, 98, 101, 114, 95, 115, 104, 111, 117, 108, 100, 95, 109, 97, 116, 99, 104] by rw [Lib.toList_data]]; exact he7
                      cases he8 : p.1.toList == [95, 110, 97, 109, 101]
                      · have e8 : seq p.1 s_name = false := by rw [seq, show s_name.toList = [95, 110, 97, 109, 101] by rw [Lib.toList_data]]; exact he8
                        go_wp2_with go_in
                        go_roundw
                        case rel =>
                          have hy := ext_alloc (ext_refl wr) (.cells #[.string p.1, .int .i64 k, .string x, .float .f64 d, .bool y, .slice ka kn kc, .slice ca m cc] 57)
                          have hBS4 : BS (w.heap.size + 1) bq (wr.alloc (.cells #[.string p.1, .int .i64 k, .string x, .float .f64 d, .bool y, .slice ka kn kc, .slice ca m cc] 57)) V1 V2 V3 V4 ((clsOf (ps.take (j + 1)) s_must).map jFull) ((clsOf (ps.take (j + 1)) s_must_not).map jFull) ((clsOf (ps.take (j + 1)) s_filter).map jFull) ((clsOf (ps.take (j + 1)) s_should).map jFull) := by
                            rw [cls_miss (k := s_must) HP.out e0, cls_miss (k := s_must_not) HP.out e1, cls_miss (k := s_filter) HP.out e3, cls_miss (k := s_should) HP.out e2]
                            exact HBS.out.ext hy
                          exact ⟨ext_trans hx hy, Nat.le_trans hsz hy.sz, hb0.ext hy, j + 1, V1, V2, V3, V4, v5, v6, v7, v8, by omega, by go_num, hbq.ext hy, hBS4, by rw [last_miss HP.out e5]; exact FN.ext hy H5.out, by rw [least_miss HP.out e6 e7]; exact H6.out, by rw [last_miss HP.out e4]; exact FY.ext hy H7.out, by rw [last_miss HP.out e8]; exact H8.out⟩
                        case measure => simp [intOf]; omega
                      · have e8 : seq p.1 s_name = true := by rw [seq, show s_name.toList = [95, 110, 97, 109, 101] by rw [Lib.toList_data]]; exact he8
                        go_wp2_with go_in
                        go_roundw
                        case rel =>
                          have hk : Keeps (fun q => q ≠ bq) wr ((wr.setCell ⟨bq, 8, none⟩ (.string x)).alloc (.cells #[.string p.1, .int .i64 k, .string x, .float .f64 d, .bool y, .slice ka kn kc, .slice ca m cc] 57)) := fun q hq hlt => (Below.heap_alloc _ _ _ (by simpa using hlt)).trans (Below.heap_setCell _ _ _ _ (by simp; omega))
                          have hkO : Keeps (OffB bq V1 V2 V3 V4) wr ((wr.setCell ⟨bq, 8, none⟩ (.string x)).alloc (.cells #[.string p.1, .int .i64 k, .string x, .float .f64 d, .bool y, .slice ka kn kc, .slice ca m cc] 57)) := fun q hq hl => hk q hq.1 hl
                          have hBS4 : BS (w.heap.size + 1) bq ((wr.setCell ⟨bq, 8, none⟩ (.string x)).alloc (.cells #[.string p.1, .int .i64 k, .string x, .float .f64 d, .bool y, .slice ka kn kc, .slice ca m cc] 57)) V1 V2 V3 V4 ((clsOf (ps.take (j + 1)) s_must).map jFull) ((clsOf (ps.take (j + 1)) s_must_not).map jFull) ((clsOf (ps.take (j + 1)) s_filter).map jFull) ((clsOf (ps.take (j + 1)) s_should).map jFull) := by
                            rw [cls_other (k := s_must) HP.out e8 (seq_false.2 (by decide)), cls_other (k := s_must_not) HP.out e8 (seq_false.2 (by decide)), cls_other (k := s_filter) HP.out e8 (seq_false.2 (by decide)), cls_other (k := s_should) HP.out e8 (seq_false.2 (by decide))]
                            exact ((HBS.out.setB (by omega) 8 _).ext (ext_alloc (ext_refl _) _))
                          exact ⟨ext_alloc (ext_set hx (by simp; omega) _) _, by simp; omega, (hb0.other (by simp; omega) _).alloc _, j + 1, V1, V2, V3, V4, v5, v6, v7, x, by omega, by go_num, (hbq.set 8 _).alloc _, hBS4, by rw [last_other HP.out e8 (seq_false.2 (by decide))]; exact FN.keep (fun _ h _ => h) hkO H5.out, by rw [least_other HP.out e8 (seq_false.2 (by decide)) (seq_false.2 (by decide))]; exact H6.out, by rw [last_other HP.out e8 (seq_false.2 (by decide))]; exact FY.keep (fun _ h _ => h) hkO H7.out, by rw [last_hit HP.out e8]; exact hTx.out⟩
                        case measure => simp [intOf]; omega
                    · have e7 : seq p.1 s_minimum_number_should_match = true := by rw [seq, show s_minimum_number_should_match.toList = [109, 105, 110, 105, 109, 117, 109, 95, 110, 117, 109, 98, 101, 114, 95, 115, 104, 111, 117, 108, 100, 95, 109, 97, 116, 99, 104] by rw [Lib.toList_data]]; exact he7
                      obtain ⟨z, hz⟩ := HM.out p (List.mem_of_getElem? HP.out) e7
                      have hcv : ∀ w, (convert 22 3 (.float .f64 d)).run Tryz.prog w = .ok (.int .i64 z) w := fun w => run_convert_float_int w 22 3 .f64 .i64 d z (by rw [Tryz.underlying22]; rfl) Tryz.underlying3 (show floatToIntVal .f64 d .i64 = some z from by have h9 : d = p.2.num := hTd.out; rw [h9]; exact hz)
                      have HI := Lib.hid fun wX (xX : Ext w wX) => Tryz.strconv_Itoa z (int_bounds hz).1 (int_bounds hz).2 wX (HTen.out wX xX)
                      have HZ := Lib.hid hz
                      clear hz
                      have hy : Ext wr (wr.alloc (.cells #[.string p.1, .int .i64 k, .string x, .float .f64 d, .bool y, .slice ka kn kc, .slice ca m cc] 57)) := ext_alloc (ext_refl wr) _
                      go_wp2_with (first
                        | (go_at_call 91; refine (HI.out _ (ext_trans hx hy)).mono ?_; rintro r w2 ⟨rfl, hww⟩
                           have hx2 : Ext (wr.alloc (.cells #[.string p.1, .int .i64 k, .string x, .float .f64 d, .bool y, .slice ka kn kc, .slice ca m cc] 57)) w2 := by obtain ⟨kk, oo, e⟩ := hww; rw [e]; exact Lib.below_grow _ _ (Nat.le_refl _) _ _
                           have hy2 := ext_trans hy hx2
                           have hz2 := hy2.sz
                           clear hww
                           have hb2 := hbq.ext hy2
                           have hb2l := hb2.lt
                           have hd6 := hb2.cell 6 _ rfl
                           have hg6 := hb2.free 6)
                        | go_in
                        | fail)
                      go_roundw
                      case rel =>
                        have hk : Keeps (fun q => q ≠ bq) w2 (w2.setCell ⟨bq, 6, none⟩ (.string ⟨(Lib.itoa z).toArray⟩)) := fun q hq _ => Below.heap_setCell _ _ _ _ hq
                        have hkO : Keeps (OffB bq V1 V2 V3 V4) w2 (w2.setCell ⟨bq, 6, none⟩ (.string ⟨(Lib.itoa z).toArray⟩)) := fun q hq hl => hk q hq.1 hl
                        have hBS4 : BS (w.heap.size + 1) bq (w2.setCell ⟨bq, 6, none⟩ (.string ⟨(Lib.itoa z).toArray⟩)) V1 V2 V3 V4 ((clsOf (ps.take (j + 1)) s_must).map jFull) ((clsOf (ps.take (j + 1)) s_must_not).map jFull) ((clsOf (ps.take (j + 1)) s_filter).map jFull) ((clsOf (ps.take (j + 1)) s_should).map jFull) := by
                          rw [cls_other (k := s_must) HP.out e7 (seq_false.2 (by decide)), cls_other (k := s_must_not) HP.out e7 (seq_false.2 (by decide)), cls_other (k := s_filter) HP.out e7 (seq_false.2 (by decide)), cls_other (k := s_should) HP.out e7 (seq_false.2 (by decide))]
                          exact (HBS.out.ext hy2).setB (by omega) 6 _
                        refine ⟨ext_set (ext_trans hx hy2) (by simp only; omega) _, by simp; omega, (hb0.ext hy2).other (by simp only; omega) _, j + 1, V1, V2, V3, V4, v5, _, v7, v8, by omega, by go_num, hb2.set 6 _, hBS4, by rw [last_other HP.out e7 (seq_false.2 (by decide))]; exact FN.keep (fun _ h _ => h) hkO (FN.ext hy2 H5.out), ?_, by rw [last_other HP.out e7 (seq_false.2 (by decide))]; exact FY.keep (fun _ h _ => h) hkO (FY.ext hy2 H7.out), by rw [last_other HP.out e7 (seq_false.2 (by decide))]; exact H8.out⟩
                        rw [least_num HP.out e7]
                        exact (least_itoa HZ.out).symm
                      case measure => simp [intOf]; omega
                  · have e6 : seq p.1 s_minimum_should_match = true := by rw [seq, show s_minimum_should_match.toList = [109, 105, 110, 105, 109, 117, 109, 95, 115, 104, 111, 117, 108, 100, 95, 109, 97, 116, 99, 104] by rw [Lib.toList_data]]; exact he6
                    go_wp2_with go_in
                    go_roundw
                    case rel =>
                      have hk : Keeps (fun q => q ≠ bq) wr ((wr.setCell ⟨bq, 6, none⟩ (.string x)).alloc (.cells #[.string p.1, .int .i64 k, .string x, .float .f64 d, .bool y, .slice ka kn kc, .slice ca m cc] 57)) := fun q hq hlt => (Below.heap_alloc _ _ _ (by simpa using hlt)).trans (Below.heap_setCell _ _ _ _ (by simp; omega))
                      have hkO : Keeps (OffB bq V1 V2 V3 V4) wr ((wr.setCell ⟨bq, 6, none⟩ (.string x)).alloc (.cells #[.string p.1, .int .i64 k, .string x, .float .f64 d, .bool y, .slice ka kn kc, .slice ca m cc] 57)) := fun q hq hl => hk q hq.1 hl
                      have hBS4 : BS (w.heap.size + 1) bq ((wr.setCell ⟨bq, 6, none⟩ (.string x)).alloc (.cells #[.string p.1, .int .i64 k, .string x, .float .f64 d, .bool y, .slice ka kn kc, .slice ca m cc] 57)) V1 V2 V3 V4 ((clsOf (ps.take (j + 1)) s_must).map jFull) ((clsOf (ps.take (j + 1)) s_must_not).map jFull) ((clsOf (ps.take (j + 1)) s_filter).map jFull) ((clsOf (ps.take (j + 1)) s_should).map jFull) := by
                        rw [cls_other (k := s_must) HP.out e6 (seq_false.2 (by decide)), cls_other (k := s_must_not) HP.out e6 (seq_false.2 (by decide)), cls_other (k := s_filter) HP.out e6 (seq_false.2 (by decide)), cls_other (k := s_should) HP.out e6 (seq_false.2 (by decide))]
                        exact ((HBS.out.setB (by omega) 6 _).ext (ext_alloc (ext_refl _) _))
                      exact ⟨ext_alloc (ext_set hx (by simp; omega) _) _, by simp; omega, (hb0.other (by simp; omega) _).alloc _, j + 1, V1, V2, V3, V4, v5, x, v7, v8, by omega, by go_num, (hbq.set 6 _).alloc _, hBS4, by rw [last_other HP.out e6 (seq_false.2 (by decide))]; exact FN.keep (fun _ h _ => h) hkO H5.out, by rw [least_text HP.out e6]; exact hTx.out, by rw [last_other HP.out e6 (seq_false.2 (by decide))]; exact FY.keep (fun _ h _ => h) hkO H7.out, by rw [last_other HP.out e6 (seq_false.2 (by decide))]; exact H8.out⟩
                    case measure => simp [intOf]; omega
                · have e5 : seq p.1 s_boost = true := by rw [seq, show s_boost.toList = [98, 111, 111, 115, 116] by rw [Lib.toList_data]]; exact he5
                  go_wp2_with go_in
                  go_roundw
                  case rel =>
                    have hk : Keeps (fun q => q ≠ bq) wr (((wr.setCell ⟨bq, 5, none⟩ (.pointer (some ⟨wr.heap.size + 1, 0, none⟩))).alloc (.cells #[.string p.1, .int .i64 k, .string x, .float .f64 d, .bool y, .slice ka kn kc, .slice ca m cc] 57)).alloc (.cells #[.float .f64 d] 22)) := fun q hq hlt => (Below.heap_alloc _ _ _ (by simp; omega)).trans ((Below.heap_alloc _ _ _ (by simpa using hlt)).trans (Below.heap_setCell _ _ _ _ (by simp; omega)))
                    have hnew : (((wr.setCell ⟨bq, 5, none⟩ (.pointer (some ⟨wr.heap.size + 1, 0, none⟩))).alloc (.cells #[.string p.1, .int .i64 k, .string x, .float .f64 d, .bool y, .slice ka kn kc, .slice ca m cc] 57)).alloc (.cells #[.float .f64 d] 22)).cell? ⟨wr.heap.size + 1, 0, none⟩ = some (.float .f64 d) := (Box.at (by simp) _ _).cell 0 _ rfl
                    have hkO : Keeps (OffB bq V1 V2 V3 V4) wr (((wr.setCell ⟨bq, 5, none⟩ (.pointer (some ⟨wr.heap.size + 1, 0, none⟩))).alloc (.cells #[.string p.1, .int .i64 k, .string x, .float .f64 d, .bool y, .slice ka kn kc, .slice ca m cc] 57)).alloc (.cells #[.float .f64 d] 22)) := fun q hq hl => hk q hq.1 hl
                    have hBS4 : BS (w.heap.size + 1) bq (((wr.setCell ⟨bq, 5, none⟩ (.pointer (some ⟨wr.heap.size + 1, 0, none⟩))).alloc (.cells #[.string p.1, .int .i64 k, .string x, .float .f64 d, .bool y, .slice ka kn kc, .slice ca m cc] 57)).alloc (.cells #[.float .f64 d] 22)) V1 V2 V3 V4 ((clsOf (ps.take (j + 1)) s_must).map jFull) ((clsOf (ps.take (j + 1)) s_must_not).map jFull) ((clsOf (ps.take (j + 1)) s_filter).map jFull) ((clsOf (ps.take (j + 1)) s_should).map jFull) := by
                      rw [cls_other (k := s_must) HP.out e5 (seq_false.2 (by decide)), cls_other (k := s_must_not) HP.out e5 (seq_false.2 (by decide)), cls_other (k := s_filter) HP.out e5 (seq_false.2 (by decide)), cls_other (k := s_should) HP.out e5 (seq_false.2 (by decide))]
                      exact ((HBS.out.setB (by omega) 5 _).ext (ext_alloc (ext_alloc (ext_refl _) _) _))
                    exact ⟨ext_alloc (ext_alloc (ext_set hx (by simp; omega) _) _) _, by simp; omega, ((hb0.other (by simp; omega) _).alloc _).alloc _, j + 1, V1, V2, V3, V4, some ⟨wr.heap.size + 1, 0, none⟩, v6, v7, v8, by omega, by go_num, ((hbq.set 5 _).alloc _).alloc _, hBS4, by rw [last_hit HP.out e5]; exact ⟨wr.heap.size + 1, rfl, HBS.out.fresh (by omega) (by omega), by rw [← hTd.out]; exact hnew⟩, by rw [least_other HP.out e5 (seq_false.2 (by decide)) (seq_false.2 (by decide))]; exact H6.out, by rw [last_other HP.out e5 (seq_false.2 (by decide))]; exact FY.keep (fun _ h _ => h) hkO H7.out, by rw [last_other HP.out e5 (seq_false.2 (by decide))]; exact H8.out⟩
                  case measure => simp [intOf]; omega
              · have e4 : seq p.1 s_adjust_pure_negative = true := by rw [seq, show s_adjust_pure_negative.toList = [97, 100, 106, 117, 115, 116, 95, 112, 117, 114, 101, 95, 110, 101, 103, 97, 116, 105, 118, 101] by rw [Lib.toList_data]]; exact he4
                go_wp2_with go_in
                go_roundw
                case rel =>
                  have hk : Keeps (fun q => q ≠ bq) wr (((wr.setCell ⟨bq, 7, none⟩ (.pointer (some ⟨wr.heap.size + 1, 0, none⟩))).alloc (.cells #[.string p.1, .int .i64 k, .string x, .float .f64 d, .bool y, .slice ka kn kc, .slice ca m cc] 57)).alloc (.cells #[.bool y] 4)) := fun q hq hlt => (Below.heap_alloc _ _ _ (by simp; omega)).trans ((Below.heap_alloc _ _ _ (by simpa using hlt)).trans (Below.heap_setCell _ _ _ _ (by simp; omega)))
                  have hnew : (((wr.setCell ⟨bq, 7, none⟩ (.pointer (some ⟨wr.heap.size + 1, 0, none⟩))).alloc (.cells #[.string p.1, .int .i64 k, .string x, .float .f64 d, .bool y, .slice ka kn kc, .slice ca m cc] 57)).alloc (.cells #[.bool y] 4)).cell? ⟨wr.heap.size + 1, 0, none⟩ = some (.bool y) := (Box.at (by simp) _ _).cell 0 _ rfl
                  have hkO : Keeps (OffB bq V1 V2 V3 V4) wr (((wr.setCell ⟨bq, 7, none⟩ (.pointer (some ⟨wr.heap.size + 1, 0, none⟩))).alloc (.cells #[.string p.1, .int .i64 k, .string x, .float .f64 d, .bool y, .slice ka kn kc, .slice ca m cc] 57)).alloc (.cells #[.bool y] 4)) := fun q hq hl => hk q hq.1 hl
                  have hBS4 : BS (w.heap.size + 1) bq (((wr.setCell ⟨bq, 7, none⟩ (.pointer (some ⟨wr.heap.size + 1, 0, none⟩))).alloc (.cells #[.string p.1, .int .i64 k, .string x, .float .f64 d, .bool y, .slice ka kn kc, .slice ca m cc] 57)).alloc (.cells #[.bool y] 4)) V1 V2 V3 V4 ((clsOf (ps.take (j + 1)) s_must).map jFull) ((clsOf (ps.take (j + 1)) s_must_not).map jFull) ((clsOf (ps.take (j + 1)) s_filter).map jFull) ((clsOf (ps.take (j + 1)) s_should).map jFull) := by
                    rw [cls_other (k := s_must) HP.out e4 (seq_false.2 (by decide)), cls_other (k := s_must_not) HP.out e4 (seq_false.2 (by decide)), cls_other (k := s_filter) HP.out e4 (seq_false.2 (by decide)), cls_other (k := s_should) HP.out e4 (seq_false.2 (by decide))]
                    exact ((HBS.out.setB (by omega) 7 _).ext (ext_alloc (ext_alloc (ext_refl _) _) _))
                  exact ⟨ext_alloc (ext_alloc (ext_set hx (by simp; omega) _) _) _, by simp; omega, ((hb0.other (by simp; omega) _).alloc _).alloc _, j + 1, V1, V2, V3, V4, v5, v6, some ⟨wr.heap.size + 1, 0, none⟩, v8, by omega, by go_num, ((hbq.set 7 _).alloc _).alloc _, hBS4, by rw [last_other HP.out e4 (seq_false.2 (by decide))]; exact FN.keep (fun _ h _ => h) hkO H5.out, by rw [least_other HP.out e4 (seq_false.2 (by decide)) (seq_false.2 (by decide))]; exact H6.out, by rw [last_hit HP.out e4]; exact ⟨wr.heap.size + 1, rfl, HBS.out.fresh (by omega) (by omega), by rw [← hTy.out]; exact hnew⟩, by rw [last_other HP.out e4 (seq_false.2 (by decide))]; exact H8.out⟩
                case measure => simp [intOf]; omega
            · have e3 : seq p.1 s_filter = true := by rw [seq, show s_filter.toList = [102, 105, 108, 116, 101, 114] by rw [Lib.toList_data]]; exact he3
              have hCl := HC.out p (List.mem_of_getElem? HP.out) s_filter (by simp) e3
              have hroom := cls_room HP.out e3
              have hy : Ext wr (wr.alloc (.cells #[.string p.1, .int .i64 k, .string x, .float .f64 d, .bool y, .slice ka kn kc, .slice ca m cc] 57)) := ext_alloc (ext_refl wr) _
              have hca := Lib.hid (clauses_any (S := fun b => b < w.heap.size) (⟨k, x, d, y, ka, kn, kc, ca, m, cc⟩ : El) p.2 (wr.alloc (.cells #[.string p.1, .int .i64 k, .string x, .float .f64 d, .bool y, .slice ka kn kc, .slice ca m cc] 57)) (hTe.out.ext (ext_trans hx hy)) hCl.1 (by omega) hCl.2)
              obtain ⟨-, -, ⟨⟨vs, hO, hG⟩, hnv⟩, -⟩ := HBS.out
              have hvl : vs.length = (clsOf (ps.take j) s_filter).length := by rw [hG.1, List.length_map]
              have HO := Lib.hid hO
              have HG := Lib.hid hG
              have HCl := Lib.hid hCl
              clear hO hG hCl
              go_wp2_with (first
                | (go_at_call 54; refine hca.out.mono ?_; rintro r w2 ⟨g, cn, ccap, us, rfl, hcn, hcp, hul, hcell, hGu, hx2⟩
                   subst hcn
                   have hy2 := ext_trans hy hx2
                   have hz2 := hy2.sz
                   have hms := Lib.hid (boolFilter_any (S := fun q => q < w.heap.size + 1) w2 bq (w.heap.size + 1) V3 vs (.nilIface) (V1) (V2) (V4) (.pointer v5) (.string v6) (.pointer v7) (.string v8) _ _ (hbq.ext hy2) (HO.out.ext hy2) (by omega) hnv (fun q hq => ⟨by omega, fun e => by have := (HO.out.block e).1; omega⟩) (HG.out.keep (fun _ h _ => h) (hy2.keeps _) hy2.sz) g _ ccap us hul hcp (by omega) hcell (hGu.keep (S' := fun q => q < w.heap.size + 1) (fun q hq _ => by omega) (fun _ _ _ => rfl) (Nat.le_refl _)))
                   have Hcell := Lib.hid hcell
                   clear hcell hGu hul)
                | (go_at_call 57; refine hms.out.mono ?_; rintro r w3 ⟨rfl, g3, cap3, hO3, hG3, hb3, hL3, hgl, hgb, hsz3, hk3, how3, hx3⟩)
                | fail)
              have hx4 := hx3 w (ext_trans hx hy2) (by omega) (by omega)
              have hb04 : Box w3 w.heap.size (El.arr El0) 26 := by
                have h1 := hb0.ext hy2
                exact (hk3 _ ⟨by omega, fun e => by have := (HO.out.block e).1; omega⟩ h1.lt).trans h1
              have hBS4 : BS (w.heap.size + 1) bq w3 V1 V2 (.slice (some ⟨g3, 0, none⟩) (vs.length + (clT p.2).length) cap3) V4 ((clsOf (ps.take (j + 1)) s_must).map jFull) ((clsOf (ps.take (j + 1)) s_must_not).map jFull) ((clsOf (ps.take (j + 1)) s_filter).map jFull) ((clsOf (ps.take (j + 1)) s_should).map jFull) := by
                rw [cls_other (k := s_must) HP.out e3 (seq_false.2 (by decide)), cls_other (k := s_must_not) HP.out e3 (seq_false.2 (by decide)), cls_hit (k := s_filter) HP.out e3, List.map_append, cls_other (k := s_should) HP.out e3 (seq_false.2 (by decide))]
                exact BS.push3 (HBS.out.ext hy2) (by omega) hO3 hG3 hL3 hgb (fun v2 vs2 h1 h2 h3 => how3 _ v2 vs2 h1 h2 h3) hk3 hsz3
              have hkO : Keeps (OffB bq V1 V2 V3 V4) w2 w3 := fun q hq hl => hk3 q ⟨hq.1, hq.2.2.2.1⟩ hl
              have hF5 : FN (OffB bq V1 V2 (.slice (some ⟨g3, 0, none⟩) (vs.length + (clT p.2).length) cap3) V4) w3 v5 (lastOf (ps.take (j + 1)) s_boost) := by rw [last_other HP.out e3 (seq_false.2 (by decide))]; exact FN.keep (fun q hq hl => OffB.push3 hq hl hL3) hkO (FN.ext hy2 H5.out)
              have hF6 : v6 = fT (leastOf (ps.take (j + 1))) := by rw [least_other HP.out e3 (seq_false.2 (by decide)) (seq_false.2 (by decide))]; exact H6.out
              have hF7 : FY (OffB bq V1 V2 (.slice (some ⟨g3, 0, none⟩) (vs.length + (clT p.2).length) cap3) V4) w3 v7 (lastOf (ps.take (j + 1)) s_adjust_pure_negative) := by rw [last_other HP.out e3 (seq_false.2 (by decide))]; exact FY.keep (fun q hq hl => OffB.push3 hq hl hL3) hkO (FY.ext hy2 H7.out)
              have hF8 : v8 = fT (lastOf (ps.take (j + 1)) s_name) := by rw [last_other HP.out e3 (seq_false.2 (by decide))]; exact H8.out
              have HE := Lib.hid (And.intro hx4 (And.intro hb04 (And.intro hb3 (And.intro hBS4 (And.intro hF5 (And.intro hF6 (And.intro hF7 hF8)))))))
              clear hx4 hb04 hb3 hBS4 hF5 hF6 hF7 hF8 hO3 hG3 hL3 hk3 how3 hx3 hkO
              go_roundw
              case rel =>
                obtain ⟨hx4, hb04, hb3, hBS4, hF5, hF6, hF7, hF8⟩ := HE.out
                exact ⟨hx4, by omega, hb04, j + 1, V1, V2, (.slice (some ⟨g3, 0, none⟩) (vs.length + (clT p.2).length) cap3), V4, v5, v6, v7, v8, by omega, by go_num, hb3, hBS4, hF5, hF6, hF7, hF8⟩
              case measure => simp [intOf]; omega
          · have e2 : seq p.1 s_should = true := by rw [seq, show s_should.toList = [115, 104, 111, 117, 108, 100] by rw [Lib.toList_data]]; exact he2
            have hCl := HC.out p (List.mem_of_getElem? HP.out) s_should (by simp) e2
            have hroom := cls_room HP.out e2
            have hy : Ext wr (wr.alloc (.cells #[.string p.1, .int .i64 k, .string x, .float .f64 d, .bool y, .slice ka kn kc, .slice ca m cc] 57)) := ext_alloc (ext_refl wr) _
            have hca := Lib.hid (clauses_any (S := fun b => b < w.heap.size) (⟨k, x, d, y, ka, kn, kc, ca, m, cc⟩ : El) p.2 (wr.alloc (.cells #[.string p.1, .int .i64 k, .string x, .float .f64 d, .bool y, .slice ka kn kc, .slice ca m cc] 57)) (hTe.out.ext (ext_trans hx hy)) hCl.1 (by omega) hCl.2)
            obtain ⟨-, -, -, ⟨⟨vs, hO, hG⟩, hnv⟩, -⟩ := HBS.out
            have hvl : vs.length = (clsOf (ps.take j) s_should).length := by rw [hG.1, List.length_map]
            have HO := Lib.hid hO
            have HG := Lib.hid hG
            have HCl := Lib.hid hCl
            clear hO hG hCl
            go_wp2_with (first
              | (go_at_call 54; refine hca.out.mono ?_; rintro r w2 ⟨g, cn, ccap, us, rfl, hcn, hcp, hul, hcell, hGu, hx2⟩
                 subst hcn
                 have hy2 := ext_trans hy hx2
                 have hz2 := hy2.sz
                 have hms := Lib.hid (boolShould_any (S := fun q => q < w.heap.size + 1) w2 bq (w.heap.size + 1) V4 vs (.nilIface) (V1) (V2) (V3) (.pointer v5) (.string v6) (.pointer v7) (.string v8) _ _ (hbq.ext hy2) (HO.out.ext hy2) (by omega) hnv (fun q hq => ⟨by omega, fun e => by have := (HO.out.block e).1; omega⟩) (HG.out.keep (fun _ h _ => h) (hy2.keeps _) hy2.sz) g _ ccap us hul hcp (by omega) hcell (hGu.keep (S' := fun q => q < w.heap.size + 1) (fun q hq _ => by omega) (fun _ _ _ => rfl) (Nat.le_refl _)))
                 have Hcell := Lib.hid hcell
                 clear hcell hGu hul)
              | (go_at_call 56; refine hms.out.mono ?_; rintro r w3 ⟨rfl, g3, cap3, hO3, hG3, hb3, hL3, hgl, hgb, hsz3, hk3, how3, hx3⟩)
              | fail)
            have hx4 := hx3 w (ext_trans hx hy2) (by omega) (by omega)
            have hb04 : Box w3 w.heap.size (El.arr El0) 26 := by
              have h1 := hb0.ext hy2
              exact (hk3 _ ⟨by omega, fun e => by have := (HO.out.block e).1; omega⟩ h1.lt).trans h1
            have hBS4 : BS (w.heap.size + 1) bq w3 V1 V2 V3 (.slice (some ⟨g3, 0, none⟩) (vs.length + (clT p.2).length) cap3) ((clsOf (ps.take (j + 1)) s_must).map jFull) ((clsOf (ps.take (j + 1)) s_must_not).map jFull) ((clsOf (ps.take (j + 1)) s_filter).map jFull) ((clsOf (ps.take (j + 1)) s_should).map jFull) := by
              rw [cls_other (k := s_must) HP.out e2 (seq_false.2 (by decide)), cls_other (k := s_must_not) HP.out e2 (seq_false.2 (by decide)), cls_other (k := s_filter) HP.out e2 (seq_false.2 (by decide)), cls_hit (k := s_should) HP.out e2, List.map_append]
              exact BS.push4 (HBS.out.ext hy2) (by omega) hO3 hG3 hL3 hgb (fun v2 vs2 h1 h2 h3 => how3 _ v2 vs2 h1 h2 h3) hk3 hsz3
            have hkO : Keeps (OffB bq V1 V2 V3 V4) w2 w3 := fun q hq hl => hk3 q ⟨hq.1, hq.2.2.2.2⟩ hl
            have hF5 : FN (OffB bq V1 V2 V3 (.slice (some ⟨g3, 0, none⟩) (vs.length + (clT p.2).length) cap3)) w3 v5 (lastOf (ps.take (j + 1)) s_boost) := by rw [last_other HP.out e2 (seq_false.2 (by decide))]; exact FN.keep (fun q hq hl => OffB.push4 hq hl hL3) hkO (FN.ext hy2 H5.out)
            have hF6 : v6 = fT (leastOf (ps.take (j + 1))) := by rw [least_other HP.out e2 (seq_false.2 (by decide)) (seq_false.2 (by decide))]; exact H6.out
            have hF7 : FY (OffB bq V1 V2 V3 (.slice (some ⟨g3, 0, none⟩) (vs.length + (clT p.2).length) cap3)) w3 v7 (lastOf (ps.take (j + 1)) s_adjust_pure_negative) := by rw [last_other HP.out e2 (seq_false.2 (by decide))]; exact FY.keep (fun q hq hl => OffB.push4 hq hl hL3) hkO (FY.ext hy2 H7.out)
            have hF8 : v8 = fT (lastOf (ps.take (j + 1)) s_name) := by rw [last_other HP.out e2 (seq_false.2 (by decide))]; exact H8.out
            have HE := Lib.hid (And.intro hx4 (And.intro hb04 (And.intro hb3 (And.intro hBS4 (And.intro hF5 (And.intro hF6 (And.intro hF7 hF8)))))))
            clear hx4 hb04 hb3 hBS4 hF5 hF6 hF7 hF8 hO3 hG3 hL3 hk3 how3 hx3 hkO
            go_roundw
            case rel =>
              obtain ⟨hx4, hb04, hb3, hBS4, hF5, hF6, hF7, hF8⟩ := HE.out
              exact ⟨hx4, by omega, hb04, j + 1, V1, V2, V3, (.slice (some ⟨g3, 0, none⟩) (vs.length + (clT p.2).length) cap3), v5, v6, v7, v8, by omega, by go_num, hb3, hBS4, hF5, hF6, hF7, hF8⟩
            case measure => simp [intOf]; omega
        · have e1 : seq p.1 s_must_not = true := by rw [seq, show s_must_not.toList = [109, 117, 115, 116, 95, 110, 111, 116] by rw [Lib.toList_data]]; exact he1
          have hCl := HC.out p (List.mem_of_getElem? HP.out) s_must_not (by simp) e1
          have hroom := cls_room HP.out e1
          have hy : Ext wr (wr.alloc (.cells #[.string p.1, .int .i64 k, .string x, .float .f64 d, .bool y, .slice ka kn kc, .slice ca m cc] 57)) := ext_alloc (ext_refl wr) _
          have hca := Lib.hid (clauses_any (S := fun b => b < w.heap.size) (⟨k, x, d, y, ka, kn, kc, ca, m, cc⟩ : El) p.2 (wr.alloc (.cells #[.string p.1, .int .i64 k, .string x, .float .f64 d, .bool y, .slice ka kn kc, .slice ca m cc] 57)) (hTe.out.ext (ext_trans hx hy)) hCl.1 (by omega) hCl.2)
          obtain ⟨-, ⟨⟨vs, hO, hG⟩, hnv⟩, -⟩ := HBS.out
          have hvl : vs.length = (clsOf (ps.take j) s_must_not).length := by rw [hG.1, List.length_map]
          have HO := Lib.hid hO
          have HG := Lib.hid hG
          have HCl := Lib.hid hCl
          clear hO hG hCl
          go_wp2_with (first
            | (go_at_call 54; refine hca.out.mono ?_; rintro r w2 ⟨g, cn, ccap, us, rfl, hcn, hcp, hul, hcell, hGu, hx2⟩
               subst hcn
               have hy2 := ext_trans hy hx2
               have hz2 := hy2.sz
               have hms := Lib.hid (boolMustNot_any (S := fun q => q < w.heap.size + 1) w2 bq (w.heap.size + 1) V2 vs (.nilIface) (V1) (V3) (V4) (.pointer v5) (.string v6) (.pointer v7) (.string v8) _ _ (hbq.ext hy2) (HO.out.ext hy2) (by omega) hnv (fun q hq => ⟨by omega, fun e => by have := (HO.out.block e).1; omega⟩) (HG.out.keep (fun _ h _ => h) (hy2.keeps _) hy2.sz) g _ ccap us hul hcp (by omega) hcell (hGu.keep (S' := fun q => q < w.heap.size + 1) (fun q hq _ => by omega) (fun _ _ _ => rfl) (Nat.le_refl _)))
               have Hcell := Lib.hid hcell
               clear hcell hGu hul)
            | (go_at_call 55; refine hms.out.mono ?_; rintro r w3 ⟨rfl, g3, cap3, hO3, hG3, hb3, hL3, hgl, hgb, hsz3, hk3, how3, hx3⟩)
            | fail)
          have hx4 := hx3 w (ext_trans hx hy2) (by omega) (by omega)
          have hb04 : Box w3 w.heap.size (El.arr El0) 26 := by
            have h1 := hb0.ext hy2
            exact (hk3 _ ⟨by omega, fun e => by have := (HO.out.block e).1; omega⟩ h1.lt).trans h1
          have hBS4 : BS (w.heap.size + 1) bq w3 V1 (.slice (some ⟨g3, 0, none⟩) (vs.length + (clT p.2).length) cap3) V3 V4 ((clsOf (ps.take (j + 1)) s_must).map jFull) ((clsOf (ps.take (j + 1)) s_must_not).map jFull) ((clsOf (ps.take (j + 1)) s_filter).map jFull) ((clsOf (ps.take (j + 1)) s_should).map jFull) := by
            rw [cls_other (k := s_must) HP.out e1 (seq_false.2 (by decide)), cls_hit (k := s_must_not) HP.out e1, List.map_append, cls_other (k := s_filter) HP.out e1 (seq_false.2 (by decide)), cls_other (k := s_should) HP.out e1 (seq_false.2 (by decide))]
            exact BS.push2 (HBS.out.ext hy2) (by omega) hO3 hG3 hL3 hgb (fun v2 vs2 h1 h2 h3 => how3 _ v2 vs2 h1 h2 h3) hk3 hsz3
          have hkO : Keeps (OffB bq V1 V2 V3 V4) w2 w3 := fun q hq hl => hk3 q ⟨hq.1, hq.2.2.1⟩ hl
          have hF5 : FN (OffB bq V1 (.slice (some ⟨g3, 0, none⟩) (vs.length + (clT p.2).length) cap3) V3 V4) w3 v5 (lastOf (ps.take (j + 1)) s_boost) := by rw [last_other HP.out e1 (seq_false.2 (by decide))]; exact FN.keep (fun q hq hl => OffB.push2 hq hl hL3) hkO (FN.ext hy2 H5.out)
          have hF6 : v6 = fT (leastOf (ps.take (j + 1))) := by rw [least_other HP.out e1 (seq_false.2 (by decide)) (seq_false.2 (by decide))]; exact H6.out
          have hF7 : FY (OffB bq V1 (.slice (some ⟨g3, 0, none⟩) (vs.length + (clT p.2).length) cap3) V3 V4) w3 v7 (lastOf (ps.take (j + 1)) s_adjust_pure_negative) := by rw [last_other HP.out e1 (seq_false.2 (by decide))]; exact FY.keep (fun q hq hl => OffB.push2 hq hl hL3) hkO (FY.ext hy2 H7.out)
          have hF8 : v8 = fT (lastOf (ps.take (j + 1)) s_name) := by rw [last_other HP.out e1 (seq_false.2 (by decide))]; exact H8.out
          have HE := Lib.hid (And.intro hx4 (And.intro hb04 (And.intro hb3 (And.intro hBS4 (And.intro hF5 (And.intro hF6 (And.intro hF7 hF8)))))))
          clear hx4 hb04 hb3 hBS4 hF5 hF6 hF7 hF8 hO3 hG3 hL3 hk3 how3 hx3 hkO
          go_roundw
          case rel =>
            obtain ⟨hx4, hb04, hb3, hBS4, hF5, hF6, hF7, hF8⟩ := HE.out
            exact ⟨hx4, by omega, hb04, j + 1, V1, (.slice (some ⟨g3, 0, none⟩) (vs.length + (clT p.2).length) cap3), V3, V4, v5, v6, v7, v8, by omega, by go_num, hb3, hBS4, hF5, hF6, hF7, hF8⟩
          case measure => simp [intOf]; omega
      · have e0 : seq p.1 s_must = true := by rw [seq, show s_must.toList = [109, 117, 115, 116] by rw [Lib.toList_data]]; exact he0
        have hCl := HC.out p (List.mem_of_getElem? HP.out) s_must (by simp) e0
        have hroom := cls_room HP.out e0
        have hy : Ext wr (wr.alloc (.cells #[.string p.1, .int .i64 k, .string x, .float .f64 d, .bool y, .slice ka kn kc, .slice ca m cc] 57)) := ext_alloc (ext_refl wr) _
        have hca := Lib.hid (clauses_any (S := fun b => b < w.heap.size) (⟨k, x, d, y, ka, kn, kc, ca, m, cc⟩ : El) p.2 (wr.alloc (.cells #[.string p.1, .int .i64 k, .string x, .float .f64 d, .bool y, .slice ka kn kc, .slice ca m cc] 57)) (hTe.out.ext (ext_trans hx hy)) hCl.1 (by omega) hCl.2)
        obtain ⟨⟨⟨vs, hO, hG⟩, hnv⟩, -⟩ := HBS.out
        have hvl : vs.length = (clsOf (ps.take j) s_must).length := by rw [hG.1, List.length_map]
        have HO := Lib.hid hO
        have HG := Lib.hid hG
        have HCl := Lib.hid hCl
        clear hO hG hCl
        go_wp2_with (first
          | (go_at_call 54; refine hca.out.mono ?_; rintro r w2 ⟨g, cn, ccap, us, rfl, hcn, hcp, hul, hcell, hGu, hx2⟩
             subst hcn
             have hy2 := ext_trans hy hx2
             have hz2 := hy2.sz
             have hms := Lib.hid (boolMust_any (S := fun q => q < w.heap.size + 1) w2 bq (w.heap.size + 1) V1 vs (.nilIface) (V2) (V3) (V4) (.pointer v5) (.string v6) (.pointer v7) (.string v8) _ _ (hbq.ext hy2) (HO.out.ext hy2) (by omega) hnv (fun q hq => ⟨by omega, fun e => by have := (HO.out.block e).1; omega⟩) (HG.out.keep (fun _ h _ => h) (hy2.keeps _) hy2.sz) g _ ccap us hul hcp (by omega) hcell (hGu.keep (S' := fun q => q < w.heap.size + 1) (fun q hq _ => by omega) (fun _ _ _ => rfl) (Nat.le_refl _)))
             have Hcell := Lib.hid hcell
             clear hcell hGu hul)
          | (go_at_call 53; refine hms.out.mono ?_; rintro r w3 ⟨rfl, g3, cap3, hO3, hG3, hb3, hL3, hgl, hgb, hsz3, hk3, how3, hx3⟩)
          | fail)
        have hx4 := hx3 w (ext_trans hx hy2) (by omega) (by omega)
        have hb04 : Box w3 w.heap.size (El.arr El0) 26 := by
          have h1 := hb0.ext hy2
          exact (hk3 _ ⟨by omega, fun e => by have := (HO.out.block e).1; omega⟩ h1.lt).trans h1
        have hBS4 : BS (w.heap.size + 1) bq w3 (.slice (some ⟨g3, 0, none⟩) (vs.length + (clT p.2).length) cap3) V2 V3 V4 ((clsOf (ps.take (j + 1)) s_must).map jFull) ((clsOf (ps.take (j + 1)) s_must_not).map jFull) ((clsOf (ps.take (j + 1)) s_filter).map jFull) ((clsOf (ps.take (j + 1)) s_should).map jFull) := by
          rw [cls_hit (k := s_must) HP.out e0, List.map_append, cls_other (k := s_must_not) HP.out e0 (seq_false.2 (by decide)), cls_other (k := s_filter) HP.out e0 (seq_false.2 (by decide)), cls_other (k := s_should) HP.out e0 (seq_false.2 (by decide))]
          exact BS.push1 (HBS.out.ext hy2) (by omega) hO3 hG3 hL3 hgb (fun v2 vs2 h1 h2 h3 => how3 _ v2 vs2 h1 h2 h3) hk3 hsz3
        have hkO : Keeps (OffB bq V1 V2 V3 V4) w2 w3 := fun q hq hl => hk3 q ⟨hq.1, hq.2.1⟩ hl
        have hF5 : FN (OffB bq (.slice (some ⟨g3, 0, none⟩) (vs.length + (clT p.2).length) cap3) V2 V3 V4) w3 v5 (lastOf (ps.take (j + 1)) s_boost) := by rw [last_other HP.out e0 (seq_false.2 (by decide))]; exact FN.keep (fun q hq hl => OffB.push1 hq hl hL3) hkO (FN.ext hy2 H5.out)
        have hF6 : v6 = fT (leastOf (ps.take (j + 1))) := by rw [least_other HP.out e0 (seq_false.2 (by decide)) (seq_false.2 (by decide))]; exact H6.out
        have hF7 : FY (OffB bq (.slice (some ⟨g3, 0, none⟩) (vs.length + (clT p.2).length) cap3) V2 V3 V4) w3 v7 (lastOf (ps.take (j + 1)) s_adjust_pure_negative) := by rw [last_other HP.out e0 (seq_false.2 (by decide))]; exact FY.keep (fun q hq hl => OffB.push1 hq hl hL3) hkO (FY.ext hy2 H7.out)
        have hF8 : v8 = fT (lastOf (ps.take (j + 1)) s_name) := by rw [last_other HP.out e0 (seq_false.2 (by decide))]; exact H8.out
        have HE := Lib.hid (And.intro hx4 (And.intro hb04 (And.intro hb3 (And.intro hBS4 (And.intro hF5 (And.intro hF6 (And.intro hF7 hF8)))))))
        clear hx4 hb04 hb3 hBS4 hF5 hF6 hF7 hF8 hO3 hG3 hL3 hk3 how3 hx3 hkO
        go_roundw
        case rel =>
          obtain ⟨hx4, hb04, hb3, hBS4, hF5, hF6, hF7, hF8⟩ := HE.out
          exact ⟨hx4, by omega, hb04, j + 1, (.slice (some ⟨g3, 0, none⟩) (vs.length + (clT p.2).length) cap3), V2, V3, V4, v5, v6, v7, v8, by omega, by go_num, hb3, hBS4, hF5, hF6, hF7, hF8⟩
        case measure => simp [intOf]; omega
    · have hjn : j = n := by omega
      have hfull : ps.take j = ps := List.take_of_length_le (by have := HL.out; omega)
      rw [hfull] at HBS H5 H6 H7 H8
      obtain ⟨⟨a1, m1, c1, rfl, hm1, hq1⟩, ⟨a2, m2, c2, rfl, hm2, hq2⟩, ⟨a3, m3, c3, rfl, hm3, hq3⟩, ⟨a4, m4, c4, rfl, hm4, hq4⟩⟩ := HBS.out.qs (by omega)
      rw [List.length_map] at hm1 hm2 hm3 hm4
      have hn1 := clsOf_len ps s_must
      have hn2 := clsOf_len ps s_must_not
      have hn3 := clsOf_len ps s_filter
      have hn4 := clsOf_len ps s_should
      have hS := Lib.hid (bool_src (S := fun q => q ≠ bq) wr bq a1 m1 c1 _ hq1 (by omega) a2 m2 c2 _ hq2 (by omega) a3 m3 c3 _ hq3 (by omega) a4 m4 c4 _ hq4 (by omega) v5 _ (FN.keep (fun q hq _ => hq.1) (fun _ _ _ => rfl) H5.out) v6 _ H6.out v7 _ (FY.keep (fun q hq _ => hq.1) (fun _ _ _ => rfl) H7.out) v8 _ H8.out hbq)
      clear hq1 hq2 hq3 hq4
      go_wp2_with (first
        | (go_at_call 63; refine hS.out.mono ?_; rintro r w2 ⟨v, rfl, hJ, hx2⟩)
        | (go_at_call 38; refine (told_any v _ _ hJ).mono ?_; rintro r w3 ⟨e2, rfl, hT3, hx3⟩; simp only [El.val]
           have hb := (hb0.ext hx2).ext hx3; obtain ⟨o0, o1, o2, o3, o4, o5⟩ := hb.six; have f0 := hb.free 0; have f1 := hb.free 1; have f2 := hb.free 2; have f3 := hb.free 3; have f4 := hb.free 4; have f5 := hb.free 5))
      have hx4 := ext_trans hx (ext_trans hx2 hx3)
      have hs2 := hx2.sz
      refine post_tree2 rfl rfl (hb.sto e2) rfl ⟨e2, rfl, ?_, ext_sto6 hx4 (by omega) _ _ _ _ _ _⟩
      have hfin := TreeAt.keep (S := fun b => w2.heap.size ≤ b) (S' := fun b => w.heap.size + 1 ≤ b) (fun b hb _ => by omega) (keeps_sto (b := w.heap.size) w3 (by omega) e2) _ hT3
      exact hfin
end Go.Proofs.YtfngaoicoecncaaGreatDoor

namespace Go.Proofs.YtfngaoicoecncaaGreatDoor
open Go.RowKit

theorem setsN_all (ps : List Int) : ∀ (l : List Nd) (i : Nat), clsAll (setsN ps i l) = l.length
  | [], _ => rfl
  | r :: l, i => by
    have ih := setsN_all ps l (i + 1)
    have e : clsAll (setsN ps i (r :: l)) = (clT (treeJ (jNode r))).length + clsAll (setsN ps (i + 1) l) := rfl
    rw [e, ih, cl_node]
    simp
    omega
theorem setsN_clauses {ps : List Int} {ks : List Nd} (hF : FitNs ks) (hS : SmallNs 1048576 ks) : ClauseP (setsN ps 0 ks) := fun p hp k _ _ => by
  obtain ⟨r, hr, h2, -⟩ := setsN_mem hp
  rw [h2, cl_node]
  refine ⟨fun t ht => ?_, by simp⟩
  simp only [List.mem_singleton] at ht
  subst ht
  exact (good_node r ((fitNs_iff _).1 hF r hr) ((smallNs_iff _ _).1 hS r hr)).2.2
theorem setsN_least {ps : List Int} {ks : List Nd} : LeastP (setsN ps 0 ks) := fun p hp h => by
  obtain ⟨r, -, -, z, hz⟩ := setsN_mem hp
  rw [hz] at h
  exact absurd (seq_iff.1 h) (place_ne (by decide) z)
set_option maxRecDepth 20000 in
set_option maxHeartbeats 8000000 in
theorem wholeMade_law {S : Nat → Prop} (ka : Option Addr) (kn kc : Nat) (pa : Option Addr) (pn pc : Nat) (ks : List Nd) (ps : List Int) (w : World) (hK : NodesAt S w ka kn kc ks) (hP : IntsAt S w pa pn pc ps) (hSm : SmallNs 1048576 ks) (hkl : ks.length ≤ 1048576) (hpl : ps.length ≤ 1048576) (hTen : TenAt w) :
    Calls Tryz.prog 4 #[.slice ka kn kc, .slice pa pn pc] w fun r w' => r = .returned (.bool true) ∧ Ext w w' := by
  have hkn : kn ≤ 1048576 := by have := hK.1; omega
  have hpn : pn ≤ 1048576 := by have := hP.1; omega
  have HS := Lib.hid hSm
  have HKL := Lib.hid hkl
  have HPL := Lib.hid hpl
  have HTen := Lib.hid hTen
  by_cases hpk : pn = kn
  case neg =>
    clear hK hP hSm hTen hkl hpl
    have hne : ((pn : Int) == (kn : Int)) = false := beq_eq_false_iff_ne.2 (by omega)
    go_enter Tryz.func4, Tryz.ntmps4
    go_wp2_with fail
    go_ret
    exact ⟨rfl, ext_refl _⟩
  subst hpk
  have hlen : ps.length = ks.length := by have h1 := hK.1; have h2 := hP.1; omega
  have HLEN := Lib.hid hlen
  have HKS := Lib.hid fun w' (x : Ext w w') => hK.ext x
  have HPS := Lib.hid fun w' (x : Ext w w') => hP.ext x
  have hsm : SmallN 1048576 (.mk 3 ⟨#[]⟩ ps ks) := by
    simp only [SmallN]
    exact ⟨by decide, hpl, hkl, hSm⟩
  have HSN := Lib.hid hsm
  have hNA := Lib.hid fun w' (x : Ext w w') => (NodeAt.of (e := (⟨3, ⟨#[]⟩, pa, pn, pc, ka, pn, kc⟩ : Nv)) (k := 3) (x := ⟨#[]⟩) rfl rfl (hP.ext x) (hK.ext x) : NodeAt S w' _ (.mk 3 ⟨#[]⟩ ps ks))
  have hFt := Lib.hid fun w' (x : Ext w w') => nfit_at 8 (by decide) (.mk 3 ⟨#[]⟩ ps ks) HSN.out S _ w' (hNA.out w' x)
  clear hK hP hSm hTen hkl hpl hlen hsm
  simp only [Nv.val] at hFt
  go_enter Tryz.func4, Tryz.ntmps4
  have tok1 := trivial
  go_wp2_with (first
    | (go_at_call 15; have _t := tok1; clear _t tok1; refine (boolNode_any ka pn kc pa pn pc _).mono ?_; rintro r w1 ⟨rfl, hx1⟩; simp only [Nv.val])
    | (go_at_call 14; refine (hFt.out _ hx1).mono ?_; rintro r w2 ⟨bf, rfl, hf, hx2⟩
       have HF := Lib.hid hf
       clear hf
       have hxw := ext_trans hx1 hx2
       cases bf)
    | (go_at_call 15; refine (boolNode_any ka pn kc pa pn pc _).mono ?_; rintro r w3 ⟨rfl, hx3⟩
       have hxw3 := ext_trans hxw hx3
       have hfit := HF.out (by trivial)
       have HI := Lib.hid (wholeI_any (⟨3, ⟨#[]⟩, pa, pn, pc, ka, pn, kc⟩ : Nv) (.mk 3 ⟨#[]⟩ ps ks) w3 (hNA.out w3 hxw3) hfit HSN.out)
       simp only [Nv.val] at HI
       simp only [Nv.val]
       have HFit := Lib.hid hfit
       clear hfit)
    | (go_at_call 16; refine HI.out.mono ?_; rintro r w4 ⟨g1, rfl, hT1, hx4⟩; simp only [El.val]
       have hxw4 := ext_trans hxw3 hx4
       have hx5 : Ext w (w4.alloc (.cells g1.arr 26)) := ext_alloc hxw4 _
       have hb1 : Box (w4.alloc (.cells g1.arr 26)) w4.heap.size g1.arr 26 := Box.at rfl _ _
       have hT1' := Lib.hid (hT1.ext (ext_alloc (ext_refl w4) (.cells g1.arr 26)))
       have hfit := HFit.out
       simp only [FitN] at hfit
       have HBO := Lib.hid (boolOf_any ka pn kc pa pn pc ks ps _ (HKS.out _ hx5) (HPS.out _ hx5) HLEN.out hfit.2.2.1 hfit.2.2.2 HS.out hkn)
       have HFS := Lib.hid hfit.2.2.2
       clear hT1 hfit)
    | (go_at_call 18; refine HBO.out.mono ?_; rintro r w6 ⟨sa, sc, rfl, hPA, hx6⟩
       have hxw6 := ext_trans hx5 hx6
       have HB := Lib.hid (bool_any sa pn sc (setsN ps 0 ks) w6 (HTen.out.ext hxw6) (setsN_clauses HFS.out HS.out) setsN_least (by rw [setsN_all]; have := HKL.out; omega) hPA)
       clear hPA)
    | (go_at_call 17; refine HB.out.mono ?_; rintro r w7 ⟨g2, rfl, hT2, hx7⟩; simp only [El.val]
       have hx8 : Ext w6 (w7.alloc (.cells g2.arr 26)) := ext_alloc hx7 _
       have hb2 : Box (w7.alloc (.cells g2.arr 26)) w7.heap.size g2.arr 26 := Box.at rfl _ _
       have hb3 := (hb1.ext hx6).ext hx8
       have hT2' := hT2.ext (ext_alloc (ext_refl w7) (.cells g2.arr 26))
       obtain ⟨o0, o1, o2, o3, o4, o5⟩ := hb2.six
       obtain ⟨s0, s1, s2, s3, s4, s5⟩ := hb3.six
       have hSame := Lib.hid (same_any (S := fun _ => True) _ _ g1 g2 _ ((TreeAt.ext hx8 (TreeAt.ext hx6 hT1'.out)).any) hT2'.any)
       have hxw8 := ext_trans hxw6 hx8
       have hfin : sameT (treeJ (jNode (.mk 3 ⟨#[]⟩ ps ks))) (treeJ (jMap [(s_bool, jMap (boolJ (setsN ps 0 ks)))])) = true := by
         rw [made_same HFit.out HSN.out]
         exact sameT_self _ (good_node _ HFit.out HSN.out).2.1
       have HFIN := Lib.hid hfin
       clear hT2 hT2' hfin)
    | (go_at_call 11; refine hSame.out.mono ?_; rintro r w9 ⟨rfl, hx9⟩; rw [HFIN.out])
    | fail)
  all_goals (go_ret; first | exact ⟨rfl, ext_trans hxw8 hx9⟩ | exact ⟨rfl, hxw⟩)
end Go.Proofs.YtfngaoicoecncaaGreatDoor

namespace Go.Proofs.YtfngaoicoecncaaGreatDoor
open Go.ChangeShapes Go.WideShapes Go.ChangeAt Go.RowKit

section
variable {H : Type} {enc : TypeId × Value → H} {w : World} {base : Nat} {spare : Nat → Bool} {held : Bool}
theorem cells_ints : Tryz.prog.cellsOf 38 = 1 := by kernel_rfl
theorem cells_nodes : Tryz.prog.cellsOf 37 = 1 := by kernel_rfl
theorem cells_node : Tryz.prog.cellsOf 41 = 4 := by kernel_rfl
theorem ints_none (w : World) : IntsAt (fun _ => True) w none 0 0 [] := ⟨rfl, Nat.le_refl _, by simp [maxLen], fun _ _ h => by simp at h⟩
theorem nodes_none (w : World) : NodesAt (fun _ => True) w none 0 0 [] := ⟨rfl, Nat.le_refl _, by simp [maxLen], by simp [RowN]⟩
theorem ints_small {fuel : Nat} {cs : List Value} {x : DataW H × List MemPlace} (h : DataW.trod enc Tryz.prog w base spare held fuel 38 cs = some x) :
    ∃ a n c l, cs = [.slice a n c] ∧ IntsAt (fun _ => True) w a n c l ∧ l.length ≤ Rows.uptoBulk x.1 := by
  rcases DataW.trod_slice Tryz.underlying38 h with ⟨rfl, -⟩ | ⟨a, len, cap, elems, rest, n, -, rfl, hxx, -, hl, hm, hlen, hel, -, -⟩
  · exact ⟨none, 0, 0, [], rfl, ints_none w, Nat.zero_le _⟩
  · rw [cells_int] at hel
    obtain ⟨ss, h1, h2⟩ := choose_list (fun i (z : Int) => w.cell? (a.add i) = some (.int .i64 z)) len fun i hi => by
      have h1 := hel i hi
      obtain ⟨y, hy⟩ := some_of_lt hlen hi
      rw [hy, Option.bind_eq_some_iff] at h1
      obtain ⟨cs', hc, ht⟩ := h1
      obtain ⟨-, -, hat⟩ := World.cells?_some hc
      obtain ⟨z, rfl, -, -⟩ := DataW.trod_int Tryz.underlying3 ht
      have := hat 0 (by omega)
      exact ⟨z, by simpa [Addr.add_add] using this⟩
    refine ⟨some a, len, cap, ss, rfl, ⟨h1, hl, hm, fun i s hi => ?_⟩, ?_⟩
    rotate_left
    · have h5 := bulk_len (List.map (fun x => x.fst) elems)
      rw [List.length_map] at h5
      subst hxx
      simp only [Rows.uptoBulk]
      omega
    have hc := h2 i s hi
    have h0 : a = ⟨a.block, a.off, none⟩ := by
      obtain ⟨s0, hs0⟩ := some_of_lt h1 (show 0 < len by have := (List.getElem?_eq_some_iff.1 hi).1; omega)
      exact spot_none (by simpa [Addr.add] using h2 0 s0 hs0)
    rw [h0, Addr.add_lit] at hc
    exact ⟨a.block, a.off, by rw [← h0], trivial, hc⟩
/-- A list of nodes, if each node is as told. -/
theorem nodes_of {n0 : Nat} {x3 : DataW H × List MemPlace} {c3 : Value} (ih : ∀ m, m < n0 → ∀ (cs : List Value) (x : DataW H × List MemPlace), DataW.trod enc Tryz.prog w base spare held m 41 cs = some x → ∃ (e : Nv) (r : Nd), cs = e.cells ∧ NodeAt (fun _ => True) w e r ∧ SmallN (Rows.uptoBulk x.1) r)
    (f3 : DataW.trod enc Tryz.prog w base spare held n0 37 [c3] = some x3) : ∃ ka kn kc ks, c3 = .slice ka kn kc ∧ NodesAt (fun _ => True) w ka kn kc ks ∧ ks.length ≤ Rows.uptoBulk x3.1 ∧ SmallNs (Rows.uptoBulk x3.1) ks := by
  rcases DataW.trod_slice Tryz.underlying37 f3 with ⟨e5, -⟩ | ⟨a, len, cap, elems, rest, n', hn', e5, hxx, -, hl, hm, hlen, hel, -, -⟩
  · cases e5
    exact ⟨none, 0, 0, [], rfl, nodes_none _, Nat.zero_le _, by simp [SmallNs]⟩
  · cases e5
    rw [cells_node] at hel
    obtain ⟨Z, h1, h2⟩ := choose_list (fun i (z : Nv × Nd) => (∀ j v, z.1.cells[j]? = some v → w.cell? (a.add (i * 4 + j)) = some v) ∧ NodeAt (fun _ => True) w z.1 z.2 ∧ SmallN (Rows.uptoBulk x3.1) z.2) len fun i hi => by
      have h1 := hel i hi
      obtain ⟨q, hq⟩ := some_of_lt hlen hi
      rw [hq, Option.bind_eq_some_iff] at h1
      obtain ⟨cs', hc, ht⟩ := h1
      obtain ⟨-, hcl', hat⟩ := World.cells?_some hc
      obtain ⟨e, t, rfl, hT, hSt⟩ := ih n' (by omega) cs' _ ht
      have h5 : q.1 ∈ List.map (fun x => x.fst) elems := List.mem_map.2 ⟨q, List.mem_of_getElem? hq, rfl⟩
      have h6 := bulk_part h5
      refine ⟨(e, t), fun j v hj => ?_, hT, SmallN.mono (by rw [hxx]; simp only [Rows.uptoBulk]; omega) hSt⟩
      have hj6 : j < 4 := by have := (List.getElem?_eq_some_iff.1 hj).1; simpa [Nv.cells] using this
      rw [← Addr.add_add, hat j hj6]
      exact hj
    have hZl : (Z.map Prod.snd).length ≤ Rows.uptoBulk x3.1 := by
      have h5 := bulk_len (List.map (fun x => x.fst) elems)
      rw [List.length_map] at h5
      rw [List.length_map, h1, hxx]
      simp only [Rows.uptoBulk]
      omega
    have hZs : SmallNs (Rows.uptoBulk x3.1) (Z.map Prod.snd) := (smallNs_iff _ _).2 fun t ht => by
      obtain ⟨z, hz, rfl⟩ := List.mem_map.1 ht
      obtain ⟨i, hi⟩ := List.getElem?_of_mem hz
      exact (h2 i z hi).2.2
    refine ⟨some a, len, cap, Z.map Prod.snd, rfl, ⟨by simp [h1], hl, hm, RowN.of fun i t hi => ?_⟩, hZl, hZs⟩
    simp only [List.getElem?_map, Option.map_eq_some_iff] at hi
    obtain ⟨z, hz, rfl⟩ := hi
    obtain ⟨hc, hT, -⟩ := h2 i z hz
    have h0 : a = ⟨a.block, a.off, none⟩ := by
      obtain ⟨z0, hz0⟩ := some_of_lt h1 (show 0 < len by have := (List.getElem?_eq_some_iff.1 hz).1; omega)
      have := (h2 0 z0 hz0).1 0 _ rfl
      exact spot_none (by simpa [Addr.add] using this)
    rw [h0] at hc
    simp only [Addr.add_lit] at hc
    have ha : ∀ j, a.off + (i * 4 + j) = a.off + (0 + i) * 4 + j := fun j => by omega
    simp only [ha] at hc
    exact ⟨a.block, a.off, z.1, by rw [← h0], trivial, ⟨hc 0 _ rfl, hc 1 _ rfl, hc 2 _ rfl, hc 3 _ rfl⟩, hT⟩
set_option maxRecDepth 20000 in
set_option maxHeartbeats 1000000 in
theorem node_small : ∀ (fuel : Nat) (cs : List Value) (x : DataW H × List MemPlace), DataW.trod enc Tryz.prog w base spare held fuel 41 cs = some x → ∃ (e : Nv) (r : Nd), cs = e.cells ∧ NodeAt (fun _ => True) w e r ∧ SmallN (Rows.uptoBulk x.1) r := by
  intro fuel
  induction fuel using Nat.strongRecOn with
  | ind fuel ih =>
    intro cs x h
    obtain ⟨xs, n, rfl, rfl, hcl, hxl, hf⟩ := DataW.trod_struct Tryz.underlying41 h
    rw [cells_node] at hcl
    match cs, hcl with
    | [c0, c1, c2, c3], _ =>
      match xs, hxl with
      | [x0, x1, x2, x3], _ =>
        have f0 : DataW.trod enc Tryz.prog w base spare held n 3 (List.take (Tryz.prog.cellsOf 3) (List.drop 0 [c0, c1, c2, c3])) = some x0 := hf 0 _ rfl
        rw [cells_int] at f0
        have f0 : DataW.trod enc Tryz.prog w base spare held n 3 [c0] = some x0 := f0
        have f1 : DataW.trod enc Tryz.prog w base spare held n 9 (List.take (Tryz.prog.cellsOf 9) (List.drop 1 [c0, c1, c2, c3])) = some x1 := hf 1 _ rfl
        rw [cells_string] at f1
        have f1 : DataW.trod enc Tryz.prog w base spare held n 9 [c1] = some x1 := f1
        have f2 : DataW.trod enc Tryz.prog w base spare held n 38 (List.take (Tryz.prog.cellsOf 38) (List.drop 2 [c0, c1, c2, c3])) = some x2 := hf 2 _ rfl
        rw [cells_ints] at f2
        have f2 : DataW.trod enc Tryz.prog w base spare held n 38 [c2] = some x2 := f2
        have f3 : DataW.trod enc Tryz.prog w base spare held n 37 (List.take (Tryz.prog.cellsOf 37) (List.drop 3 [c0, c1, c2, c3])) = some x3 := hf 3 _ rfl
        rw [cells_nodes] at f3
        have f3 : DataW.trod enc Tryz.prog w base spare held n 37 [c3] = some x3 := f3
        obtain ⟨k, e0, -, -⟩ := DataW.trod_int Tryz.underlying3 f0
        obtain ⟨s, e1, hx1, -⟩ := DataW.trod_string Tryz.underlying9 f1
        obtain ⟨pa, pn, pc, ps, e2, hps, hpl⟩ := ints_small f2
        obtain ⟨ka, kn, kc, ks, e3, hR, hkl, hks⟩ := nodes_of (fun m hm => ih m (by omega)) f3
        simp only [List.cons.injEq, and_true] at e0 e1 e2
        subst e0 e1 e2 e3
        have hs1 : Rows.uptoBulk x1.1 = s.data.toList.length + 1 := by rw [hx1]; simp [Rows.uptoBulk]
        have hs2 := Lib.size_eq s
        have hB : Rows.uptoBulk (DataW.agg (List.map (fun x => x.fst) [x0, x1, x2, x3])) = Rows.uptoBulk x0.1 + (Rows.uptoBulk x1.1 + (Rows.uptoBulk x2.1 + (Rows.uptoBulk x3.1 + 0))) + 1 := by simp only [Rows.uptoBulk, List.map_cons, List.map_nil, Rows.uptoBulkAll]
        refine ⟨⟨k, s, pa, pn, pc, ka, kn, kc⟩, .mk k s ps ks, rfl, NodeAt.of rfl rfl hps hR, ?_⟩
        rw [SmallN, hB]
        exact ⟨by omega, by omega, by omega, SmallNs.mono (by omega) hks⟩
theorem nodes_small {fuel : Nat} {c : Value} {x : DataW H × List MemPlace} (h : DataW.trod enc Tryz.prog w base spare held fuel 37 [c] = some x) :
    ∃ ka kn kc ks, c = .slice ka kn kc ∧ NodesAt (fun _ => True) w ka kn kc ks ∧ ks.length ≤ Rows.uptoBulk x.1 ∧ SmallNs (Rows.uptoBulk x.1) ks := nodes_of (fun m _ => node_small m) h
set_option maxRecDepth 20000 in
theorem node_valS {fuel : Nat} {r : Reach} {b0 : Nat} {v : Value} {x : DataW H × List MemPlace} {W : World} (hv : Value.okWide Tryz.prog W r b0 41 v) (h : DataW.trod enc Tryz.prog w base spare held fuel 41 v.cells.toList = some x) :
    ∃ (e : Nv) (t : Nd), v = e.val ∧ NodeAt (fun _ => True) w e t ∧ SmallN (Rows.uptoBulk x.1) t := by
  obtain ⟨cs, rfl, -⟩ := okWide_struct Tryz.underlying41 hv
  obtain ⟨e, t, he, hT, hSt⟩ := node_small fuel _ _ h
  refine ⟨e, t, ?_, hT, hSt⟩
  have he : cs.toList = e.cells := he
  have : cs = e.cells.toArray := by rw [← he]
  subst this
  rfl
end
end Go.Proofs.YtfngaoicoecncaaGreatDoor

namespace Go.Proofs.YtfngaoicoecncaaGreatDoor
open Go.ChangeShapes Go.WideShapes Go.ChangeAt Go.RowKit

set_option maxRecDepth 100000 in
theorem bLay_shaped (os : Os) (args : Array Value) : World.Shaped Tryz.prog ((World.laidAll Tryz.prog os Rows.fnWholeMadeUptoRow.laid).forCall (fun _ _ => 0) ⟨#[], args, []⟩) := World.shaped_of_ZipB (by kernel_rfl) (by kernel_rfl)
set_option maxRecDepth 100000 in
theorem bLay_met (os : Os) (args : Array Value) : laidMetH Tryz.prog Rows.fnWholeMadeUptoRow.laid ((World.laidAll Tryz.prog os Rows.fnWholeMadeUptoRow.laid).forCall (fun _ _ => 0) ⟨#[], args, []⟩).memory := by
  rw [MakeChecks.laidMetH_plain _ _ _ (by kernel_rfl)]
  exact laidMet_laidAll _ (by kernel_rfl) (by kernel_rfl)
theorem bWitness_laid {H : Type} {enc : TypeId × Value → H} (os : Os) (args : Array Value) {f : FuncId} {fn : Func} {s : OpenSpec} {conds : List PathCond} {apart : Bool} {laid : List (String × DataW Unit)}
    (hok : Input.okWideB Tryz.prog ((World.laidAll Tryz.prog os Rows.fnWholeMadeUptoRow.laid).forCall (fun _ _ => 0) ⟨#[], args, []⟩) f ⟨#[], args, []⟩ = true)
    (hrow : s.preRow enc Tryz.prog fn conds apart laid ((World.laidAll Tryz.prog os Rows.fnWholeMadeUptoRow.laid).forCall (fun _ _ => 0) ⟨#[], args, []⟩).memory args) :
    ∃ (w : World) (tape : Tape) (i : Input), w.os = os ∧ (w.forCall tape i).Shaped Tryz.prog ∧ i.vars = [] ∧ Input.okWide Tryz.prog (w.forCall tape i) .any w.heap.size f i ∧
      s.preRow enc Tryz.prog fn conds apart laid (w.forCall tape i).memory i.args ∧ ({} : Assume).holds Tryz.prog (lone (Frame.enter Tryz.prog f i.args .normal) [] (w.forCall tape i)) :=
  ⟨World.laidAll Tryz.prog os Rows.fnWholeMadeUptoRow.laid, fun _ _ => 0, ⟨#[], args, []⟩, World.laidAll_os _ _ _, bLay_shaped os args, (Input.okWide_of_okWideB (base := 0) hok).1, (Input.okWide_of_okWideB hok).2, hrow, by
    simp only [Assume.holds]
    exact ⟨by simp, by simp, by simp, by simp, by simp⟩⟩
theorem ten_eq : (Rows.laid_internal_strconv_uint64pow10 : DataW Unit) = Lib.tabData .u64 Lib.pow10Tab := by kernel_rfl
theorem ten_at {W : World} (hL : laidMetH Tryz.prog Rows.fnWholeMadeUptoRow.laid W) : TenAt W := by
  rw [MakeChecks.laidMetH_plain _ _ _ (by kernel_rfl)] at hL
  have h1 : laidMet Tryz.prog [("math/bits.deBruijn32tab", Rows.laid_math_bits_deBruijn32tab), ("math/bits.deBruijn64tab", Rows.laid_math_bits_deBruijn64tab), ("internal/strconv.uint64pow10", Rows.laid_internal_strconv_uint64pow10)] W := hL
  have h2 := h1.tail.tail
  rw [ten_eq] at h2
  have h3 : Lib.TabIs Tryz.prog W "internal/strconv.uint64pow10" .u64 Lib.pow10Tab := Lib.tabIs_of_head (g := 1) (t := 221) (e := 197) (n := 20) (by kernel_rfl) (by kernel_rfl) Tryz.underlying221 Tryz.underlying197 (by kernel_rfl) (by kernel_rfl) h2
  exact fun w' x => Lib.tabBelow_of_tabIs h3 w' x

set_option maxRecDepth 100000 in
theorem wholeMade_lifted (os : Os) (started : os.Started) (H : Type) (enc : TypeId × Value → H) (F : Stop.Interp) :
    ReturnsInHanded {} Tryz.checked os 4 .any ((Rows.OpenSpec.upto Rows.fnWholeMadeSpec).preRow enc Tryz.prog Tryz.f4 Rows.fnWholeMadeUptoRow.domain false Rows.fnWholeMadeUptoRow.laid) (((Rows.OpenSpec.upto Rows.fnWholeMadeSpec).at F).post enc Tryz.prog Tryz.f4 false true false false) := by
  have hx : DataW.whole enc Tryz.prog ((World.laidAll Tryz.prog os Rows.fnWholeMadeUptoRow.laid).forCall (fun _ _ => 0) ⟨#[], #[.slice none 0 0, .slice none 0 0], []⟩).memory Tryz.f4.params.toList Rows.fnWholeMadeSpec.vars false (#[.slice none 0 0, .slice none 0 0] : Array Value).toList 8 = some ([.nil, .nil], [], []) := by kernel_rfl
  refine returnsInHanded_of_row (C := Tryz.checked) (s := Rows.OpenSpec.upto Rows.fnWholeMadeSpec) ownKnobs started (by kernel_rfl) Tryz.func4
    (bWitness_laid os #[.slice none 0 0, .slice none 0 0] (by kernel_rfl) (OpenSpec.preRow_of_cond 8 hx (by kernel_rfl) (fun k hk => by cases hk; kernel_rfl) (by kernel_rfl) (bLay_met os _))) ?_
  intro W base args ds gs before hval0 hW _ hcond _ hL _ _
  have hbulk : Rows.uptoBulkAll (ds ++ gs) ≤ 1048576 := of_decide_eq_true (hcond _ rfl)
  have hval : ∀ (j : Nat) t v, Tryz.f4.params[j]? = some t → args[j]? = some v → Value.okWide Tryz.prog W .any base t v := hval0
  have hW' := hW
  obtain ⟨p, q, hA, hV, rfl, hfz, hnd⟩ := hW'
  have hA : DataW.TrodAll enc Tryz.prog W 0 (fun _ => true) true Tryz.f4.params.toList args.toList ds p := hA
  rw [Tryz.params4] at hA hval
  obtain ⟨v0, vs0, d0, ds0, p0, q0, hargs, rfl, rfl, h0, r0⟩ := trodAll_cons hA
  obtain ⟨v1, vs1, d1, ds1, p1, q1, rfl, rfl, rfl, h1, r1⟩ := trodAll_cons r0
  obtain ⟨rfl, rfl, rfl⟩ := trodAll_nil r1
  obtain rfl : args = #[v0, v1] := by cases args; simp_all
  obtain ⟨rfl, rfl⟩ := trodVars_none hV
  obtain ⟨a0, n0, c0, rfl⟩ := okWide_slice Tryz.underlying37 (hval 0 37 v0 rfl rfl)
  obtain ⟨fuel0, hf0⟩ := h0
  obtain ⟨a0', n0', c0', ks0, e0, hK0, hl0, hS0⟩ := nodes_small (c := .slice a0 n0 c0) hf0
  cases e0
  obtain ⟨a1, n1, c1, rfl⟩ := okWide_slice Tryz.underlying38 (hval 1 38 v1 rfl rfl)
  obtain ⟨fuel1, hf1⟩ := h1
  obtain ⟨a1', n1', c1', ps1, e1, hP1, hl1⟩ := ints_small hf1
  simp only [Value.cells, List.cons.injEq, and_true, Value.slice.injEq] at e1
  obtain ⟨rfl, rfl, rfl⟩ := e1
  have hd : Rows.uptoBulk d0 ≤ 1048576 ∧ Rows.uptoBulk d1 ≤ 1048576 := by
    simp only [List.append_nil, Rows.uptoBulkAll] at hbulk
    omega
  refine (wholeMade_law a0 n0 c0 a1 n1 c1 ks0 ps1 W hK0 hP1 (SmallNs.mono hd.1 hS0) (Nat.le_trans hl0 hd.1) (Nat.le_trans hl1 hd.2) (ten_at hL)).mono fun e W' ⟨he, hx⟩ => ?_
  subst he
  exact ⟨_, rfl, post_law (s := Rows.fnWholeMadeSpec) laidOut (by kernel_rfl) (by kernel_rfl) Tryz.underlying4 rfl hW rfl hx⟩

theorem wholeMade_holds : Rows.FnWholeMadeUptoSaid :=
  OpenClaim.holds_of_cond 4 Tryz.f4 rfl rfl rfl rfl rfl rfl rfl ⟨rfl, rfl, rfl, rfl, rfl⟩ rfl rfl rfl rfl rfl (by kernel_rfl) Tryz.func4 (by kernel_rfl)
    (of_decide_eq_true (by kernel_rfl)) (by unfold Func.isWrapper; first | (rw [if_pos (by decide +kernel)]; kernel_rfl) | (rw [if_neg (by decide +kernel)]; exact ⟨rfl, rfl⟩))
    (fun os started H enc _ F => by rw [OpenClaim.pre_eq_preRow]; exact wholeMade_lifted os started H enc F)

/-- A bool query that is made of others at once is the same as one that is made of their trees: where what comes in is of bulk at most 1048576. -/
theorem wholeMade_proved : Rows.FnWholeMadeUptoCardSaid :=
  Claim7.holds_tied_plain_at .later [] _ _ _ _ wholeMade_holds (fun _ h => by cases h) (by kernel_rfl) (fun _ h => by cases h) fnWholeMadeUpto_row_tie rfl ⟨rfl, rfl⟩ (by kernel_rfl) rfl
    (fun f fn hf hfn => by
      obtain rfl : f = 4 := Option.some.inj ((show Tryz.prog.funcNamed "loop.example/pub-g01525/laws.FnWholeMade" = some 4 by kernel_rfl).symm.trans hf) |>.symm
      obtain rfl : fn = Tryz.f4 := (Option.some.inj (Tryz.func4.symm.trans hfn)).symm
      exact ⟨by kernel_rfl, fun j t ht => by
        rw [Tryz.params4] at ht
        have hm : t ∈ [37, 38] := by simpa using Array.mem_of_getElem? ht
        have hall : ([37, 38].all fun u => !Tryz.prog.wantsStandIn u) = true := by kernel_rfl
        exact (show Tryz.prog.wantsStandIn t = false by simpa using List.all_eq_true.1 hall t hm)⟩)
    (by kernel_rfl)
#print axioms wholeMade_proved
end Go.Proofs.YtfngaoicoecncaaGreatDoor

