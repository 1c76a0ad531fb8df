/-
  A common terms query says its text in its field, and its settings; how many terms should match stands for rare and for frequent ones: the tied card of the statement FnCommonTerms in its second form: where what comes in is of bulk at most 1048576.
-/
import Derived.Test.YtfngaoicoecncaaGreatDoorGd
import Derived.Test.YtfngaoicoecncaaGreatDoorP4
import Derived.Test.YtfngaoicoecncaaGreatDoorTx
import Derived.Test.YtfngaoicoecncaaGreatDoorFi
import Derived.Test.YtfngaoicoecncaaGreatDoorSm
import Derived.Test.YtfngaoicoecncaaGreatDoorR2
import Derived.Test.YtfngaoicoecncaaGreatDoorBk
import Derived.Deep.CutBlock
import Derived.Test.YtfngaoicoecncaaGreatDoorVw
import Derived.Test.YtfngaoicoecncaaGreatDoorTr
import Derived.Test.YtfngaoicoecncaaGreatDoorCm
import Derived.Test.YtfngaoicoecncaaGreatDoorCommonTerms
import Derived.Test.YtfngaoicoecncaaGreatDoorPlainv
import Derived.Test.YtfngaoicoecncaaGreatDoorShelf2
import Derived.Test.YtfngaoicoecncaaGreatDoorCards
import Derived.PinnedBridge
import Derived.Lib.LaidCase
import Derived.Lib.LaidU8
import Derived.LaidMore
import Derived.Test.YtfngaoicoecncaaGreatDoorQx
import Derived.Lay
import Derived.SevenTiedAt
import Derived.ProofKit
import Derived.OpenShut
import Derived.Stop.Joined
import Derived.Deep.DeepHandedRow
import Derived.Test.YtfngaoicoecncaaGreatDoorOpen
import Derived.Lib.Strings
import Derived.Test.YtfngaoicoecncaaGreatDoorRows
import Derived.Test.YtfngaoicoecncaaGreatDoorTie
namespace Go.Proofs.YtfngaoicoecncaaGreatDoor
open Go.RowKit

abbrev sGeoDistance : ByteArray := ⟨#[71, 101, 111, 68, 105, 115, 116, 97, 110, 99, 101]⟩
abbrev tGeoDistance : ByteArray := ⟨#[100, 105, 115, 116, 97, 110, 99, 101, 32, 116, 44, 100, 105, 115, 116, 97, 110, 99, 101, 95, 116, 121, 112, 101, 32, 116, 44, 112, 111, 105, 110, 116, 32, 112, 44, 108, 97, 116, 32, 110, 44, 108, 111, 110, 32, 110, 44, 104, 97, 115, 104, 32, 116, 44, 95, 110, 97, 109, 101, 32, 116]⟩
abbrev rGeoDistance : List (ByteArray × ByteArray) := [(s_distance, ⟨#[116]⟩), (s_distance_type, ⟨#[116]⟩), (s_point, ⟨#[112]⟩), (s_lat, ⟨#[110]⟩), (s_lon, ⟨#[110]⟩), (s_hash, ⟨#[116]⟩), (s_name, ⟨#[116]⟩)]
set_option maxHeartbeats 2000000 in
theorem table_geoDistance (w : World) : Calls Tryz.prog 93 #[.string sGeoDistance] w fun r w' => r = .returned (.string tGeoDistance) ∧ w' = w := by
  go_enter Tryz.func93, Tryz.ntmps93
  go_wp2
  go_ret
  exact ⟨rfl, rfl⟩
set_option maxRecDepth 20000 in
theorem rows_geoDistance (w : World) : Calls Tryz.prog 73 #[.string sGeoDistance] w fun r w' => ∃ v, r = .returned v ∧ Own2 w' w.heap.size v rGeoDistance ∧ Ext w w' :=
  rows_any sGeoDistance tGeoDistance w table_geoDistance 9 (by decide) (by decide)
theorem tree_looseG {S S' : Nat → Prop} {w : World} {e : El} {t : T} (h : TreeAt S w e t) (hs : scalarT t = true) : TreeAt S' w e t := by
  obtain ⟨k, x, d, y, ks, xs⟩ := t
  have h2 : ks = [] ∧ xs = [] := by
    unfold scalarT scalarF at hs
    simp only [T.keys, T.kids] at hs
    cases ks with
    | cons _ _ => simp at hs
    | nil =>
      cases xs with
      | cons _ _ => simp at hs
      | nil => exact ⟨rfl, rfl⟩
  obtain ⟨rfl, rfl⟩ := h2
  obtain ⟨h1, h2, h3, h4, h5, h6⟩ := h.parts
  exact TreeAt.of h1 h2 h3 h4 ⟨h5.1, h5.2.1, h5.2.2.1, fun _ _ hh => by simp [T.keys] at hh⟩ (KidsAt.of h6.1 h6.2.1 h6.2.2.1 fun _ _ hh => by simp [T.kids] at hh)
theorem pk_looseG {S S' : Nat → Prop} {w : World} {es : List (ByteArray × El)} {ps : List (ByteArray × T)} (h : Pk S w es ps) (hs : ∀ p ∈ ps, scalarT p.2 = true) : Pk S' w es ps :=
  ⟨h.1, fun i e p he hp => ⟨(h.2 i e p he hp).1, tree_looseG (h.2 i e p he hp).2 (hs p (List.mem_of_getElem? hp))⟩⟩
theorem params_plainG {rs : List (ByteArray × ByteArray)} {ps : List (ByteArray × T)} (hF : FitsP rs ps) (rs2 : List (ByteArray × ByteArray)) : ∀ p ∈ paramsL rs2 ps, scalarT p.2 = true := fun p hp => by
  unfold paramsL at hp
  obtain ⟨r, -, hr⟩ := List.mem_filterMap.1 hp
  unfold param at hr
  split at hr
  · cases hl : lastOf ps r.1 with
    | none => rw [hl] at hr; cases hr
    | some t =>
      rw [hl] at hr
      cases hr
      exact (fits_last hF hl).1
  · cases hr
/-- Names with trees to which one more is appended. -/
theorem pk_plusG {P : Nat → Prop} {w w' : World} {g cap n : Nat} {v : Value} {es : List (ByteArray × El)} {ps : List (ByteArray × T)} {k : ByteArray} {e : El} {t : T} (hP : Pk (fun b => P b ∧ v.ownBlock ≠ some b) w es ps) (ht : TreeAt (fun b => P b ∧ v.ownBlock ≠ some b) w e t)
    (hg : w.grownBy w' v.ownBlock) (hl : Lies w v g) : Pk (fun b => P b ∧ (Value.slice (some ⟨g, 0, none⟩) n cap).ownBlock ≠ some b) w' (es ++ [(k, e)]) (ps ++ [(k, t)]) := by
  have hk : Keeps (fun b => P b ∧ v.ownBlock ≠ some b) w w' := keeps_grown hg (fun b hb e => hb.2 e.symm)
  have hS : ∀ b, (P b ∧ v.ownBlock ≠ some b) → b < w.heap.size → P b ∧ (Value.slice (some ⟨g, 0, none⟩) n cap).ownBlock ≠ some b := fun b hb hlt => by
    refine ⟨hb.1, fun e => ?_⟩
    simp only [Value.ownBlock, Option.some.injEq] at e
    rcases hl with hl | hl
    · exact hb.2 (by rw [hl, e])
    · omega
  exact Pk.append (hP.keep hS hk) (Pk.one (TreeAt.keep hS hk _ ht))
abbrev geoOut : List ByteArray := [s_lat, s_lon, s_hash]
set_option maxRecDepth 20000 in
set_option maxHeartbeats 2000000 in
theorem pick_any {S : Nat → Prop} (a : Option Addr) (n c : Nat) (ps : List (ByteArray × T)) (wa : Option Addr) (wn wc : Nat) (ws : List ByteArray) (w : World) (h : PairsAt S w a n c ps) (hW : StrsAt S w wa wn wc ws) (hb : n ≤ 65536) :
    Calls Tryz.prog 47 #[.slice a n c, .slice wa wn wc] w fun r w' => ∃ v es, r = .returned v ∧ OwnPairs w' w.heap.size v es ∧ Pk (fun b => S b ∧ b < w.heap.size) w' es (ps.filter fun p => !hasS ws p.1) ∧ Ext w w' := by
  have h := h.keep (S' := fun b => S b ∧ b < w.heap.size) (fun b h1 h2 => ⟨h1, h2⟩) (fun _ _ _ => rfl)
  have HW := Lib.hid (fun (w' : World) (x : Ext w w') (s : ByteArray) => has_any wa wn wc ws s w' (hW.ext x))
  obtain ⟨hl, hn, hm, hc⟩ := h
  unfold maxLen at hm
  have HL := Lib.hid hl
  have HC := Lib.hid hc
  clear hl hc hW
  go_enter Tryz.func47, Tryz.ntmps47
  go_wp2_with fail
  go_loopw [5, 6] (fun v i wr => Ext w wr ∧ w.heap.size + 1 ≤ wr.heap.size ∧ ∃ (j : Nat) (es : List (ByteArray × El)) (vv : Value), vv = v ∧ j ≤ n ∧ i = .int .i64 j ∧ OwnPairs wr w.heap.size vv es ∧ Pk (fun b => S b ∧ b < w.heap.size) wr es ((ps.take j).filter fun p => !hasS ws p.1)) (fun _ i _ => n - (intOf i).toNat)
  case atStart =>
    exact ⟨by (repeat (first | exact ext_refl _ | assumption | refine ext_alloc ?_ _ | refine ext_drew ?_ | refine ext_set ?_ (by simp) _ | refine ext_trans ?_ (by assumption))), by simp, 0, [], _, rfl, Nat.zero_le _, rfl, ⟨rfl, .inr ⟨w.heap.size, 0, #[], rfl, Nat.le_refl _, Box.at rfl _ _, Nat.le_refl _, by simp [maxLen], rfl, rfl⟩⟩, ⟨rfl, fun _ _ _ h => by simp at h⟩⟩
  case round =>
    obtain ⟨hx, hwr, j, es, vv, hvv, hj, rfl, hO, hP⟩ := hrel
    subst hvv
    have HO := Lib.hid hO
    have HPk := Lib.hid hP
    have hel : es.length ≤ j := by rw [← hP.1]; exact Nat.le_trans (List.length_filter_le _ _) (List.length_take_le _ _)
    clear hO hP
    by_cases hlt : j < n
    · obtain ⟨p, hp⟩ := some_of_lt HL.out hlt
      obtain ⟨b, off, g, rfl, hSb, hc7, hT⟩ := HC.out j p hp
      have hc7 := Cells7.ext hx hc7
      have hT := Lib.hid (hT.ext hx)
      have HP := Lib.hid hp
      clear hp
      obtain ⟨z0, z1, z2, z3, z4, z5, z6⟩ := id hc7
      have hbw : b < wr.heap.size := lt_of_cell z0
      have hH := HW.out wr hx p.1
      cases hk : hasS ws p.1 with
      | true =>
        rw [hk] at hH
        have HH := Lib.hid hH
        clear hH
        go_wp2_with (first
          | (go_at_call 25; refine HH.out.mono ?_; rintro r w' ⟨rfl, rfl⟩)
          | fail)
        go_roundw
        case rel =>
          refine ⟨hx, hwr, j + 1, es, _, rfl, by omega, by go_num, HO.out, ?_⟩
          rw [take_snoc HP.out, List.filter_append]
          simpa [hk] using HPk.out
        case measure => simp [intOf]; omega
      | false =>
        rw [hk] at hH
        have HH := Lib.hid hH
        clear hH
        have x3 : Ext wr (wr.alloc (.cells #[.string p.1, .int .i64 g.k, .string g.x, .float .f64 g.d, .bool g.y, .slice g.ka g.n g.kc, .slice g.ca g.m g.cc] 72)) := ext_alloc (ext_refl _) _
        have hbp : Box (wr.alloc (.cells #[.string p.1, .int .i64 g.k, .string g.x, .float .f64 g.d, .bool g.y, .slice g.ka g.n g.kc, .slice g.ca g.m g.cc] 72)) wr.heap.size #[.string p.1, .int .i64 g.k, .string g.x, .float .f64 g.d, .bool g.y, .slice g.ka g.n g.kc, .slice g.ca g.m g.cc] 72 := Box.at rfl _ _
        go_wp2_with (first
          | (go_at_call 25; refine HH.out.mono ?_; rintro r w' ⟨rfl, rfl⟩)
          | (at_builtin; refine list_append_pairs _ rfl _ _ rfl w.heap.size vv es rfl (HO.out.ext x3) wr.heap.size 0 1 [(p.1, g)] (by simp) rfl (fun i q hq => by
               cases i with
               | zero => simp at hq; subst hq; exact ⟨hbp.cell 0 _ rfl, hbp.cell 1 _ rfl, hbp.cell 2 _ rfl, hbp.cell 3 _ rfl, hbp.cell 4 _ rfl, hbp.cell 5 _ rfl, hbp.cell 6 _ rfl⟩
               | succ i => simp at hq) (by simp; omega) (Nat.le_trans (by omega) x3.sz) ?_; intro g1 cap1 w4 hown hgrow hlies hglt
             have hbw2 : ∀ q, vv.ownBlock = some q → w.heap.size ≤ q := fun q hq => (World.ownsRow.lt HO.out q hq).1
             have hx5 : Ext w w4 := ext_grown (ext_trans hx x3) hgrow hbw2
             have hsz5 : w.heap.size + 1 ≤ w4.heap.size := Nat.le_trans (Nat.le_trans hwr x3.sz) hgrow.size
             have hPk5 := Lib.hid (Pk.append (Pk.keep (S' := fun b => S b ∧ b < w.heap.size) (fun _ h _ => h) (keeps_grown hgrow (fun q hq e => by have := hbw2 q e.symm; have := hq.2; omega)) (HPk.out.ext x3)) (Pk.one (k := p.1) (TreeAt.keep (S' := fun b => S b ∧ b < w.heap.size) (fun _ h _ => h) (keeps_grown hgrow (fun q hq e => by have := hbw2 q e.symm; have := hq.2; omega)) _ (hT.out.ext x3))))
             have hown5 := Lib.hid hown
             clear hown hgrow hlies)
          | fail)
        go_roundw
        case rel =>
          refine ⟨hx5, hsz5, j + 1, es ++ [(p.1, g)], _, rfl, by omega, by go_num, by simpa using hown5.out, ?_⟩
          rw [take_snoc HP.out, List.filter_append, show List.filter (fun q : ByteArray × T => !hasS ws q.1) [p] = [p] by simp [hk]]
          exact hPk5.out
        case measure => simp [intOf]; omega
    · have hjn : j = n := by omega
      have hfull : ps.take j = ps := List.take_of_length_le (by have := HL.out; omega)
      have hP := HPk.out
      rw [hfull] at hP
      clear hjn
      go_wp2_with fail
      go_ret
      exact ⟨_, _, rfl, HO.out, hP, hx⟩
def ptT (ps : List (ByteArray × T)) : T := match lastOf ps s_hash with
  | some t => t
  | none => pointT (foldG ps)
theorem mapT_plusG (l : List (ByteArray × T)) (k : ByteArray) (t : T) : mapT (l ++ [(k, t)]) = withT (mapT l) k t := by
  unfold mapT
  rw [List.foldl_append]
  rfl
end Go.Proofs.YtfngaoicoecncaaGreatDoor

namespace Go.Proofs.YtfngaoicoecncaaGreatDoor
open Go.RowKit

set_option maxHeartbeats 1000000 in
theorem infield_any {S : Nat → Prop} (kind field : ByteArray) (a : Option Addr) (n c : Nat) (ps : List (ByteArray × T)) (w : World) (h : PairsAt S w a n c ps) (hb : (n + 3) * 88 ≤ 140737488355328) :
    Calls Tryz.prog 50 #[.string kind, .string field, .slice a n c] w fun r w' => ∃ g : El, r = .returned g.val ∧ TreeAt (fun b => (S b ∧ b < w.heap.size) ∨ w.heap.size ≤ b) w' g (mapT [(kind, mapT [(field, mapT ps)])]) ∧ Ext w w' := by
  have HP := Lib.hid (h.keep (S' := fun b => S b ∧ b < w.heap.size) (fun b h1 h2 => ⟨h1, h2⟩) (fun _ _ _ => rfl))
  clear h
  go_enter Tryz.func50, Tryz.ntmps50
  go_upto_region 1 with fail
  have hx0 : Ext w (w.alloc (.cells (El.arr El0) 26)) := ext_alloc (ext_refl _) _
  have hb0 : Box (w.alloc (.cells (El.arr El0) 26)) w.heap.size (El.arr El0) 26 := Box.at rfl _ _
  have hM1 := Lib.hid (map_any (S := fun b => S b ∧ b < w.heap.size) a n c ps _ (HP.out.ext hx0) hb)
  have hM2 := Lib.hid (fun (w2 : World) (v : Nat) (g : El) (t : T) (hb : Box w2 v #[.string field, .int .i64 g.k, .string g.x, .float .f64 g.d, .bool g.y, .slice g.ka g.n g.kc, .slice g.ca g.m g.cc] 72) (hv : w.heap.size + 1 ≤ v) (ht : TreeAt (fun b => (S b ∧ b < w.heap.size) ∨ w.heap.size + 1 ≤ b) w2 g t) =>
    beside_any (S := fun b => (S b ∧ b < w.heap.size) ∨ w.heap.size + 1 ≤ b) kind (some ⟨v, 0, none⟩) 1 1 [(field, t)] w2 (pairs_one hb (.inr hv) ht) (by decide))
  go_wp2_with (first
    | (go_at_call 42; refine hM1.out.mono ?_; rintro r w2 ⟨g1, rfl, hT1, hx1⟩; simp only [El.val]; clear hM1
       have hT1' : TreeAt (fun b => (S b ∧ b < w.heap.size) ∨ w.heap.size + 1 ≤ b) w2 g1 (mapT ps) := hT1.to fun b h1 _ => by
         rcases h1 with h1 | h1
         · exact .inl h1.1
         · simp at h1
           exact .inr h1
       have hM3 := hM2.out (w2.alloc (.cells #[.string field, .int .i64 g1.k, .string g1.x, .float .f64 g1.d, .bool g1.y, .slice g1.ka g1.n g1.kc, .slice g1.ca g1.m g1.cc] 72)) w2.heap.size g1 (mapT ps) (Box.at rfl _ _) (by have := hx1.sz; simp at this; omega) (hT1'.ext (ext_alloc (ext_refl _) _)))
    | (go_at_call 46; refine hM3.mono ?_; rintro r w3 ⟨g2, rfl, hT2, hx2⟩; simp only [El.val]
       have hb3 := (hb0.ext hx1).ext (ext_trans (ext_alloc (ext_refl _) _) hx2); obtain ⟨o0, o1, o2, o3, o4, o5⟩ := hb3.six; have f0 := hb3.free 0; have f1 := hb3.free 1; have f2 := hb3.free 2; have f3 := hb3.free 3; have f4 := hb3.free 4; have f5 := hb3.free 5))
  have hx3 : Ext w w3 := ext_trans (ext_trans hx0 (ext_trans hx1 (ext_alloc (ext_refl _) _))) hx2
  refine post_tree rfl rfl (hb3.sto g2) rfl ⟨g2, rfl, ?_, ext_sto6 hx3 (Nat.le_refl _) _ _ _ _ _ _⟩
  have hs1 := hx1.sz
  refine TreeAt.keep (S := fun b => (S b ∧ b < w.heap.size) ∨ w.heap.size + 1 ≤ b) (fun b hb _ => ?_) (keeps_sto w3 (by omega) g2) _ (hT2.to fun b h1 _ => ?_)
  · rcases hb with h | h
    · exact .inl h
    · exact .inr (by omega)
  · rcases h1 with h | h
    · exact h.1
    · simp at h hs1
      exact .inr (by omega)

theorem last_filter {f : ByteArray} (l : List (ByteArray × T)) (k : ByteArray) : lastOf (l.filter fun p => !seq p.1 f) k = if k = f then none else lastOf l k := by
  induction l with
  | nil => simp [lastOf]
  | cons p r ih =>
    by_cases hp : p.1 = f
    · rw [List.filter_cons_of_neg (by simp [seq_iff.2 hp]), ih, lastOf_cons]
      by_cases hk : k = f
      · rw [if_pos hk, if_pos hk]
      · rw [if_neg hk, if_neg hk, seq_false.2 (fun e => hk (e.symm.trans hp))]
        simp
    · rw [List.filter_cons_of_pos (by simp [seq_false.2 hp]), lastOf_cons, lastOf_cons, ih]
      by_cases hk : k = f
      · rw [if_pos hk, if_pos hk, seq_false.2 (fun e => hp (e.trans hk))]
        simp
      · rw [if_neg hk, if_neg hk]
theorem mapT_snoc (l : List (ByteArray × T)) (p : ByteArray × T) : mapT (l ++ [p]) = withT (mapT l) p.1 p.2 := by
  unfold mapT
  rw [List.foldl_append]
  rfl
theorem TreeAt.move {S : Nat → Prop} {w a b : World} (x : Ext w a) (y : Ext w b) {e : El} {t : T} (h : TreeAt (fun q => S q ∧ q < w.heap.size) a e t) : TreeAt (fun q => S q ∧ q < w.heap.size) b e t :=
  TreeAt.keep (fun _ h _ => h) (fun q hq _ => (y.block q hq.2).trans (x.block q hq.2).symm) t h
theorem StrsAt.move {S : Nat → Prop} {w a b : World} (x : Ext w a) (y : Ext w b) {p : Option Addr} {n c : Nat} {t : List ByteArray} (h : StrsAt (fun q => S q ∧ q < w.heap.size) a p n c t) : StrsAt (fun q => S q ∧ q < w.heap.size) b p n c t :=
  h.keep (fun _ h _ => h) (fun q hq _ => (y.block q hq.2).trans (x.block q hq.2).symm)
theorem KidsAt.move {S : Nat → Prop} {w a b : World} (x : Ext w a) (y : Ext w b) {p : Option Addr} {n c : Nat} {t : List T} (h : KidsAt (fun q => S q ∧ q < w.heap.size) a p n c t) : KidsAt (fun q => S q ∧ q < w.heap.size) b p n c t :=
  h.keep (fun _ h _ => h) (fun q hq _ => (y.block q hq.2).trans (x.block q hq.2).symm)

set_option maxRecDepth 20000 in
set_option maxHeartbeats 8000000 in
theorem readValued_moreF {S : Nat → Prop} (lw : ByteArray → ByteArray) (kind field main other : ByteArray) (o : T) (A R : List (ByteArray × T)) (e : El) (w : World) (h : TreeAt S w e (mapT [(kind, mapT ((field, o) :: R))])) (hown : FieldOwn main o A) (hoth : lastOf A other = none)
    (hf1 : field ≠ s_name) (hf2 : field ≠ s_boost) (hR : ∀ p ∈ R, p.1 = s_name ∨ p.1 = s_boost) (hks : kind.size ≤ 2147483647) (hfs : field.size ≤ 2147483647) (hA : ∀ p ∈ A ++ R, p.1.size ≤ 2147483647 ∧ okF p.2) (hlen : A.length + R.length ≤ 30000)
    (hlow : ∀ s ∈ opTexts (mapT [(kind, mapT [(field, mapT (A ++ R))])]), LowerAt lw w s) :
    Calls Tryz.prog 12 #[.string kind, .string field, .string main, .string other, e.val] w fun r w' => ∃ g : El, r = .returned g.val ∧ TreeAt (fun b => (S b ∧ b < w.heap.size) ∨ w.heap.size ≤ b) w' g (readV lw kind field (A ++ R)) ∧ Ext w w' := by
  have h := h.to (S' := fun b => S b ∧ b < w.heap.size) (fun b h1 h2 => ⟨h1, h2⟩)
  have hRf : lastOf R field = none := lastOf_none fun i p hp e => by
    rcases hR p (List.mem_of_getElem? hp) with h | h
    · exact hf1 (e.symm.trans h)
    · exact hf2 (e.symm.trans h)
  have hlo : lastOf ((field, o) :: R) field = some o := by rw [lastOf_cons, hRf, seq_self]; rfl
  obtain ⟨l, hm, hRi, hl⟩ := mapT_told ((field, o) :: R)
  have hll : l.length ≤ 30001 := by have := (mapT_len ((field, o) :: R)).1; rw [hm] at this; unfold mapOf at this; simp [T.keys] at this; omega
  have hkl : ∀ p ∈ l, p.1 = field ∨ p.1 = s_name ∨ p.1 = s_boost := fun p hp => by
    rcases List.mem_cons.1 (mem_told hRi hl hp) with h | h
    · exact .inl (by rw [h])
    · exact .inr (hR p h)
  have hfin : mapT (A ++ l.filter fun p => !seq p.1 field) = mapT (A ++ R) := mapT_congr fun k => by
    rw [lastOf_append, lastOf_append, last_filter, hl]
    by_cases hk : k = field
    · rw [if_pos hk, hk, hRf]
    · rw [if_neg hk, lastOf_cons, seq_false.2 (fun e => hk e.symm)]
      simp
  have hokT := readV_okF kind field hks hfs hA (by rw [List.length_append]; omega)
  have hW := fun w' (x : Ext w w') => within_one kind ((field, o) :: R) e w' (h.ext x)
  have HW := Lib.hid hW
  have HM := Lib.hid hm
  have HLL := Lib.hid hll
  have HKL := Lib.hid hkl
  have HFIN := Lib.hid hfin
  have HOKT := Lib.hid hokT
  have HLOW := Lib.hid hlow
  have HLEN := Lib.hid hlen
  have HLO := Lib.hid hlo
  have HOTH := Lib.hid hoth
  have HF1 := Lib.hid hf1
  have HF2 := Lib.hid hf2
  clear h hRf hlo hm hRi hl hll hkl hfin hokT hW hlow hlen hA hR hks hfs hoth hf1 hf2
  obtain ⟨ek, ex, ed, ey, eka, en, ekc, eca, em, ecc⟩ := e
  simp only [El.val] at HW ⊢
  have hx0 : Ext w ((w.alloc (.cells (El.arr ⟨ek, ex, ed, ey, eka, en, ekc, eca, em, ecc⟩) 26)).alloc (.cells (El.arr El0) 26)) := ext_alloc (ext_alloc (ext_refl _) _) _
  have hb2 : Box ((w.alloc (.cells (El.arr ⟨ek, ex, ed, ey, eka, en, ekc, eca, em, ecc⟩) 26)).alloc (.cells (El.arr El0) 26)) (w.heap.size + 1) (El.arr El0) 26 := Box.at (by simp) _ _
  go_enter Tryz.func12, Tryz.ntmps12
  go_upto_region 2 with (go_at_call 40; refine (HW.out _ hx0).mono ?_; rintro r w2 ⟨⟨gk, gx, gd, gy, gka, gn, gkc, gca, gm, gcc⟩, rfl, hT, hx⟩; simp only)
  have hx2 : Ext w2 (w2.alloc (.cells (El.arr ⟨gk, gx, gd, gy, gka, gn, gkc, gca, gm, gcc⟩) 26)) := ext_alloc (ext_refl _) _
  have hb11 : Box (w2.alloc (.cells (El.arr ⟨gk, gx, gd, gy, gka, gn, gkc, gca, gm, gcc⟩) 26)) w2.heap.size (El.arr ⟨gk, gx, gd, gy, gka, gn, gkc, gca, gm, gcc⟩) 26 := Box.at rfl _ _
  have hb112 : w.heap.size + 1 < w2.heap.size := (hb2.ext hx).lt
  have hb2 := (hb2.ext hx).ext hx2
  have hT3 := Lib.hid ((hT.to (S' := fun b => S b ∧ b < w.heap.size) (fun b h1 _ => h1.1)).ext hx2)
  have hx3 := ext_trans hx0 (ext_trans hx hx2)
  clear hT hx0 hx hx2 HW
  generalize w2.alloc (.cells (El.arr ⟨gk, gx, gd, gy, gka, gn, gkc, gca, gm, gcc⟩) 26) = w3 at hb11 hb2 hT3 hx3 ⊢
  generalize w2.heap.size = b11 at hb11 hb112 ⊢
  have hb11l := hb11.lt
  have hAt := at_map ((field, o) :: R) ⟨gk, gx, gd, gy, gka, gn, gkc, gca, gm, gcc⟩ field w3 hT3.out
  rw [HLO.out] at hAt
  simp only [Option.isSome_some, Option.getD_some, El.val] at hAt
  obtain ⟨q0, q1, q2, q3, q4, q5⟩ := hb11.six
  go_upto_region 3 with (go_at_call 41; refine hAt.mono ?_; rintro r w4 ⟨⟨pk, px, pd, py, pka, pn, pkc, pca, pm, pcc⟩, rfl, hTo, hx4⟩; simp only)
  have hx5 : Ext w4 (w4.alloc (.cells (El.arr ⟨pk, px, pd, py, pka, pn, pkc, pca, pm, pcc⟩) 26)) := ext_alloc (ext_refl _) _
  have hb13 : Box (w4.alloc (.cells (El.arr ⟨pk, px, pd, py, pka, pn, pkc, pca, pm, pcc⟩) 26)) w4.heap.size (El.arr ⟨pk, px, pd, py, pka, pn, pkc, pca, pm, pcc⟩) 26 := Box.at rfl _ _
  have hb1311 : b11 < w4.heap.size := (hb11.ext hx4).lt
  have hb11 := (hb11.ext hx4).ext hx5
  have hb2 := (hb2.ext hx4).ext hx5
  have hTo := Lib.hid (hTo.ext hx5)
  have hx6 := ext_trans hx3 (ext_trans hx4 hx5)
  clear hAt hx4 hx5 q0 q1 q2 q3 q4 q5 hb11l
  generalize w4.alloc (.cells (El.arr ⟨pk, px, pd, py, pka, pn, pkc, pca, pm, pcc⟩) 26) = w5 at hb13 hb11 hb2 hTo hx6 ⊢
  generalize w4.heap.size = b13 at hb13 hb1311 ⊢
  have HPK := Lib.hid (show pk = o.kind from hTo.out.parts.1)
  have hb13l := hb13.lt
  obtain ⟨z0, z1, z2, z3, z4, z5⟩ := hb13.six
  go_upto_if 39 with fail
  go_cut [] (fun wc => Ext w wc ∧ Box wc b11 (El.arr ⟨gk, gx, gd, gy, gka, gn, gkc, gca, gm, gcc⟩) 26 ∧ Box wc (w.heap.size + 1) (El.arr El0) 26 ∧ ∃ eo : El, Box wc b13 eo.arr 26 ∧ TreeAt (fun b => (S b ∧ b < w.heap.size) ∨ (w.heap.size + 1 < b ∧ b ≠ b13)) wc eo (mapT A))
  case first =>
    rcases hown with ⟨hk5, rfl⟩ | rfl
    · have hp5 : (pk == 5) = false := by rw [HPK.out]; simpa using hk5
      have hxp : Ext w5 (w5.alloc (.cells #[.string main, .int .i64 pk, .string px, .float .f64 pd, .bool py, .slice pka pn pkc, .slice pca pm pcc] 72)) := ext_alloc (ext_refl _) _
      have hM := map_any (S := fun b => (S b ∧ b < w.heap.size) ∨ (w.heap.size + 1 < b ∧ b ≠ b13)) (some ⟨w5.heap.size, 0, none⟩) 1 1 [(main, o)] (w5.alloc (.cells #[.string main, .int .i64 pk, .string px, .float .f64 pd, .bool py, .slice pka pn pkc, .slice pca pm pcc] 72)) (pairs_one (e := ⟨pk, px, pd, py, pka, pn, pkc, pca, pm, pcc⟩) (Box.at rfl _ _) (.inr ⟨by omega, by omega⟩) ((hTo.out.ext hxp).to fun q h1 _ => .inl h1)) (by decide)
      go_wp2_with (go_at_call 42; refine hM.mono ?_; rintro r w6 ⟨g2, rfl, hT2, hx7⟩; simp only [El.val]; have hbo := (hb13.ext hxp).ext hx7; obtain ⟨o0, o1, o2, o3, o4, o5⟩ := hbo.six; have f0 := hbo.free 0; have f1 := hbo.free 1; have f2 := hbo.free 2; have f3 := hbo.free 3; have f4 := hbo.free 4; have f5 := hbo.free 5)
      go_meet
      case rel =>
        have hx8 := ext_trans hxp hx7
        have hN : ¬ ((fun b => (S b ∧ b < w.heap.size) ∨ (w.heap.size + 1 < b ∧ b ≠ b13)) b13) := by simp; omega
        refine ⟨ext_sto6 (ext_trans hx6 hx8) (by omega) _ _ _ _ _ _, (hb11.ext hx8).sto6' (by omega) _ _ _ _ _ _, (hb2.ext hx8).sto6' (by omega) _ _ _ _ _ _, g2, hbo.sto g2, ?_⟩
        exact TreeAt.keep (fun _ h _ => h) (keeps_sto w6 hN g2) _ (hT2.to fun q h1 _ => by
          rcases h1 with h | h
          · exact h.1
          · simp at h
            exact .inr ⟨by omega, by omega⟩)
    · have hp5 : (pk == 5) = true := by rw [HPK.out, mapT_kind]; rfl
      go_wp2_with fail
      go_meet
      case rel => exact ⟨hx6, hb11, hb2, _, hb13, hTo.out.to fun q h1 _ => .inl h1⟩
  case rest =>
    have hTx := Lib.hid (fun (b : World) (y : Ext w b) => TreeAt.move hx3 y hT3.out)
    clear hb2 hb11 hb13 hTo hx6 hx3 hT3 z0 z1 z2 z3 z4 z5 HPK hown
    obtain ⟨hxc, hb11, hb2, ⟨ok, ox, od, oy, oka, on, okc, oca, om, occ⟩, hb13, hTo⟩ := hcut
    obtain ⟨z0, z1, z2, z3, z4, z5⟩ := hb13.six
    have hAt := at_map A ⟨ok, ox, od, oy, oka, on, okc, oca, om, occ⟩ other wc hTo
    rw [HOTH.out] at hAt
    simp only [Option.isSome_none, Option.getD_none, El.val] at hAt
    have hTo := Lib.hid hTo
    have hb13l := hb13.lt
    go_upto_region 8 with (go_at_call 41; refine hAt.mono ?_; rintro r w6 ⟨⟨vk, vx, vd, vy, vka, vn, vkc, vca, vm, vcc⟩, rfl, -, hx7⟩; simp only)
    have hx8 : Ext wc (w6.alloc (.cells (El.arr ⟨vk, vx, vd, vy, vka, vn, vkc, vca, vm, vcc⟩) 26)) := ext_alloc hx7 _
    have hb11 := hb11.ext hx8
    have hb2 := hb2.ext hx8
    have hb13 := hb13.ext hx8
    have hTo := Lib.hid (hTo.out.ext hx8)
    have hxc := ext_trans hxc hx8
    clear hAt hx7 hx8 z0 z1 z2 z3 z4 z5 HOTH
    generalize w6.alloc (.cells (El.arr ⟨vk, vx, vd, vy, vka, vn, vkc, vca, vm, vcc⟩) 26) = w7 at hb11 hb2 hb13 hTo hxc ⊢
    have hTX0 := hTx.out w7 hxc
    rw [HM.out] at hTX0
    have hk5 := hTX0.parts.2.2.2.2.1
    have hk6 := hTX0.parts.2.2.2.2.2
    have hgn : l.length = gn := by have := hk5.1; unfold mapOf at this; simpa [T.keys] using this
    have hgm : l.length = gm := by have := hk6.1; unfold mapOf at this; simpa [T.kids] using this
    obtain rfl : gn = gm := hgn.symm.trans hgm
    have hkc := hk5.2.1
    have hkm := hk5.2.2.1
    have hcc := hk6.2.1
    have hcm := hk6.2.2.1
    unfold maxLen at hkm hcm
    have HN := Lib.hid hgn
    have H5 := Lib.hid (fun (b : World) (y : Ext w b) => StrsAt.move hxc y hk5)
    have H6 := Lib.hid (fun (b : World) (y : Ext w b) => KidsAt.move hxc y hk6)
    clear hTX0 hk5 hk6 hgn hgm hTx
    go_wp2_with fail
    go_loopw [17] (fun i wr => Ext w wr ∧ Box wr b11 (El.arr ⟨gk, gx, gd, gy, gka, gn, gkc, gca, gn, gcc⟩) 26 ∧ Box wr (w.heap.size + 1) (El.arr El0) 26 ∧ ∃ (j : Nat) (eo : El), j ≤ gn ∧ i = .int .i64 j ∧ Box wr b13 eo.arr 26 ∧ TreeAt (fun b => (S b ∧ b < w.heap.size) ∨ (w.heap.size + 1 < b ∧ b ≠ b13)) wr eo (mapT (A ++ (l.take j).filter fun p => !seq p.1 field))) (fun i _ => gn - (intOf i).toNat)
    case atStart => exact ⟨hxc, hb11, hb2, 0, _, Nat.zero_le _, rfl, hb13, by simpa using hTo.out⟩
    case round =>
      clear hb11 hb2 hb13 hTo hxc
      obtain ⟨hx, hb11, hb2, j, eo, hj, rfl, hb13, hTo⟩ := hrel
      obtain ⟨q0, q1, q2, q3, q4, q5⟩ := hb11.six
      have hTo := Lib.hid hTo
      have hb13l := hb13.lt
      have hxx := hx.sz
      by_cases hlt : j < gn
      · obtain ⟨p, hp⟩ := some_of_lt HN.out hlt
        obtain ⟨hp1, hp2⟩ := mapOf_keys l j p hp
        obtain ⟨b, off, rfl, hSb, hcc⟩ := (H5.out wr hx).2.2.2 j p.1 hp1
        obtain ⟨b2, off2, g, rfl, hSb2, hc6, hTk⟩ := (H6.out wr hx).get hp2
        have hkp := HKL.out p (List.mem_of_getElem? hp)
        have HP := Lib.hid hp
        have HTk := Lib.hid hTk
        clear hp hp1 hp2 hTk
        obtain ⟨kk, kx, kd, ky, kka, kn, kkc, kca, km, kcc⟩ := g
        by_cases hpf : p.1 = field
        · have e1 : (p.1.toList == [95, 110, 97, 109, 101]) = false := by
            have h9 : seq p.1 s_name = false := seq_false.2 (by rw [hpf]; exact HF1.out)
            rw [seq, show s_name.toList = [95, 110, 97, 109, 101] by rw [Lib.toList_data]] at h9
            exact h9
          have e2 : (p.1.toList == [98, 111, 111, 115, 116]) = false := by
            have h9 : seq p.1 s_boost = false := seq_false.2 (by rw [hpf]; exact HF2.out)
            rw [seq, show s_boost.toList = [98, 111, 111, 115, 116] by rw [Lib.toList_data]] at h9
            exact h9
          have e3 : (p.1.toList == field.toList) = true := seq_iff.2 hpf
          have HPF := Lib.hid hpf
          clear hpf hkp
          go_wp2_with fail
          go_roundw
          case rel => exact ⟨hx, hb11, hb2, j + 1, eo, by omega, by go_num, hb13, by
            rw [show (l.take (j + 1)).filter (fun p => !seq p.1 field) = (l.take j).filter (fun p => !seq p.1 field) by rw [List.take_add_one, HP.out, List.filter_append]; simp [seq_iff.2 HPF.out]]
            exact hTo.out⟩
          case measure => simp [intOf]; omega
        · have hkp := hkp.resolve_left hpf
          cases e1 : p.1.toList == [95, 110, 97, 109, 101]
          · have e2 : (p.1.toList == [98, 111, 111, 115, 116]) = true := by
              rcases hkp with h | h
              · have h9 : seq p.1 s_name = true := seq_iff.2 h
                rw [seq, show s_name.toList = [95, 110, 97, 109, 101] by rw [Lib.toList_data], e1] at h9
                cases h9
              · have h9 : seq p.1 s_boost = true := seq_iff.2 h
                rw [seq, show s_boost.toList = [98, 111, 111, 115, 116] by rw [Lib.toList_data]] at h9
                exact h9
            have hHD := Lib.hid hcc
            go_upto_region 14 with fail
            have hS : Six wr.drew b13 eo ∧ Six wr.drew b11 ⟨gk, gx, gd, gy, some ⟨b, off, none⟩, gn, gkc, some ⟨b2, off2, none⟩, gn, gcc⟩ ∧ CellsAt wr.drew b2 (off2 + j * 6) ⟨kk, kx, kd, ky, kka, kn, kkc, kca, km, kcc⟩ ∧ wr.drew.cell? ⟨b, off + j, none⟩ = some (.string p.1) := ⟨hb13.Six, hb11.Six, hc6, hcc⟩
            refine wp_region_order (fun w' => Six w' b13 eo ∧ Six w' b11 ⟨gk, gx, gd, gy, some ⟨b, off, none⟩, gn, gkc, some ⟨b2, off2, none⟩, gn, gcc⟩ ∧ CellsAt w' b2 (off2 + j * 6) ⟨kk, kx, kd, ky, kka, kn, kkc, kca, km, kcc⟩ ∧ w'.cell? ⟨b, off + j, none⟩ = some (.string p.1)) [0, 1, 2, 3, 4, 5, 6, 7, 8, 9, 10] [0, 1, 2, 3, 4, 5, 6, 7, 8, 9, 10, 11, 12] (by kernel_rfl) (by kernel_rfl) (fun d _ _ _ _ h => by cases d <;> exact h) (by kernel_rfl) ?_
            iterate 11 (apply ord_held rfl rfl (by assumption) rfl; (focus ((intro w' hS'); go_simp; (try with_reducible rfl))); (try simp only [Act.put, List.setIfInBounds_toArray, List.set_cons_zero, List.set_cons_succ]))
            (apply ord_loud rfl rfl rfl; intro K hK; go_simp)
            have hlen2 := mapT_len (A ++ (l.take j).filter fun p => !seq p.1 field)
            have hj2 : ((l.take j).filter fun p => !seq p.1 field).length ≤ j := Nat.le_trans (List.length_filter_le _ _) (List.length_take_le _ _)
            rw [List.length_append] at hlen2
            have hgl := HLL.out
            have hgn2 := HN.out
            have hAl := HLEN.out
            refine (with_any (S := fun b => (S b ∧ b < w.heap.size) ∨ (w.heap.size + 1 < b ∧ b ≠ b13)) eo (mapT (A ++ (l.take j).filter fun p => !seq p.1 field)) p.1 ⟨kk, kx, kd, ky, kka, kn, kkc, kca, km, kcc⟩ p.2 _ (hTo.out.ext (ext_drew (ext_refl _))) ((HTk.out.to (fun b h1 _ => .inl h1)).ext (ext_drew (ext_refl _))) (by omega) (by omega) (by omega)).mono ?_
            rintro r w8 ⟨e2, rfl, hT2, hx2⟩
            have hx3 : Ext wr w8 := ext_trans (ext_drew (ext_refl _)) hx2
            refine hK _ _ (fun _ => ⟨Six.ext hx2 hS.1, Six.ext hx2 hS.2.1, CellsAt.ext hx2 hS.2.2.1, hx2.cell hS.2.2.2⟩) ?_
            clear hK K hS
            simp only [El.val]
            (try simp only [Act.put, List.setIfInBounds_toArray, List.set_cons_zero, List.set_cons_succ])
            have hb93 := hb13.ext hx3
            obtain ⟨z0, z1, z2, z3, z4, z5⟩ := hb93.six
            have f0 := hb93.free 0
            have f1 := hb93.free 1
            have f2 := hb93.free 2
            have f3 := hb93.free 3
            have f4 := hb93.free 4
            have f5 := hb93.free 5
            (apply ord_last rfl rfl rfl (by kernel_rfl); intro K hK; go_simp; refine hK _ _ ?_; clear hK K; (try simp only [Act.put, List.setIfInBounds_toArray, List.set_cons_zero, List.set_cons_succ]))
            refine ord_end ?_
            have hN : ¬ ((fun b => (S b ∧ b < w.heap.size) ∨ (w.heap.size + 1 < b ∧ b ≠ b13)) b13) := by simp; omega
            have hT3 := Lib.hid (TreeAt.keep (S' := fun b => (S b ∧ b < w.heap.size) ∨ (w.heap.size + 1 < b ∧ b ≠ b13)) (fun _ h _ => h) (keeps_sto w8 hN e2) _ (hT2.to (fun q h _ => by
              rcases h with h | h
              · exact h
              · exact .inr ⟨by simp at h; omega, by simp at h; omega⟩)))
            clear hT2
            go_wp2_with fail
            go_roundw
            case rel => exact ⟨ext_sto6 (ext_trans hx hx3) (by omega) _ _ _ _ _ _, (hb11.ext hx3).sto6' (by omega) _ _ _ _ _ _, (hb2.ext hx3).sto6' (by omega) _ _ _ _ _ _, j + 1, e2, by omega, by go_num, hb93.sto e2, by
              rw [show (l.take (j + 1)).filter (fun p => !seq p.1 field) = (l.take j).filter (fun p => !seq p.1 field) ++ [p] by rw [List.take_add_one, HP.out, List.filter_append]; simp [seq_false.2 hpf], ← List.append_assoc, mapT_snoc]
              exact hT3.out⟩
            case measure => simp [intOf]; omega
          · skip
            have hHD := Lib.hid hcc
            go_upto_region 14 with fail
            have hS : Six wr.drew b13 eo ∧ Six wr.drew b11 ⟨gk, gx, gd, gy, some ⟨b, off, none⟩, gn, gkc, some ⟨b2, off2, none⟩, gn, gcc⟩ ∧ CellsAt wr.drew b2 (off2 + j * 6) ⟨kk, kx, kd, ky, kka, kn, kkc, kca, km, kcc⟩ ∧ wr.drew.cell? ⟨b, off + j, none⟩ = some (.string p.1) := ⟨hb13.Six, hb11.Six, hc6, hcc⟩
            refine wp_region_order (fun w' => Six w' b13 eo ∧ Six w' b11 ⟨gk, gx, gd, gy, some ⟨b, off, none⟩, gn, gkc, some ⟨b2, off2, none⟩, gn, gcc⟩ ∧ CellsAt w' b2 (off2 + j * 6) ⟨kk, kx, kd, ky, kka, kn, kkc, kca, km, kcc⟩ ∧ w'.cell? ⟨b, off + j, none⟩ = some (.string p.1)) [0, 1, 2, 3, 4, 5, 6, 7, 8, 9, 10] [0, 1, 2, 3, 4, 5, 6, 7, 8, 9, 10, 11, 12] (by kernel_rfl) (by kernel_rfl) (fun d _ _ _ _ h => by cases d <;> exact h) (by kernel_rfl) ?_
            iterate 11 (apply ord_held rfl rfl (by assumption) rfl; (focus ((intro w' hS'); go_simp; (try with_reducible rfl))); (try simp only [Act.put, List.setIfInBounds_toArray, List.set_cons_zero, List.set_cons_succ]))
            (apply ord_loud rfl rfl rfl; intro K hK; go_simp)
            have hlen2 := mapT_len (A ++ (l.take j).filter fun p => !seq p.1 field)
            have hj2 : ((l.take j).filter fun p => !seq p.1 field).length ≤ j := Nat.le_trans (List.length_filter_le _ _) (List.length_take_le _ _)
            rw [List.length_append] at hlen2
            have hgl := HLL.out
            have hgn2 := HN.out
            have hAl := HLEN.out
            refine (with_any (S := fun b => (S b ∧ b < w.heap.size) ∨ (w.heap.size + 1 < b ∧ b ≠ b13)) eo (mapT (A ++ (l.take j).filter fun p => !seq p.1 field)) p.1 ⟨kk, kx, kd, ky, kka, kn, kkc, kca, km, kcc⟩ p.2 _ (hTo.out.ext (ext_drew (ext_refl _))) ((HTk.out.to (fun b h1 _ => .inl h1)).ext (ext_drew (ext_refl _))) (by omega) (by omega) (by omega)).mono ?_
            rintro r w8 ⟨e2, rfl, hT2, hx2⟩
            have hx3 : Ext wr w8 := ext_trans (ext_drew (ext_refl _)) hx2
            refine hK _ _ (fun _ => ⟨Six.ext hx2 hS.1, Six.ext hx2 hS.2.1, CellsAt.ext hx2 hS.2.2.1, hx2.cell hS.2.2.2⟩) ?_
            clear hK K hS
            simp only [El.val]
            (try simp only [Act.put, List.setIfInBounds_toArray, List.set_cons_zero, List.set_cons_succ])
            have hb93 := hb13.ext hx3
            obtain ⟨z0, z1, z2, z3, z4, z5⟩ := hb93.six
            have f0 := hb93.free 0
            have f1 := hb93.free 1
            have f2 := hb93.free 2
            have f3 := hb93.free 3
            have f4 := hb93.free 4
            have f5 := hb93.free 5
            (apply ord_last rfl rfl rfl (by kernel_rfl); intro K hK; go_simp; refine hK _ _ ?_; clear hK K; (try simp only [Act.put, List.setIfInBounds_toArray, List.set_cons_zero, List.set_cons_succ]))
            refine ord_end ?_
            have hN : ¬ ((fun b => (S b ∧ b < w.heap.size) ∨ (w.heap.size + 1 < b ∧ b ≠ b13)) b13) := by simp; omega
            have hT3 := Lib.hid (TreeAt.keep (S' := fun b => (S b ∧ b < w.heap.size) ∨ (w.heap.size + 1 < b ∧ b ≠ b13)) (fun _ h _ => h) (keeps_sto w8 hN e2) _ (hT2.to (fun q h _ => by
              rcases h with h | h
              · exact h
              · exact .inr ⟨by simp at h; omega, by simp at h; omega⟩)))
            clear hT2
            go_wp2_with fail
            go_roundw
            case rel => exact ⟨ext_sto6 (ext_trans hx hx3) (by omega) _ _ _ _ _ _, (hb11.ext hx3).sto6' (by omega) _ _ _ _ _ _, (hb2.ext hx3).sto6' (by omega) _ _ _ _ _ _, j + 1, e2, by omega, by go_num, hb93.sto e2, by
              rw [show (l.take (j + 1)).filter (fun p => !seq p.1 field) = (l.take j).filter (fun p => !seq p.1 field) ++ [p] by rw [List.take_add_one, HP.out, List.filter_append]; simp [seq_false.2 hpf], ← List.append_assoc, mapT_snoc]
              exact hT3.out⟩
            case measure => simp [intOf]; omega
      · have hjn : j = gn := by omega
        have hft : mapT (A ++ (l.take j).filter fun p => !seq p.1 field) = mapT (A ++ R) := by
          rw [List.take_of_length_le (by have := HN.out; omega)]
          exact HFIN.out
        rw [hft] at hTo
        obtain ⟨ok, ox, od, oy, oka, on, okc, oca, om, occ⟩ := eo
        obtain ⟨z0, z1, z2, z3, z4, z5⟩ := hb13.six
        have hxp : Ext wr (wr.alloc (.cells #[.string field, .int .i64 ok, .string ox, .float .f64 od, .bool oy, .slice oka on okc, .slice oca om occ] 72)) := ext_alloc (ext_refl _) _
        have hB := beside_any (S := fun b => (S b ∧ b < w.heap.size) ∨ (w.heap.size + 1 < b ∧ b ≠ b13)) kind (some ⟨wr.heap.size, 0, none⟩) 1 1 [(field, mapT (A ++ R))] (wr.alloc (.cells #[.string field, .int .i64 ok, .string ox, .float .f64 od, .bool oy, .slice oka on okc, .slice oca om occ] 72)) (pairs_one (e := ⟨ok, ox, od, oy, oka, on, okc, oca, om, occ⟩) (Box.at rfl _ _) (.inr ⟨by omega, by omega⟩) (hTo.out.ext hxp)) (by decide)
        go_wp2_with (first
          | (go_at_call 46; refine hB.mono ?_; rintro r w8 ⟨g2, rfl, hT2, hx9⟩; simp only [El.val]
             have hF := folded_any (S := fun b => (S b ∧ b < w.heap.size) ∨ w.heap.size + 1 < b) lw (mapT [(kind, mapT [(field, mapT (A ++ R))])]) g2 w8 (hT2.to fun q h1 _ => by
               rcases h1 with h | h
               · rcases h.1 with h | h
                 · exact .inl h
                 · exact .inr h.1
               · simp at h
                 exact .inr (by omega)) HOKT.out (fun s hs => (HLOW.out s hs).ext (ext_trans hx (ext_trans hxp hx9)))
             simp only [El.val] at hF)
          | (go_at_call 45; refine hF.mono ?_; rintro r w9 ⟨g3, rfl, hT3, hx10⟩; try simp only
             have hbr := ((hb2.ext hxp).ext hx9).ext hx10; obtain ⟨o0, o1, o2, o3, o4, o5⟩ := hbr.six; have f0 := hbr.free 0; have f1 := hbr.free 1; have f2 := hbr.free 2; have f3 := hbr.free 3; have f4 := hbr.free 4; have f5 := hbr.free 5)
          | fail)
        have hx11 := ext_trans hx (ext_trans (ext_trans hxp hx9) hx10)
        have hs8 := (ext_trans hxp hx9).sz
        refine post_tree rfl rfl (hbr.sto g3) rfl ⟨g3, rfl, ?_, ext_sto6 hx11 (by omega) _ _ _ _ _ _⟩
        refine TreeAt.keep (S := fun b => (S b ∧ b < w.heap.size) ∨ w.heap.size + 1 < b) (fun q h _ => by
          rcases h with h | h
          · exact .inl h
          · exact .inr (by omega)) (keeps_sto w9 (by omega) g3) _ (hT3.to fun q h1 _ => ?_)
        rcases h1 with h | h
        · exact h.1
        · exact .inr (by omega)
theorem readValued_more {S : Nat → Prop} (lw : ByteArray → ByteArray) (kind field main other : ByteArray) (o : T) (A R : List (ByteArray × T)) (e : El) (w : World) (h : TreeAt S w e (mapT [(kind, mapT ((field, o) :: R))])) (hown : FieldOwn main o A) (hoth : lastOf A other = none)
    (hf1 : field ≠ s_name) (hf2 : field ≠ s_boost) (hR : ∀ p ∈ R, p.1 = s_name ∨ p.1 = s_boost) (hks : kind.size ≤ 2147483647) (hfs : field.size ≤ 2147483647) (hA : ∀ p ∈ A ++ R, p.1.size ≤ 2147483647 ∧ p.2.kind ≠ 5) (hlen : A.length + R.length ≤ 30000)
    (hlow : ∀ s ∈ opTexts (mapT [(kind, mapT [(field, mapT (A ++ R))])]), LowerAt lw w s) :
    Calls Tryz.prog 12 #[.string kind, .string field, .string main, .string other, e.val] w fun r w' => ∃ g : El, r = .returned g.val ∧ TreeAt (fun b => (S b ∧ b < w.heap.size) ∨ w.heap.size ≤ b) w' g (readV lw kind field (A ++ R)) ∧ Ext w w' :=
  readValued_moreF lw kind field main other o A R e w h hown hoth hf1 hf2 hR hks hfs (fun p hp => ⟨(hA p hp).1, okF_id (hA p hp).2⟩) hlen hlow
theorem readValued_anyF {S : Nat → Prop} (lw : ByteArray → ByteArray) (kind field main other : ByteArray) (o : T) (A : List (ByteArray × T)) (e : El) (w : World) (h : TreeAt S w e (mapT [(kind, mapT [(field, o)])])) (hown : FieldOwn main o A) (hoth : lastOf A other = none)
    (hf1 : field ≠ s_name) (hf2 : field ≠ s_boost) (hks : kind.size ≤ 2147483647) (hfs : field.size ≤ 2147483647) (hA : ∀ p ∈ A, p.1.size ≤ 2147483647 ∧ okF p.2) (hlen : A.length ≤ 30000)
    (hlow : ∀ s ∈ opTexts (mapT [(kind, mapT [(field, mapT A)])]), LowerAt lw w s) :
    Calls Tryz.prog 12 #[.string kind, .string field, .string main, .string other, e.val] w fun r w' => ∃ g : El, r = .returned g.val ∧ TreeAt (fun _ => True) w' g (readV lw kind field A) ∧ Ext w w' := by
  have := readValued_moreF lw kind field main other o A [] e w h hown hoth hf1 hf2 (fun p hp => by simp at hp) hks hfs (by simpa using hA) (by simpa using hlen) (by simpa using hlow)
  refine this.mono ?_
  rintro r w' ⟨g, h1, h2, h3⟩
  rw [List.append_nil] at h2
  exact ⟨g, h1, h2.any, h3⟩
theorem readValued_any {S : Nat → Prop} (lw : ByteArray → ByteArray) (kind field main other : ByteArray) (o : T) (A : List (ByteArray × T)) (e : El) (w : World) (h : TreeAt S w e (mapT [(kind, mapT [(field, o)])])) (hown : FieldOwn main o A) (hoth : lastOf A other = none)
    (hf1 : field ≠ s_name) (hf2 : field ≠ s_boost) (hks : kind.size ≤ 2147483647) (hfs : field.size ≤ 2147483647) (hA : ∀ p ∈ A, p.1.size ≤ 2147483647 ∧ p.2.kind ≠ 5) (hlen : A.length ≤ 30000)
    (hlow : ∀ s ∈ opTexts (mapT [(kind, mapT [(field, mapT A)])]), LowerAt lw w s) :
    Calls Tryz.prog 12 #[.string kind, .string field, .string main, .string other, e.val] w fun r w' => ∃ g : El, r = .returned g.val ∧ TreeAt (fun _ => True) w' g (readV lw kind field A) ∧ Ext w w' := by
  have := readValued_more lw kind field main other o A [] e w h hown hoth hf1 hf2 (fun p hp => by simp at hp) hks hfs (by simpa using hA) (by simpa using hlen) (by simpa using hlow)
  refine this.mono ?_
  rintro r w' ⟨g, h1, h2, h3⟩
  rw [List.append_nil] at h2
  exact ⟨g, h1, h2.any, h3⟩
end Go.Proofs.YtfngaoicoecncaaGreatDoor

namespace Go.Proofs.YtfngaoicoecncaaGreatDoor
open Go.RowKit

abbrev sCommonTerms : ByteArray := ⟨#[67, 111, 109, 109, 111, 110, 84, 101, 114, 109, 115]⟩
abbrev tCommonTerms : ByteArray := ⟨#[97, 110, 97, 108, 121, 122, 101, 114, 32, 116, 44, 98, 111, 111, 115, 116, 32, 110, 44, 99, 117, 116, 111, 102, 102, 95, 102, 114, 101, 113, 117, 101, 110, 99, 121, 32, 110, 44, 104, 105, 103, 104, 95, 102, 114, 101, 113, 95, 111, 112, 101, 114, 97, 116, 111, 114, 32, 116, 44, 108, 111, 119, 95, 102, 114, 101, 113, 95, 111, 112, 101, 114, 97, 116, 111, 114, 32, 116, 44, 104, 105, 103, 104, 95, 102, 114, 101, 113, 32, 116, 44, 108, 111, 119, 95, 102, 114, 101, 113, 32, 116, 44, 95, 110, 97, 109, 101, 32, 116]⟩
abbrev rCommonTerms : List (ByteArray × ByteArray) := [(s_analyzer, ⟨#[116]⟩), (s_boost, ⟨#[110]⟩), (s_cutoff_frequency, ⟨#[110]⟩), (s_high_freq_operator, ⟨#[116]⟩), (s_low_freq_operator, ⟨#[116]⟩), (s_high_freq, ⟨#[116]⟩), (s_low_freq, ⟨#[116]⟩), (s_name, ⟨#[116]⟩)]
set_option maxHeartbeats 2000000 in
theorem table_commonTerms (w : World) : Calls Tryz.prog 93 #[.string sCommonTerms] w fun r w' => r = .returned (.string tCommonTerms) ∧ w' = w := by
  go_enter Tryz.func93, Tryz.ntmps93
  go_wp2
  go_ret
  exact ⟨rfl, rfl⟩
set_option maxRecDepth 20000 in
theorem rows_commonTerms (w : World) : Calls Tryz.prog 73 #[.string sCommonTerms] w fun r w' => ∃ v, r = .returned v ∧ Own2 w' w.heap.size v rCommonTerms ∧ Ext w w' :=
  rows_any sCommonTerms tCommonTerms w table_commonTerms 10 (by decide) (by decide)
section
variable {P : Program} {ops : Array Oper} {Q : Exit → Act → World → Prop} {S : World → Prop}
def rdyC (b1 b2 b3 b6 : Bool) : List Nat := (bif b1 then [] else [1]) ++ (bif b2 then [] else [2]) ++ (bif b1 && b2 && !b3 then [3] else []) ++ (bif b6 then [] else [6])
def cntC (b1 b2 b3 b6 : Bool) : Nat := (!b1).toNat + (!b2).toNat + (!b3).toNat + (!b6).toNat
theorem wpAnyN_common {held : List Nat} (J : Bool → Bool → Bool → Bool → Act → World → Prop) (hS : ∀ b1 b2 b3 b6 a w, J b1 b2 b3 b6 a w → S w)
    (r : ∀ b1 b2 b3 b6, (b1 && b2 && b3 && b6) = false → (!b3 || (b1 && b2)) = true → Region.ready .any ops #[true, b1, b2, b3, true, true, b6, false, false] = rdyC b1 b2 b3 b6)
    (s1 : ∀ b2 b6 a w, J false b2 false b6 a w → wpOp P ops Q 1 (fun a' w' => J true b2 false b6 a' w') a w)
    (s2 : ∀ b1 b6 a w, J b1 false false b6 a w → wpOp P ops Q 2 (fun a' w' => J b1 true false b6 a' w') a w)
    (s3 : ∀ b6 a w, J true true false b6 a w → wpOp P ops Q 3 (fun a' w' => J true true true b6 a' w') a w)
    (s6 : ∀ b1 b2 b3 a w, J b1 b2 b3 false a w → wpOp P ops Q 6 (fun a' w' => J b1 b2 b3 true a' w') a w)
    (fin : ∀ a w, J true true true true a w → wpAnyN P .any ops Q S held 2 #[true, true, true, true, true, true, true, false, false] a w) :
    ∀ (n : Nat) (b1 b2 b3 b6 : Bool), n = cntC b1 b2 b3 b6 → (!b3 || (b1 && b2)) = true → ∀ a w, J b1 b2 b3 b6 a w → wpAnyN P .any ops Q S held (n + 2) #[true, b1, b2, b3, true, true, b6, false, false] a w := by
  intro n
  induction n with
  | zero =>
    intro b1 b2 b3 b6 hn hv a w h
    cases b1 <;> cases b2 <;> cases b3 <;> cases b6 <;> first
      | exact fin a w h
      | exact absurd hn (by decide)
  | succ n ih =>
    intro b1 b2 b3 b6 hn hv a w h
    have hb : (b1 && b2 && b3 && b6) = false := by
      cases b1 <;> cases b2 <;> cases b3 <;> cases b6 <;> first
        | rfl
        | (simp [cntC] at hn)
    have hr := r b1 b2 b3 b6 hb hv
    refine ⟨fun h0 => ?_, fun i hi => ?_⟩
    · rw [hr] at h0
      cases b1 <;> cases b2 <;> cases b3 <;> cases b6 <;> simp [rdyC] at h0 hb hv
    · rw [hr] at hi
      have h4 : (i = 1 ∧ b1 = false ∧ b3 = false) ∨ (i = 2 ∧ b2 = false ∧ b3 = false) ∨ (i = 3 ∧ b1 = true ∧ b2 = true ∧ b3 = false) ∨ (i = 6 ∧ b6 = false) := by
        cases b1 <;> cases b2 <;> cases b3 <;> cases b6 <;> simp [rdyC] at hi hv ⊢ <;> omega
      rcases h4 with ⟨rfl, rfl, rfl⟩ | ⟨rfl, rfl, rfl⟩ | ⟨rfl, rfl, rfl, rfl⟩ | ⟨rfl, rfl⟩
      · exact wpOp_mono (fun a' w' h' => ⟨fun _ => hS _ _ _ _ _ _ h', ih true b2 false b6 (by simp [cntC] at hn ⊢; omega) rfl a' w' h'⟩) (s1 b2 b6 a w h)
      · exact wpOp_mono (fun a' w' h' => ⟨fun _ => hS _ _ _ _ _ _ h', ih b1 true false b6 (by simp [cntC] at hn ⊢; omega) rfl a' w' h'⟩) (s2 b1 b6 a w h)
      · exact wpOp_mono (fun a' w' h' => ⟨fun _ => hS _ _ _ _ _ _ h', ih true true true b6 (by simp [cntC] at hn ⊢; omega) rfl a' w' h'⟩) (s3 b6 a w h)
      · exact wpOp_mono (fun a' w' h' => ⟨fun _ => hS _ _ _ _ _ _ h', ih b1 b2 b3 true (by simp [cntC] at hn ⊢; omega) hv a' w' h'⟩) (s6 b1 b2 b3 a w h)
theorem anyN_held {l : List Oper} {held : List Nat} {i fuel : Nat} {listed : Array Bool} {oi : Oper} {v : Value} {a : Act} {w : World} (hc : held.contains i = true) (hi : l[i]? = some oi) (hsel : Region.noSelect l.toArray = true) (hQ : ∀ (d : Option Tmp) (v : Value) c a w, Q (.panic c) (a.put d v) w → Q (.panic c) a w)
    (hB : ((Region.ready .any l.toArray listed).contains i && Region.free .any l.toArray listed i) = true) (hg : oi.guard = none) (hS : S w) (hy : ∀ w, S w → (execOp a.eval oi).run P w = .ok (.value v) w) (h : wpAnyN P .any l.toArray Q S held fuel (listed.setIfInBounds i true) (a.put oi.dst v) w) : wpAnyN P .any l.toArray Q S held (fuel + 1) listed a w := by
  simp only [Bool.and_eq_true] at hB
  exact wpAnyN_first (by simpa using hc) (by simpa using hi) (Region.noSelect_spec hsel) (hQ oi.dst v) fuel listed a w (Region.free_spec (by simpa using hi) hB.2) (by simpa using hB.1) (.inl ⟨by simp [Region.wanted, hg], hy⟩) hS h
end
theorem OwnPairs.low {w : World} {base base' : Nat} {v : Value} {es : List (ByteArray × El)} (h : OwnPairs w base v es) (hb : base' ≤ base) : OwnPairs w base' v es := by
  obtain ⟨h1, h2⟩ := id h
  refine ⟨h1, ?_⟩
  rcases h2 with h2 | ⟨g, cap, cur, rfl, hg, h3⟩
  · exact .inl h2
  · exact .inr ⟨g, cap, cur, rfl, by omega, h3⟩
theorem pk_noneC {S S' : Nat → Prop} {w w' : World} {es : List (ByteArray × El)} {ps : List (ByteArray × T)} (h : Pk S w es ps) (hs : ∀ p ∈ ps, scalarT p.2 = true) : Pk S' w' es ps :=
  (pk_looseG (S' := fun _ => False) h hs).keep (fun _ h _ => h.elim) (fun _ h _ => h.elim)
abbrev cmOut : List ByteArray := [s_high_freq, s_low_freq]
abbrev cmNames : List ByteArray := [s_low_freq, s_high_freq]
def lastK (ps : List (ByteArray × T)) (k : ByteArray) : List (ByteArray × T) := (lastOf ps k).toList.map fun t => (k, t)
def leastL (ps : List (ByteArray × T)) : List (ByteArray × T) := cmNames.flatMap (lastK ps)
def leastT (ps : List (ByteArray × T)) : List (ByteArray × T) := if (leastL ps).isEmpty then [] else [(s_minimum_should_match, mapT (leastL ps))]
def cmB (t : T) (ps : List (ByteArray × T)) : List (ByteArray × T) := ((paramsL rCommonTerms ps).filter fun p => !hasS cmOut p.1) ++ (s_query, t) :: leastT ps
def JC (w2 : World) (R : Nat) (f : ByteArray) (e : El) (a : Option Addr) (n c : Nat) (ps : List (ByteArray × T)) (b1 b2 b3 b6 : Bool) (a' : Act) (w' : World) : Prop := ∃ (pv kv : Value) (es ks : List (ByteArray × El)) (g15 g19 : Nat), Ext w2 w' ∧ (b1 = true → OwnPairs w' w2.heap.size pv es ∧ ∀ (S' : Nat → Prop) (u : World), Pk S' u es (paramsL rCommonTerms ps)) ∧ (b2 = true → Box w' g15 #[.string s_high_freq, .string s_low_freq] 9) ∧ (b3 = true → OwnPairs w' w2.heap.size kv ks ∧ ∀ (S' : Nat → Prop) (u : World), Pk S' u ks ((paramsL rCommonTerms ps).filter fun p => !hasS cmOut p.1)) ∧ (b6 = true → Box w' g19 #[.string s_query, .int .i64 e.k, .string e.x, .float .f64 e.d, .bool e.y, .slice e.ka e.n e.kc, .slice e.ca e.m e.cc] 72) ∧ a' = ⟨#[.string f, e.val, .slice a n c, undef, .pointer (some ⟨R, 0, none⟩), undef, .pointer (some ⟨R + 1, 0, none⟩), undef, undef, undef, undef, undef, undef, .slice a n c, bif b1 then pv else undef, bif b2 then .slice (some ⟨g15, 0, none⟩) 2 2 else undef, bif b3 then kv else undef, e.val, .agg #[.string s_query, .int .i64 e.k, .string e.x, .float .f64 e.d, .bool e.y, .slice e.ka e.n e.kc, .slice e.ca e.m e.cc], bif b6 then .slice (some ⟨g19, 0, none⟩) 1 1 else undef, undef, undef, undef, undef, undef, undef, undef, undef, undef, undef, undef, undef, undef, undef, undef, undef, undef, undef, undef, undef, undef, undef, undef, undef, undef, undef, undef, undef, undef, undef, undef, undef, undef, undef, undef], []⟩
set_option maxRecDepth 20000 in
set_option maxHeartbeats 8000000 in
theorem cmS_any {S : Nat → Prop} (lw : ByteArray → ByteArray) (f : ByteArray) (v : El) (t : T) (a : Option Addr) (n c : Nat) (ps : List (ByteArray × T)) (w : World) (h : PairsAt S w a n c ps) (hv : TreeAt S w v t) (hSc : ∀ p ∈ paramsL rCommonTerms ps, scalarT p.2 = true) (htS : scalarT t = true) (hLs : ∀ k ∈ cmNames, ∀ u, lastOf ps k = some u → scalarT u = true)
    (hok : okF (mapT [(s_common, mapT [(f, mapT (cmB t ps))])])) (hlow : ∀ s ∈ opTexts (mapT [(s_common, mapT [(f, mapT (cmB t ps))])]), LowerAt lw w s) :
    Calls Tryz.prog 13 #[.string f, v.val, .slice a n c] w fun r w' => ∃ g : El, r = .returned g.val ∧ TreeAt (fun _ => True) w' g (readV lw s_common f (cmB t ps)) ∧ Ext w w' := by
  obtain ⟨vk, vx, vd, vy, vka, vn, vkc, vca, vm, vcc⟩ := v
  have HOKT := Lib.hid hok
  have HLOW := Lib.hid hlow
  have HVT := Lib.hid (fun (S' : Nat → Prop) (u : World) => (TreeAt.keep (S' := S') (fun _ h _ => h.elim) (fun _ h _ => h.elim) t (tree_looseG (S' := fun _ => False) hv htS) : TreeAt S' u (⟨vk, vx, vd, vy, vka, vn, vkc, vca, vm, vcc⟩ : El) t))
  have HSC := Lib.hid hSc
  have HLS := Lib.hid hLs
  have HP := Lib.hid (fun (w' : World) (x : Ext w w') => params_any sCommonTerms tCommonTerms a n c ps w' table_commonTerms 10 (by decide) (by decide) rCommonTerms (by decide) (by decide) (h.ext x))
  have HPL := Lib.hid (params_len rCommonTerms ps)
  have HLa := Lib.hid (fun (s : ByteArray) (w' : World) (x : Ext w w') => last_any a n c ps s w' (h.ext x))
  have hx0 : Ext w ((w.alloc (.cells (⟨vk, vx, vd, vy, vka, vn, vkc, vca, vm, vcc⟩ : El).arr 26)).alloc (.cells (El.arr El0) 26)) := ext_alloc (ext_alloc (ext_refl _) _) _
  have hbt : Box ((w.alloc (.cells (⟨vk, vx, vd, vy, vka, vn, vkc, vca, vm, vcc⟩ : El).arr 26)).alloc (.cells (El.arr El0) 26)) w.heap.size (⟨vk, vx, vd, vy, vka, vn, vkc, vca, vm, vcc⟩ : El).arr 26 := (Box.at rfl _ _).alloc _
  have hb0 : Box ((w.alloc (.cells (⟨vk, vx, vd, vy, vka, vn, vkc, vca, vm, vcc⟩ : El).arr 26)).alloc (.cells (El.arr El0) 26)) (w.heap.size + 1) (El.arr El0) 26 := Box.at (by simp) _ _
  have hs2 : w.heap.size + 2 ≤ ((w.alloc (.cells (⟨vk, vx, vd, vy, vka, vn, vkc, vca, vm, vcc⟩ : El).arr 26)).alloc (.cells (El.arr El0) 26)).heap.size := by simp
  clear h hv hok hlow hSc htS hLs
  simp only [El.val]
  go_enter Tryz.func13, Tryz.ntmps13
  go_upto_region 1 with fail
  generalize ((w.alloc (.cells (⟨vk, vx, vd, vy, vka, vn, vkc, vca, vm, vcc⟩ : El).arr 26)).alloc (.cells (El.arr El0) 26)) = w2 at hx0 hbt hb0 hs2 ⊢
  have hx0d := ext_trans hx0 (ext_drew (ext_refl w2))
  refine wp_region_any (by kernel_rfl) ?_
  refine wpAny_of_N (S := fun w' => Six w' w.heap.size (⟨vk, vx, vd, vy, vka, vn, vkc, vca, vm, vcc⟩ : El)) (held := [0, 4, 5, 8]) 9 _ _ _ ?_
  have hS : (fun w' => Six w' w.heap.size (⟨vk, vx, vd, vy, vka, vn, vkc, vca, vm, vcc⟩ : El)) w2.drew := hbt.drew.Six
  refine anyN_held (i := 0) (v := .slice a n c) rfl rfl (by kernel_rfl) (fun d _ _ _ _ h => by cases d <;> exact h) (by kernel_rfl) rfl hS ?_ ?_
  · intro w' hS'
    go_simp
  (try simp only [Act.put, List.setIfInBounds_toArray, List.set_cons_zero, List.set_cons_succ])
  refine anyN_held (i := 4) (v := .agg #[.int .i64 vk, .string vx, .float .f64 vd, .bool vy, .slice vka vn vkc, .slice vca vm vcc]) rfl rfl (by kernel_rfl) (fun d _ _ _ _ h => by cases d <;> exact h) (by kernel_rfl) rfl hS ?_ ?_
  · intro w' hS'
    go_simp
  (try simp only [Act.put, List.setIfInBounds_toArray, List.set_cons_zero, List.set_cons_succ])
  refine anyN_held (i := 5) (v := .agg #[.string s_query, .int .i64 vk, .string vx, .float .f64 vd, .bool vy, .slice vka vn vkc, .slice vca vm vcc]) rfl rfl (by kernel_rfl) (fun d _ _ _ _ h => by cases d <;> exact h) (by kernel_rfl) rfl hS ?_ ?_
  · intro w' hS'
    go_simp
  (try simp only [Act.put, List.setIfInBounds_toArray, List.set_cons_zero, List.set_cons_succ])
  clear hS
  refine wpAnyN_common (JC w2 w.heap.size f (⟨vk, vx, vd, vy, vka, vn, vkc, vca, vm, vcc⟩ : El) a n c ps) ?_ (by intro b1 b2 b3 b6 h1 h2; cases b1 <;> cases b2 <;> cases b3 <;> cases b6 <;> first | (exact absurd h1 (by decide)) | (exact absurd h2 (by decide)) | kernel_rfl) ?_ ?_ ?_ ?_ ?_ 4 false false false false rfl rfl _ _ ?_
  · rintro b1 b2 b3 b6 a' w' ⟨pv, kv, es, ks, g15, g19, x, -⟩
    exact (hbt.ext x).Six
  · rintro b2 b6 a' w' ⟨pv, kv, es, ks, g15, g19, x, -, h2, -, h6, rfl⟩
    refine op_loud rfl rfl ?_
    go_simp
    refine (HP.out _ (ext_trans hx0 x)).mono ?_
    rintro r wq ⟨pv, es, rfl, hO, hPk, hxq⟩
    unfold JC
    exact ⟨pv, kv, es, ks, g15, g19, ext_trans x hxq, fun _ => ⟨OwnPairs.low hO x.sz, fun S' u => pk_noneC hPk HSC.out⟩, fun e => (h2 e).ext hxq, by simp, fun e => (h6 e).ext hxq, rfl⟩
  · rintro b1 b6 a' w' ⟨pv, kv, es, ks, g15, g19, x, h1, -, -, h6, rfl⟩
    refine op_loud rfl rfl ?_
    go_simp
    unfold JC
    have x1 : Ext w' (w'.alloc (.cells #[.string s_high_freq, .string s_low_freq] 9)) := ext_alloc (ext_refl _) _
    exact ⟨pv, kv, es, ks, w'.heap.size, g19, ext_trans x x1, fun e => ⟨(h1 e).1.ext x1, (h1 e).2⟩, fun _ => Box.at rfl _ _, by simp, fun e => (h6 e).ext x1, rfl⟩
  · rintro b6 a' w' ⟨pv, kv, es, ks, g15, g19, x, h1, h2, -, h6, rfl⟩
    obtain ⟨hO, hPk⟩ := h1 rfl
    have hB := h2 rfl
    have hel : es.length ≤ 8 := by have h3 := (hPk (fun _ => True) w').1; have h4 := HPL.out; simp only [List.length_cons, List.length_nil] at h4; omega
    obtain ⟨pa, pc, hpe, hPA⟩ := hO.pairs (S := fun _ => True) (ps := (paramsL rCommonTerms ps)) (hPk (fun _ => True) w').1 (fun _ _ => trivial) (fun i e p he hp => (hPk (fun _ => True) w').2 i e p he hp)
    have hpl : (paramsL rCommonTerms ps).length = es.length := (hPk (fun _ => True) w').1
    rw [hpl] at hpe hPA
    subst hpe
    have hln : StrsAt (fun _ => True) w' (some ⟨g15, 0, none⟩) 2 2 cmOut := ⟨rfl, Nat.le_refl _, by simp [maxLen], fun i s hs => by
      match i, hs with
      | 0, hs => simp [cmOut] at hs; subst hs; exact ⟨_, 0, rfl, trivial, hB.cell 0 _ rfl⟩
      | 1, hs => simp [cmOut] at hs; subst hs; exact ⟨_, 0, rfl, trivial, hB.cell 1 _ rfl⟩⟩
    refine op_loud rfl rfl ?_
    go_simp
    refine (pick_any pa es.length pc (paramsL rCommonTerms ps) (some ⟨g15, 0, none⟩) 2 2 cmOut w' hPA hln (by omega)).mono ?_
    rintro r wq ⟨kv, ks, rfl, hOk, hPkk, hxq⟩
    unfold JC
    exact ⟨_, kv, es, ks, g15, g19, ext_trans x hxq, fun _ => ⟨hO.ext hxq, hPk⟩, fun _ => hB.ext hxq, fun _ => ⟨OwnPairs.low hOk x.sz, fun S' u => pk_noneC hPkk (fun p hp => HSC.out p (List.mem_filter.1 hp).1)⟩, fun e => (h6 e).ext hxq, rfl⟩
  · rintro b1 b2 b3 a' w' ⟨pv, kv, es, ks, g15, g19, x, h1, h2, h3, -, rfl⟩
    refine op_loud rfl rfl ?_
    go_simp
    unfold JC
    have x1 : Ext w' (w'.alloc (.cells #[.string s_query, .int .i64 vk, .string vx, .float .f64 vd, .bool vy, .slice vka vn vkc, .slice vca vm vcc] 72)) := ext_alloc (ext_refl _) _
    exact ⟨pv, kv, es, ks, g15, w'.heap.size, ext_trans x x1, fun e => ⟨(h1 e).1.ext x1, (h1 e).2⟩, fun e => (h2 e).ext x1, fun e => ⟨(h3 e).1.ext x1, (h3 e).2⟩, fun _ => Box.at rfl _ _, rfl⟩
  · rintro a' w' ⟨pv, kv, es, ks, g15, g19, x, -, -, h3, h6, rfl⟩
    obtain ⟨hO, hPk⟩ := h3 rfl
    have hB := h6 rfl
    have HKB := Lib.hid (fun (S' : Nat → Prop) (u : World) => Pk.append (hPk S' u) (Pk.one (k := s_query) (HVT.out S' u)))
    have hkl : ks.length ≤ 8 := by have h3 := (hPk (fun _ => True) w').1; have h4 := HPL.out; have h5 := List.length_filter_le (fun p : ByteArray × T => !hasS cmOut p.1) (paramsL rCommonTerms ps); simp only [List.length_cons, List.length_nil] at h4; omega
    have hob : ∀ q, kv.ownBlock = some q → w2.heap.size ≤ q ∧ q < w'.heap.size := fun q hq => hO.block hq
    have hxs := x.sz
    simp only [cond_true, El.val]
    refine wpAnyN_of_order (by kernel_rfl) (fun d _ _ _ _ h => by cases d <;> exact h) [7, 8] _ _ _ (by kernel_rfl) ?_
    apply ord_loud rfl rfl rfl
    intro K hK
    refine wp_append_pairs _ _ _ rfl w2.heap.size kv ks rfl hO g19 0 1 [(s_query, (⟨vk, vx, vd, vy, vka, vn, vkc, vca, vm, vcc⟩ : El))] (by simp) rfl (fun i p hp => by
      cases i with
      | zero => simp at hp; subst hp; exact ⟨hB.cell 0 _ rfl, hB.cell 1 _ rfl, hB.cell 2 _ rfl, hB.cell 3 _ rfl, hB.cell 4 _ rfl, hB.cell 5 _ rfl, hB.cell 6 _ rfl⟩
      | succ i => simp at hp) (by simp; omega) hxs ?_
    intro g1 cap1 w4 hown hgrow hlies hglt
    have hbt4 := (hbt.ext x).grown hgrow (fun e => by have := hob _ e.symm; omega)
    have hS : (fun w' => Six w' w.heap.size (⟨vk, vx, vd, vy, vka, vn, vkc, vca, vm, vcc⟩ : El)) w4 := hbt4.Six
    refine hK _ _ (fun _ => hS) ?_
    clear hK K
    (try simp only [Act.put, List.setIfInBounds_toArray, List.set_cons_zero, List.set_cons_succ])
    (apply ord_held rfl rfl (by assumption) rfl; (focus ((intro w' hS'); go_simp; (try with_reducible rfl))); (try simp only [Act.put, List.setIfInBounds_toArray, List.set_cons_zero, List.set_cons_succ]))
    refine ord_end ?_
    have hx4 : Ext w w4 := ext_grown (ext_trans hx0 x) hgrow (fun k hk => by have := hob k hk; have := hx0.sz; omega)
    have hb4 := (hb0.ext x).grown hgrow (fun e => by have := hob _ e.symm; omega)
    have hs4 : w2.heap.size ≤ w4.heap.size := Nat.le_trans hxs hgrow.size
    have hOB : OwnPairs w4 w2.heap.size (.slice (some ⟨g1, 0, none⟩) (ks.length + 1) cap1) (ks ++ [(s_query, (⟨vk, vx, vd, vy, vka, vn, vkc, vca, vm, vcc⟩ : El))]) := by simpa using hown
    have hl4 := hb4.lt
    have hg14 : g1 < w4.heap.size := hglt
    have hg1b : w2.heap.size ≤ g1 := (hOB.block (g := g1) rfl).1
    clear h3 h6 hO hPk hB hbt4 hS hgrow hlies hown hob
    generalize hkn : ks ++ [(s_query, (⟨vk, vx, vd, vy, vka, vn, vkc, vca, vm, vcc⟩ : El))] = kb at HKB hOB
    have hkb : kb.length = ks.length + 1 := by rw [← hkn]; simp
    rw [← hkb] at hOB
    rw [← hkb]
    have hkb9 : kb.length ≤ 9 := by omega
    clear hkn hkb
    go_wp2_with fail
    go_loopw [8, 24] (fun v i wq => Ext w wq ∧ w4.heap.size + 2 ≤ wq.heap.size ∧ Box wq (w.heap.size + 1) (El.arr El0) 26 ∧ OwnPairs wq w2.heap.size (.slice (some ⟨g1, 0, none⟩) kb.length cap1) kb ∧ Box wq (w4.heap.size + 1) #[.string s_low_freq, .string s_high_freq] 9 ∧ ∃ (j : Nat) (es : List (ByteArray × El)) (vv : Value), vv = v ∧ j ≤ 2 ∧ i = .int .i64 j ∧ OwnPairs wq w4.heap.size vv es ∧ vv.ownBlock ≠ some (w4.heap.size + 1) ∧ es.length ≤ j ∧ ∀ (S' : Nat → Prop) (u : World), Pk S' u es ((cmNames.take j).flatMap (lastK ps))) (fun _ i _ => 2 - (intOf i).toNat)
    case atStart =>
      exact ⟨ext_alloc (ext_alloc hx4 _) _, by simp, (hb4.alloc _).alloc _, hOB.ext (ext_alloc (ext_alloc (ext_refl _) _) _), Box.at (by simp) _ _, 0, [], _, rfl, by omega, rfl, ⟨rfl, .inr ⟨w4.heap.size, 0, #[], rfl, Nat.le_refl _, (Box.at rfl _ _).alloc _, Nat.le_refl _, by simp [maxLen], rfl, rfl⟩⟩, by simp [Value.ownBlock], Nat.zero_le _, fun _ _ => ⟨rfl, fun _ _ _ h => by simp at h⟩⟩
    case round =>
      clear hb4 hOB hx4
      obtain ⟨hx, hsz, hbR, hOB, hbN, j, es, vv, hvv, hj, rfl, hO, hnn, hel, hP⟩ := hrel
      subst hvv
      have HO := Lib.hid hO
      have HOB := Lib.hid hOB
      have HPk := Lib.hid hP
      have hbk : ∀ q, vv.ownBlock = some q → w4.heap.size ≤ q ∧ q < wr.heap.size := fun q hq => World.ownsRow.lt hO q hq
      have hg1 : g1 < wr.heap.size := (hOB.block (g := g1) rfl).2
      clear hO hP hOB
      by_cases hlt : j < 2
      case pos =>
        obtain ⟨nm, hnm⟩ : ∃ nm, cmNames[j]? = some nm := some_of_lt (l := cmNames) rfl hlt
        have hcell : wr.cell? ⟨w4.heap.size + 1, j, none⟩ = some (.string nm) := by
          match j, hlt, hnm with
          | 0, _, hnm => simp [cmNames] at hnm; subst hnm; exact hbN.cell 0 _ rfl
          | 1, _, hnm => simp [cmNames] at hnm; subst hnm; exact hbN.cell 1 _ rfl
        have htk : (cmNames.take (j + 1)).flatMap (lastK ps) = (cmNames.take j).flatMap (lastK ps) ++ lastK ps nm := by
          rw [take_snoc hnm, List.flatMap_append]
          simp
        have HTK := Lib.hid htk
        have hmem := List.mem_of_getElem? hnm
        cases hlo : lastOf ps nm with
        | none =>
          have h0 : lastK ps nm = [] := by unfold lastK; rw [hlo]; rfl
          have H0 := Lib.hid h0
          clear h0 hnm htk hmem
          go_wp2_with (first
            | (go_at_call 49; refine (HLa.out _ _ hx).mono ?_; rintro r wl ⟨gh, rfl, hTh, hxl⟩; rw [hlo] at hTh ⊢; simp only [El.val, Option.isSome, Option.getD] at hTh ⊢
               clear hTh)
            | fail)
          have hxla : Ext wr (wl.alloc (.cells gh.arr 26)) := ext_alloc hxl _
          go_roundw
          case rel => exact ⟨ext_trans hx hxla, Nat.le_trans hsz hxla.sz, hbR.ext hxla, HOB.out.ext hxla, hbN.ext hxla, j + 1, es, _, rfl, by omega, by go_num, HO.out.ext hxla, hnn, by omega, fun S' u => by rw [HTK.out, H0.out, List.append_nil]; exact HPk.out S' u⟩
          case measure => simp [intOf]; omega
        | some th =>
          have h0 : lastK ps nm = [(nm, th)] := by unfold lastK; rw [hlo]; rfl
          have H0 := Lib.hid h0
          have hths : scalarT th = true := HLS.out nm hmem th hlo
          have HTHS := Lib.hid hths
          clear h0 hnm htk hmem hths
          go_wp2_with (first
            | (go_at_call 49; refine (HLa.out _ _ hx).mono ?_; rintro r wl ⟨gh, rfl, hTh, hxl⟩; rw [hlo] at hTh ⊢; simp only [El.val, Option.isSome, Option.getD] at hTh ⊢
               have hbh : Box (wl.alloc (.cells gh.arr 26)) wl.heap.size gh.arr 26 := Box.at rfl _ _
               obtain ⟨t0, t1, t2, t3, t4, t5⟩ := hbh.six
               have hszl := hxl.sz
               have hxla : Ext wr (wl.alloc (.cells gh.arr 26)) := ext_alloc hxl _
               have x3 : Ext wr ((wl.alloc (.cells gh.arr 26)).alloc (.cells #[.string nm, .int .i64 gh.k, .string gh.x, .float .f64 gh.d, .bool gh.y, .slice gh.ka gh.n gh.kc, .slice gh.ca gh.m gh.cc] 72)) := ext_alloc hxla _
               have hs3 : w4.heap.size ≤ ((wl.alloc (.cells gh.arr 26)).alloc (.cells #[.string nm, .int .i64 gh.k, .string gh.x, .float .f64 gh.d, .bool gh.y, .slice gh.ka gh.n gh.kc, .slice gh.ca gh.m gh.cc] 72)).heap.size := Nat.le_trans (by omega) x3.sz
               have hbp : Box ((wl.alloc (.cells gh.arr 26)).alloc (.cells #[.string nm, .int .i64 gh.k, .string gh.x, .float .f64 gh.d, .bool gh.y, .slice gh.ka gh.n gh.kc, .slice gh.ca gh.m gh.cc] 72)) (wl.heap.size + 1) #[.string nm, .int .i64 gh.k, .string gh.x, .float .f64 gh.d, .bool gh.y, .slice gh.ka gh.n gh.kc, .slice gh.ca gh.m gh.cc] 72 := Box.at (by simp) _ _
               have HTp := Lib.hid (fun (S' : Nat → Prop) (u : World) => (TreeAt.keep (S' := S') (w' := u) (fun _ h _ => h.elim) (fun _ h _ => h.elim) th (tree_looseG (S' := fun _ => False) hTh HTHS.out)))
               clear hTh)
            | (at_builtin; refine list_append_pairs _ rfl _ _ rfl w4.heap.size vv es rfl (HO.out.ext x3) (wl.heap.size + 1) 0 1 [(nm, gh)] (by simp) rfl (fun i q hq => by
                 cases i with
                 | zero => simp at hq; subst hq; exact ⟨hbp.cell 0 _ rfl, hbp.cell 1 _ rfl, hbp.cell 2 _ rfl, hbp.cell 3 _ rfl, hbp.cell 4 _ rfl, hbp.cell 5 _ rfl, hbp.cell 6 _ rfl⟩
                 | succ i => simp at hq) (by simp; omega) hs3 ?_; intro g5 cap5 w8 hown hgrow hlies hglt
               have HOW := Lib.hid hown
               have HGR := Lib.hid hgrow
               have HLI := Lib.hid hlies
               clear hgrow hlies hown hbp t0 t1 t2 t3 t4 t5 hbh)
            | fail)
          have hgrow := HGR.out
          have hlies := HLI.out
          have hxw8 : Ext w w8 := ext_grown (ext_trans hx x3) hgrow (fun q hq => by have := hbk q hq; have := hx0.sz; omega)
          have hbR8 := (hbR.ext x3).grown hgrow (fun e => by have := hbk _ e.symm; omega)
          have hbN8 := (hbN.ext x3).grown hgrow (fun e => hnn e.symm)
          have hOB8 := OwnPairs.grown (HOB.out.ext x3) hgrow (.inr (fun e => by
            have h1 := hbk g1 e.symm
            have h2 : g1 < w4.heap.size := hg14
            omega))
          have hsz8 : w4.heap.size + 2 ≤ w8.heap.size := Nat.le_trans (Nat.le_trans hsz x3.sz) hgrow.size
          have hg5 : g5 ≠ w4.heap.size + 1 := by
            rcases hlies with h | h
            · intro e
              subst e
              exact hnn h
            · have h9 : wr.heap.size ≤ g5 := Nat.le_trans x3.sz (Nat.le_of_eq h.symm)
              omega
          go_roundw
          case rel =>
            repeat apply Exists.intro
            refine And.intro ?_ rfl
            exact ⟨hxw8, hsz8, hbR8, hOB8, hbN8, j + 1, es ++ [(nm, gh)], _, rfl, by omega, by go_num, by simpa using HOW.out, by simp only [Value.ownBlock, ne_eq, Option.some.injEq]; exact hg5, by simp; omega, fun S' u => by rw [HTK.out, H0.out]; exact Pk.append (HPk.out S' u) (Pk.one (k := nm) (HTp.out S' u))⟩
          case measure => simp [intOf]; omega
      case neg =>
        have hj2 : j = 2 := by omega
        subst hj2
        have hPk : ∀ (S' : Nat → Prop) (u : World), Pk S' u es (leastL ps) := HPk.out
        have hll : (leastL ps).length = es.length := (hPk (fun _ => True) wr).1
        obtain ⟨pa, pc, hpe, hPA⟩ := HO.out.pairs (S := fun b => w4.heap.size ≤ b) (hPk (fun _ => True) wr).1 (fun b hb => (hbk b hb).1) (fun i e p he hp => (hPk _ wr).2 i e p he hp)
        rw [hll] at hpe hPA
        subst hpe
        by_cases h0 : 0 < es.length
        case pos =>
          have hlt9 : leastT ps = [(s_minimum_should_match, mapT (leastL ps))] := by
            unfold leastT
            cases hl9 : leastL ps with
            | nil => rw [hl9] at hll; simp at hll; omega
            | cons _ _ => rfl
          have hcm : cmB t ps = ((paramsL rCommonTerms ps).filter fun p => !hasS cmOut p.1) ++ [(s_query, t)] ++ [(s_minimum_should_match, mapT (leastL ps))] := by
            unfold cmB
            rw [hlt9]
            simp
          have HCM := Lib.hid hcm
          have hM := Lib.hid (map_any pa es.length pc (leastL ps) wr hPA (by omega))
          have HKB2 := Lib.hid (fun (u : World) => HKB.out (fun b => b ≠ w.heap.size + 1 ∧ (Value.slice (some ⟨g1, 0, none⟩) kb.length cap1).ownBlock ≠ some b) u)
          clear hlt9 hcm hPA hll HPk
          have HOK2 := Lib.hid (show okF (mapT [(s_common, mapT [(f, mapT (((paramsL rCommonTerms ps).filter fun p => !hasS cmOut p.1) ++ [(s_query, t)] ++ [(s_minimum_should_match, mapT (leastL ps))]))])]) by rw [← HCM.out]; exact HOKT.out)
          go_wp2_with (first
            | (go_at_call 42; refine hM.out.mono ?_; rintro r wm ⟨gm, rfl, hTm, hxm⟩; simp only [El.val]
               have x5 : Ext wr (wm.alloc (.cells #[.string s_minimum_should_match, .int .i64 gm.k, .string gm.x, .float .f64 gm.d, .bool gm.y, .slice gm.ka gm.n gm.kc, .slice gm.ca gm.m gm.cc] 72)) := ext_alloc hxm _
               have x50 : Ext wm (wm.alloc (.cells #[.string s_minimum_should_match, .int .i64 gm.k, .string gm.x, .float .f64 gm.d, .bool gm.y, .slice gm.ka gm.n gm.kc, .slice gm.ca gm.m gm.cc] 72)) := ext_alloc (ext_refl _) _
               have hbp : Box (wm.alloc (.cells #[.string s_minimum_should_match, .int .i64 gm.k, .string gm.x, .float .f64 gm.d, .bool gm.y, .slice gm.ka gm.n gm.kc, .slice gm.ca gm.m gm.cc] 72)) wm.heap.size #[.string s_minimum_should_match, .int .i64 gm.k, .string gm.x, .float .f64 gm.d, .bool gm.y, .slice gm.ka gm.n gm.kc, .slice gm.ca gm.m gm.cc] 72 := Box.at rfl _ _
               have hs5 := x5.sz
               have HTM := Lib.hid ((hTm.to (S' := fun b => b ≠ w.heap.size + 1 ∧ (Value.slice (some ⟨g1, 0, none⟩) kb.length cap1).ownBlock ≠ some b) (fun q hq _ => by
                 have h9 : w4.heap.size ≤ q := by
                   rcases hq with hq | hq
                   · exact hq.1
                   · omega
                 exact ⟨by omega, fun e => by simp only [Value.ownBlock, Option.some.injEq] at e; omega⟩)).ext x50)
               clear hTm)
            | (at_builtin; refine list_append_pairs _ rfl _ _ rfl w2.heap.size (.slice (some ⟨g1, 0, none⟩) kb.length cap1) kb rfl (HOB.out.ext x5) wm.heap.size 0 1 [(s_minimum_should_match, gm)] (by simp) rfl (fun i q hq => by
                 cases i with
                 | zero => simp at hq; subst hq; exact ⟨hbp.cell 0 _ rfl, hbp.cell 1 _ rfl, hbp.cell 2 _ rfl, hbp.cell 3 _ rfl, hbp.cell 4 _ rfl, hbp.cell 5 _ rfl, hbp.cell 6 _ rfl⟩
                 | succ i => simp at hq) (by simp; omega) (Nat.le_trans (show w2.heap.size ≤ wr.heap.size by omega) hs5) ?_; intro g6 cap6 w6 hown hgrow hlies hglt6
               have hPk6 := pk_plusG (P := fun b => b ≠ w.heap.size + 1) (g := g6) (cap := cap6) (n := kb.length + 1) (k := s_minimum_should_match) (HKB2.out (wm.alloc (.cells #[.string s_minimum_should_match, .int .i64 gm.k, .string gm.x, .float .f64 gm.d, .bool gm.y, .slice gm.ka gm.n gm.kc, .slice gm.ca gm.m gm.cc] 72))) HTM.out hgrow hlies
               have hx8 : Ext w w6 := ext_grown (ext_trans hx x5) hgrow (fun k hk => by have h7 : g1 = k := Option.some.inj hk; have := hx0.sz; have h8 := hg1b; omega)
               have hb8 := (hbR.ext x5).grown hgrow (fun e => by have h7 : w.heap.size + 1 = g1 := Option.some.inj e; have h8 := hg1b; omega)
               have hl8 := hb8.lt
               obtain ⟨pb, pd, hpe2, hPB⟩ := hown.pairs (S := fun b => b ≠ w.heap.size + 1) hPk6.1 (fun b hb => by have h7 := (World.ownsRow.lt hown b hb).1; omega) (fun i e p he hp => ⟨(hPk6.2 i e p he hp).1, (hPk6.2 i e p he hp).2.to (fun b hb _ => hb.1)⟩)
               have hpl9 : (((paramsL rCommonTerms ps).filter fun p => !hasS cmOut p.1) ++ [(s_query, t)] ++ [(s_minimum_should_match, mapT (leastL ps))]).length = kb.length + 1 := by rw [hPk6.1]; simp
               rw [hpl9] at hpe2 hPB
               simp only [List.length_cons, List.length_nil, Nat.zero_add, Value.slice.injEq] at hpe2
               obtain ⟨e8, -, e9⟩ := hpe2
               subst e8 e9
               have hIn := Lib.hid (infield_any s_common f _ _ _ (((paramsL rCommonTerms ps).filter fun p => !hasS cmOut p.1) ++ [(s_query, t)] ++ [(s_minimum_should_match, mapT (leastL ps))]) w6 hPB (by omega))
               clear hown hgrow hlies hPk6 hPB hpl9)
            | (go_at_call 50; refine hIn.out.mono ?_; rintro r w10 ⟨g3, rfl, hT10, hx10⟩; simp only [El.val]
               have hF := folded_any (S := fun b => b ≠ w.heap.size + 1) lw (mapT [(s_common, mapT [(f, mapT (((paramsL rCommonTerms ps).filter fun p => !hasS cmOut p.1) ++ [(s_query, t)] ++ [(s_minimum_should_match, mapT (leastL ps))]))])]) g3 w10 (hT10.to fun q h1 _ => by
                 rcases h1 with h | h
                 · exact h.1
                 · omega) HOK2.out (fun s hs => (HLOW.out s (by rw [HCM.out]; exact hs)).ext (ext_trans hx8 hx10))
               simp only [El.val] at hF)
            | (go_at_call 45; refine hF.mono ?_; rintro r w11 ⟨g4, rfl, hT11, hx11⟩; try simp only [El.val]
               have hbr := (hb8.ext hx10).ext hx11; obtain ⟨o0, o1, o2, o3, o4, o5⟩ := hbr.six; have f0 := hbr.free 0; have f1 := hbr.free 1; have f2 := hbr.free 2; have f3 := hbr.free 3; have f4 := hbr.free 4; have f5 := hbr.free 5)
            | fail)
          have hs10 := hx10.sz
          refine post_tree rfl rfl (hbr.sto g4) rfl ⟨g4, rfl, ?_, ext_sto6 (ext_trans hx8 (ext_trans hx10 hx11)) (by omega) _ _ _ _ _ _⟩
          refine TreeAt.keep (S := fun b => b ≠ w.heap.size + 1) (fun _ _ _ => trivial) (keeps_sto w11 (fun h => h rfl) g4) _ ?_
          rw [HCM.out]
          exact hT11.to fun q h1 _ => by
            rcases h1 with h | h
            · exact h.1
            · omega
        case neg =>
          have hle : leastL ps = [] := List.length_eq_zero_iff.1 (by omega)
          have hlt9 : leastT ps = [] := by
            unfold leastT
            rw [hle]
            rfl
          have hcm : cmB t ps = ((paramsL rCommonTerms ps).filter fun p => !hasS cmOut p.1) ++ [(s_query, t)] := by
            unfold cmB
            rw [hlt9]
          have HCM := Lib.hid hcm
          obtain ⟨pb, pd, hpe2, hPB⟩ := HOB.out.pairs (S := fun b => b ≠ w.heap.size + 1) (HKB.out (fun _ => True) wr).1 (fun b hb => by have h7 := HOB.out.block hb; omega) (fun i e p he hp => (HKB.out _ wr).2 i e p he hp)
          have hpl9 : (((paramsL rCommonTerms ps).filter fun p => !hasS cmOut p.1) ++ [(s_query, t)]).length = kb.length := (HKB.out (fun _ => True) wr).1
          rw [hpl9] at hpe2 hPB
          simp only [Value.slice.injEq] at hpe2
          obtain ⟨e8, -, e9⟩ := hpe2
          subst e8 e9
          have HOK2 := Lib.hid (show okF (mapT [(s_common, mapT [(f, mapT (((paramsL rCommonTerms ps).filter fun p => !hasS cmOut p.1) ++ [(s_query, t)]))])]) by rw [← HCM.out]; exact HOKT.out)
          clear hle hlt9 hcm hPA hll HPk
          have hx8 := hx
          have hIn := infield_any s_common f _ _ _ (((paramsL rCommonTerms ps).filter fun p => !hasS cmOut p.1) ++ [(s_query, t)]) wr hPB (by omega)
          have hb8 := hbR
          have hl8 := hb8.lt
          go_wp2_with (first
            | (go_at_call 50; refine hIn.mono ?_; rintro r w10 ⟨g3, rfl, hT10, hx10⟩; simp only [El.val]
               have hF := folded_any (S := fun b => b ≠ w.heap.size + 1) lw (mapT [(s_common, mapT [(f, mapT (((paramsL rCommonTerms ps).filter fun p => !hasS cmOut p.1) ++ [(s_query, t)]))])]) g3 w10 (hT10.to fun q h1 _ => by
                 rcases h1 with h | h
                 · exact h.1
                 · omega) HOK2.out (fun s hs => (HLOW.out s (by rw [HCM.out]; exact hs)).ext (ext_trans hx8 hx10))
               simp only [El.val] at hF)
            | (go_at_call 45; refine hF.mono ?_; rintro r w11 ⟨g4, rfl, hT11, hx11⟩; try simp only [El.val]
               have hbr := (hb8.ext hx10).ext hx11; obtain ⟨o0, o1, o2, o3, o4, o5⟩ := hbr.six; have f0 := hbr.free 0; have f1 := hbr.free 1; have f2 := hbr.free 2; have f3 := hbr.free 3; have f4 := hbr.free 4; have f5 := hbr.free 5)
            | fail)
          have hs10 := hx10.sz
          refine post_tree rfl rfl (hbr.sto g4) rfl ⟨g4, rfl, ?_, ext_sto6 (ext_trans hx8 (ext_trans hx10 hx11)) (by omega) _ _ _ _ _ _⟩
          refine TreeAt.keep (S := fun b => b ≠ w.heap.size + 1) (fun _ _ _ => trivial) (keeps_sto w11 (fun h => h rfl) g4) _ ?_
          rw [HCM.out]
          exact hT11.to fun q h1 _ => by
            rcases h1 with h | h
            · exact h.1
            · omega
  · unfold JC
    exact ⟨undef, undef, [], [], 0, 0, ext_drew (ext_refl _), by simp, by simp, by simp, by simp, rfl⟩
end Go.Proofs.YtfngaoicoecncaaGreatDoor

namespace Go.Proofs.YtfngaoicoecncaaGreatDoor
open Go.RowKit

set_option maxRecDepth 20000 in
set_option maxHeartbeats 4000000 in
theorem commonTerms_any {S : Nat → Prop} (a : Option Addr) (n c : Nat) (ps : List (ByteArray × T)) (w : World) (f : ByteArray) (hf_le : f.size ≤ maxLen) (ge : El) (gt : T) (hgT : TreeAt S w ge gt) (hgS : scalarT gt = true) (h : PairsAt S w a n c ps) :
    Calls Tryz.prog 10 #[.string f, ge.val, .slice a n c] w fun r w' => ∃ g : El, r = .returned (.tuple #[g.val, .bool true]) ∧ TreeAt (fun b => w.heap.size + 1 ≤ b) w' g (treeJ (jMap [(s_common, jMap [(f, jMap ([(s_query, jOf gt)] ++ jN s_cutoff_frequency (lastOf ps s_cutoff_frequency) ++ jT s_high_freq_operator (lastOf ps s_high_freq_operator) ++ jT s_low_freq_operator (lastOf ps s_low_freq_operator) ++ jMM (lastOf ps s_low_freq) (lastOf ps s_high_freq) ++ jT s_analyzer (lastOf ps s_analyzer) ++ jN s_boost (lastOf ps s_boost) ++ jT s_name (lastOf ps s_name)))])])) ∧ Ext w w' := by
  obtain ⟨hl, hn, hm, hc⟩ := h
  unfold maxLen at hm
  have HL := Lib.hid hl
  clear hl
  have HPg := Lib.hid (fun (w1 : World) (x : Ext w w1) => plain_any ge gt w1 (hgT.ext x) hgS)
  clear hgT
  simp only [El.val]
  go_enter Tryz.func10, Tryz.ntmps10
  go_wp2_with (first
    | (go_at_call 29; refine (HPg.out _ (by (repeat (first | exact ext_refl _ | assumption | refine ext_alloc ?_ _ | refine ext_drew ?_ | refine ext_set ?_ (by simp) _ | refine ext_trans ?_ (by assumption))))).mono ?_; rintro r wpg ⟨gv, rfl, hgJ, hgx⟩; have HJg := Lib.hid hgJ; obtain ⟨gty, gx, rfl⟩ := plain_iface hgS hgJ; clear hgJ)
    | go_in)
  have hbp : Box wpg (w.heap.size + 1) (El.arr El0) 26 := (Box.at (w := w.alloc (.cells ge.arr 26)) (by simp) (El.arr El0) 26).ext hgx
  have hp0 := hgx.sz
  simp at hp0
  go_loopw [17] (fun i wr => Ext w wr ∧ (wpg.heap.size + 1) ≤ wr.heap.size ∧ Box wr (w.heap.size + 1) (El.arr El0) 26 ∧ ∃ (j : Nat) (v3 : Option Addr) (v5 : ByteArray) (v6 : ByteArray) (v8 : ByteArray) (v9 : ByteArray) (v10 : ByteArray) (v11 : Option Addr) (v12 : ByteArray), j ≤ n ∧ i = .int .i64 j ∧ Box wr wpg.heap.size #[.nilIface, .string f, .iface gty gx, .pointer v3, .pointer none, .string v5, .string v6, .pointer none, .string v8, .string v9, .string v10, .pointer v11, .string v12] 106 ∧ FN (fun q => q ≠ wpg.heap.size) wr v3 (lastOf (ps.take j) s_cutoff_frequency) ∧ v5 = fT (lastOf (ps.take j) s_high_freq_operator) ∧ v6 = fT (lastOf (ps.take j) s_high_freq) ∧ v8 = fT (lastOf (ps.take j) s_low_freq_operator) ∧ v9 = fT (lastOf (ps.take j) s_low_freq) ∧ v10 = fT (lastOf (ps.take j) s_analyzer) ∧ FN (fun q => q ≠ wpg.heap.size) wr v11 (lastOf (ps.take j) s_boost) ∧ v12 = fT (lastOf (ps.take j) s_name)) (fun i _ => n - (intOf i).toNat)
  case atStart => exact ⟨ext_alloc (ext_trans (by (repeat (first | exact ext_refl _ | assumption | refine ext_alloc ?_ _ | refine ext_drew ?_ | refine ext_set ?_ (by simp) _ | refine ext_trans ?_ (by assumption)))) hgx) _, by simp, hbp.alloc _, 0, _, _, _, _, _, _, _, _, Nat.zero_le _, rfl, Box.at rfl _ _, rfl, rfl, rfl, rfl, rfl, rfl, rfl, rfl⟩
  case round =>
    obtain ⟨hx, hsz, hb0, j, v3, v5, v6, v8, v9, v10, v11, v12, hj, rfl, hbq, h3, h5, h6, h8, h9, h10, h11, h12⟩ := hrel
    have H3 := Lib.hid h3
    have H5 := Lib.hid h5
    have H6 := Lib.hid h6
    have H8 := Lib.hid h8
    have H9 := Lib.hid h9
    have H10 := Lib.hid h10
    have H11 := Lib.hid h11
    have H12 := Lib.hid h12
    clear h3 h5 h6 h8 h9 h10 h11 h12
    have hbql := hbq.lt
    by_cases hlt : j < n
    · obtain ⟨p, hp⟩ := some_of_lt HL.out hlt
      obtain ⟨b, off, ⟨k, x, d, y, ka, kn, kc, ca, m, cc⟩, rfl, hSb, hc7, hT⟩ := hc j p hp
      obtain ⟨z0, z1, z2, z3, z4, z5, z6⟩ := Cells7.ext hx hc7
      have HP := Lib.hid hp
      have hl0 : (w.heap.size + 1) < wr.heap.size := by omega
      have hl1 : ¬ (w.heap.size + 1) = wr.heap.size := by omega
      have hl2 : wpg.heap.size < wr.heap.size + 1 := by omega
      have hTx := Lib.hid hT.parts.2.1
      have hTd := Lib.hid hT.parts.2.2.1
      have hTy := Lib.hid hT.parts.2.2.2.1
      clear hp
      have hc0 := hbq.cell 0 _ rfl
      have hf0 := hbq.free 0
      have hc1 := hbq.cell 1 _ rfl
      have hf1 := hbq.free 1
      have hc2 := hbq.cell 2 _ rfl
      have hf2 := hbq.free 2
      have hc3 := hbq.cell 3 _ rfl
      have hf3 := hbq.free 3
      have hc4 := hbq.cell 4 _ rfl
      have hf4 := hbq.free 4
      have hc5 := hbq.cell 5 _ rfl
      have hf5 := hbq.free 5
      have hc6 := hbq.cell 6 _ rfl
      have hf6 := hbq.free 6
      have hc7 := hbq.cell 7 _ rfl
      have hf7 := hbq.free 7
      have hc8 := hbq.cell 8 _ rfl
      have hf8 := hbq.free 8
      have hc9 := hbq.cell 9 _ rfl
      have hf9 := hbq.free 9
      have hc10 := hbq.cell 10 _ rfl
      have hf10 := hbq.free 10
      have hc11 := hbq.cell 11 _ rfl
      have hf11 := hbq.free 11
      have hc12 := hbq.cell 12 _ rfl
      have hf12 := hbq.free 12
      cases he0 : p.1.toList == [97, 110, 97, 108, 121, 122, 101, 114]
      · have e0 : seq p.1 s_analyzer = false := by rw [seq, show s_analyzer.toList = [97, 110, 97, 108, 121, 122, 101, 114] by rw [Lib.toList_data]]; exact he0
        cases he1 : p.1.toList == [98, 111, 111, 115, 116]
        · have e1 : seq p.1 s_boost = false := by rw [seq, show s_boost.toList = [98, 111, 111, 115, 116] by rw [Lib.toList_data]]; exact he1
          cases he2 : p.1.toList == [99, 117, 116, 111, 102, 102, 95, 102, 114, 101, 113, 117, 101, 110, 99, 121]
          · have e2 : seq p.1 s_cutoff_frequency = false := by rw [seq, show s_cutoff_frequency.toList = [99, 117, 116, 111, 102, 102, 95, 102, 114, 101, 113, 117, 101, 110, 99, 121] by rw [Lib.toList_data]]; exact he2
            cases he3 : p.1.toList == [104, 105, 103, 104, 95, 102, 114, 101, 113, 95, 111, 112, 101, 114, 97, 116, 111, 114]
            · have e3 : seq p.1 s_high_freq_operator = false := by rw [seq, show s_high_freq_operator.toList = [104, 105, 103, 104, 95, 102, 114, 101, 113, 95, 111, 112, 101, 114, 97, 116, 111, 114] by rw [Lib.toList_data]]; exact he3
              cases he4 : p.1.toList == [108, 111, 119, 95, 102, 114, 101, 113, 95, 111, 112, 101, 114, 97, 116, 111, 114]
              · have e4 : seq p.1 s_low_freq_operator = false := by rw [seq, show s_low_freq_operator.toList = [108, 111, 119, 95, 102, 114, 101, 113, 95, 111, 112, 101, 114, 97, 116, 111, 114] by rw [Lib.toList_data]]; exact he4
                cases he5 : p.1.toList == [104, 105, 103, 104, 95, 102, 114, 101, 113]
                · have e5 : seq p.1 s_high_freq = false := by rw [seq, show s_high_freq.toList = [104, 105, 103, 104, 95, 102, 114, 101, 113] by rw [Lib.toList_data]]; exact he5
                  cases he6 : p.1.toList == [108, 111, 119, 95, 102, 114, 101, 113]
                  · have e6 : seq p.1 s_low_freq = false := by rw [seq, show s_low_freq.toList = [108, 111, 119, 95, 102, 114, 101, 113] by rw [Lib.toList_data]]; exact he6
                    cases he7 : p.1.toList == [95, 110, 97, 109, 101]
                    · have e7 : seq p.1 s_name = false := by rw [seq, show s_name.toList = [95, 110, 97, 109, 101] by rw [Lib.toList_data]]; exact he7
                      go_wp2_with go_in
                      go_roundw
                      case rel =>
                        have hy := ext_alloc (ext_refl wr) (.cells #[.string p.1, .int .i64 k, .string x, .float .f64 d, .bool y, .slice ka kn kc, .slice ca m cc] 57)
                        exact ⟨ext_trans hx hy, Nat.le_trans hsz hy.sz, hb0.ext hy, j + 1, v3, v5, v6, v8, v9, v10, v11, v12, by omega, by go_num, hbq.ext hy, by rw [last_miss HP.out e2]; exact FN.ext hy H3.out, by rw [last_miss HP.out e3]; exact H5.out, by rw [last_miss HP.out e5]; exact H6.out, by rw [last_miss HP.out e4]; exact H8.out, by rw [last_miss HP.out e6]; exact H9.out, by rw [last_miss HP.out e0]; exact H10.out, by rw [last_miss HP.out e1]; exact FN.ext hy H11.out, by rw [last_miss HP.out e7]; exact H12.out⟩
                      case measure => simp [intOf]; omega
                    · have e7 : seq p.1 s_name = true := by rw [seq, show s_name.toList = [95, 110, 97, 109, 101] by rw [Lib.toList_data]]; exact he7
                      go_wp2_with go_in
                      go_roundw
                      case rel =>
                        have hk : Keeps (fun q => q ≠ wpg.heap.size) wr ((wr.setCell ⟨wpg.heap.size, 12, none⟩ (.string x)).alloc (.cells #[.string p.1, .int .i64 k, .string x, .float .f64 d, .bool y, .slice ka kn kc, .slice ca m cc] 57)) := fun q hq hlt => (Below.heap_alloc _ _ _ (by simpa using hlt)).trans (Below.heap_setCell _ _ _ _ (by simp; omega))
                        exact ⟨ext_alloc (ext_set hx (by simp; omega) _) _, by simp; omega, (hb0.other (by simp; omega) _).alloc _, j + 1, v3, v5, v6, v8, v9, v10, v11, x, by omega, by go_num, (hbq.set 12 _).alloc _, by rw [last_other HP.out e7 (seq_false.2 (by decide))]; exact FN.keep (fun _ h _ => h) hk H3.out, by rw [last_other HP.out e7 (seq_false.2 (by decide))]; exact H5.out, by rw [last_other HP.out e7 (seq_false.2 (by decide))]; exact H6.out, by rw [last_other HP.out e7 (seq_false.2 (by decide))]; exact H8.out, by rw [last_other HP.out e7 (seq_false.2 (by decide))]; exact H9.out, by rw [last_other HP.out e7 (seq_false.2 (by decide))]; exact H10.out, by rw [last_other HP.out e7 (seq_false.2 (by decide))]; exact FN.keep (fun _ h _ => h) hk H11.out, by rw [last_hit HP.out e7]; exact hTx.out⟩
                      case measure => simp [intOf]; omega
                  · have e6 : seq p.1 s_low_freq = true := by rw [seq, show s_low_freq.toList = [108, 111, 119, 95, 102, 114, 101, 113] by rw [Lib.toList_data]]; exact he6
                    go_wp2_with go_in
                    go_roundw
                    case rel =>
                      have hk : Keeps (fun q => q ≠ wpg.heap.size) wr ((wr.setCell ⟨wpg.heap.size, 9, none⟩ (.string x)).alloc (.cells #[.string p.1, .int .i64 k, .string x, .float .f64 d, .bool y, .slice ka kn kc, .slice ca m cc] 57)) := fun q hq hlt => (Below.heap_alloc _ _ _ (by simpa using hlt)).trans (Below.heap_setCell _ _ _ _ (by simp; omega))
                      exact ⟨ext_alloc (ext_set hx (by simp; omega) _) _, by simp; omega, (hb0.other (by simp; omega) _).alloc _, j + 1, v3, v5, v6, v8, x, v10, v11, v12, by omega, by go_num, (hbq.set 9 _).alloc _, by rw [last_other HP.out e6 (seq_false.2 (by decide))]; exact FN.keep (fun _ h _ => h) hk H3.out, by rw [last_other HP.out e6 (seq_false.2 (by decide))]; exact H5.out, by rw [last_other HP.out e6 (seq_false.2 (by decide))]; exact H6.out, by rw [last_other HP.out e6 (seq_false.2 (by decide))]; exact H8.out, by rw [last_hit HP.out e6]; exact hTx.out, by rw [last_other HP.out e6 (seq_false.2 (by decide))]; exact H10.out, by rw [last_other HP.out e6 (seq_false.2 (by decide))]; exact FN.keep (fun _ h _ => h) hk H11.out, by rw [last_other HP.out e6 (seq_false.2 (by decide))]; exact H12.out⟩
                    case measure => simp [intOf]; omega
                · have e5 : seq p.1 s_high_freq = true := by rw [seq, show s_high_freq.toList = [104, 105, 103, 104, 95, 102, 114, 101, 113] by rw [Lib.toList_data]]; exact he5
                  go_wp2_with go_in
                  go_roundw
                  case rel =>
                    have hk : Keeps (fun q => q ≠ wpg.heap.size) wr ((wr.setCell ⟨wpg.heap.size, 6, none⟩ (.string x)).alloc (.cells #[.string p.1, .int .i64 k, .string x, .float .f64 d, .bool y, .slice ka kn kc, .slice ca m cc] 57)) := fun q hq hlt => (Below.heap_alloc _ _ _ (by simpa using hlt)).trans (Below.heap_setCell _ _ _ _ (by simp; omega))
                    exact ⟨ext_alloc (ext_set hx (by simp; omega) _) _, by simp; omega, (hb0.other (by simp; omega) _).alloc _, j + 1, v3, v5, x, v8, v9, v10, v11, v12, by omega, by go_num, (hbq.set 6 _).alloc _, by rw [last_other HP.out e5 (seq_false.2 (by decide))]; exact FN.keep (fun _ h _ => h) hk H3.out, by rw [last_other HP.out e5 (seq_false.2 (by decide))]; exact H5.out, by rw [last_hit HP.out e5]; exact hTx.out, by rw [last_other HP.out e5 (seq_false.2 (by decide))]; exact H8.out, by rw [last_other HP.out e5 (seq_false.2 (by decide))]; exact H9.out, by rw [last_other HP.out e5 (seq_false.2 (by decide))]; exact H10.out, by rw [last_other HP.out e5 (seq_false.2 (by decide))]; exact FN.keep (fun _ h _ => h) hk H11.out, by rw [last_other HP.out e5 (seq_false.2 (by decide))]; exact H12.out⟩
                  case measure => simp [intOf]; omega
              · have e4 : seq p.1 s_low_freq_operator = true := by rw [seq, show s_low_freq_operator.toList = [108, 111, 119, 95, 102, 114, 101, 113, 95, 111, 112, 101, 114, 97, 116, 111, 114] by rw [Lib.toList_data]]; exact he4
                go_wp2_with go_in
                go_roundw
                case rel =>
                  have hk : Keeps (fun q => q ≠ wpg.heap.size) wr ((wr.setCell ⟨wpg.heap.size, 8, none⟩ (.string x)).alloc (.cells #[.string p.1, .int .i64 k, .string x, .float .f64 d, .bool y, .slice ka kn kc, .slice ca m cc] 57)) := fun q hq hlt => (Below.heap_alloc _ _ _ (by simpa using hlt)).trans (Below.heap_setCell _ _ _ _ (by simp; omega))
                  exact ⟨ext_alloc (ext_set hx (by simp; omega) _) _, by simp; omega, (hb0.other (by simp; omega) _).alloc _, j + 1, v3, v5, v6, x, v9, v10, v11, v12, by omega, by go_num, (hbq.set 8 _).alloc _, by rw [last_other HP.out e4 (seq_false.2 (by decide))]; exact FN.keep (fun _ h _ => h) hk H3.out, by rw [last_other HP.out e4 (seq_false.2 (by decide))]; exact H5.out, by rw [last_other HP.out e4 (seq_false.2 (by decide))]; exact H6.out, by rw [last_hit HP.out e4]; exact hTx.out, by rw [last_other HP.out e4 (seq_false.2 (by decide))]; exact H9.out, by rw [last_other HP.out e4 (seq_false.2 (by decide))]; exact H10.out, by rw [last_other HP.out e4 (seq_false.2 (by decide))]; exact FN.keep (fun _ h _ => h) hk H11.out, by rw [last_other HP.out e4 (seq_false.2 (by decide))]; exact H12.out⟩
                case measure => simp [intOf]; omega
            · have e3 : seq p.1 s_high_freq_operator = true := by rw [seq, show s_high_freq_operator.toList = [104, 105, 103, 104, 95, 102, 114, 101, 113, 95, 111, 112, 101, 114, 97, 116, 111, 114] by rw [Lib.toList_data]]; exact he3
              go_wp2_with go_in
              go_roundw
              case rel =>
                have hk : Keeps (fun q => q ≠ wpg.heap.size) wr ((wr.setCell ⟨wpg.heap.size, 5, none⟩ (.string x)).alloc (.cells #[.string p.1, .int .i64 k, .string x, .float .f64 d, .bool y, .slice ka kn kc, .slice ca m cc] 57)) := fun q hq hlt => (Below.heap_alloc _ _ _ (by simpa using hlt)).trans (Below.heap_setCell _ _ _ _ (by simp; omega))
                exact ⟨ext_alloc (ext_set hx (by simp; omega) _) _, by simp; omega, (hb0.other (by simp; omega) _).alloc _, j + 1, v3, x, v6, v8, v9, v10, v11, v12, by omega, by go_num, (hbq.set 5 _).alloc _, by rw [last_other HP.out e3 (seq_false.2 (by decide))]; exact FN.keep (fun _ h _ => h) hk H3.out, by rw [last_hit HP.out e3]; exact hTx.out, by rw [last_other HP.out e3 (seq_false.2 (by decide))]; exact H6.out, by rw [last_other HP.out e3 (seq_false.2 (by decide))]; exact H8.out, by rw [last_other HP.out e3 (seq_false.2 (by decide))]; exact H9.out, by rw [last_other HP.out e3 (seq_false.2 (by decide))]; exact H10.out, by rw [last_other HP.out e3 (seq_false.2 (by decide))]; exact FN.keep (fun _ h _ => h) hk H11.out, by rw [last_other HP.out e3 (seq_false.2 (by decide))]; exact H12.out⟩
              case measure => simp [intOf]; omega
          · have e2 : seq p.1 s_cutoff_frequency = true := by rw [seq, show s_cutoff_frequency.toList = [99, 117, 116, 111, 102, 102, 95, 102, 114, 101, 113, 117, 101, 110, 99, 121] by rw [Lib.toList_data]]; exact he2
            go_wp2_with go_in
            go_roundw
            case rel =>
              have hk : Keeps (fun q => q ≠ wpg.heap.size) wr (((wr.setCell ⟨wpg.heap.size, 3, none⟩ (.pointer (some ⟨wr.heap.size + 1, 0, none⟩))).alloc (.cells #[.string p.1, .int .i64 k, .string x, .float .f64 d, .bool y, .slice ka kn kc, .slice ca m cc] 57)).alloc (.cells #[.float .f64 d] 22)) := fun q hq hlt => (Below.heap_alloc _ _ _ (by simp; omega)).trans ((Below.heap_alloc _ _ _ (by simpa using hlt)).trans (Below.heap_setCell _ _ _ _ (by simp; omega)))
              have hnew : (((wr.setCell ⟨wpg.heap.size, 3, none⟩ (.pointer (some ⟨wr.heap.size + 1, 0, none⟩))).alloc (.cells #[.string p.1, .int .i64 k, .string x, .float .f64 d, .bool y, .slice ka kn kc, .slice ca m cc] 57)).alloc (.cells #[.float .f64 d] 22)).cell? ⟨wr.heap.size + 1, 0, none⟩ = some (.float .f64 d) := (Box.at (by simp) _ _).cell 0 _ rfl
              exact ⟨ext_alloc (ext_alloc (ext_set hx (by simp; omega) _) _) _, by simp; omega, ((hb0.other (by simp; omega) _).alloc _).alloc _, j + 1, some ⟨wr.heap.size + 1, 0, none⟩, v5, v6, v8, v9, v10, v11, v12, by omega, by go_num, ((hbq.set 3 _).alloc _).alloc _, by rw [last_hit HP.out e2]; exact ⟨wr.heap.size + 1, rfl, by omega, by rw [← hTd.out]; exact hnew⟩, by rw [last_other HP.out e2 (seq_false.2 (by decide))]; exact H5.out, by rw [last_other HP.out e2 (seq_false.2 (by decide))]; exact H6.out, by rw [last_other HP.out e2 (seq_false.2 (by decide))]; exact H8.out, by rw [last_other HP.out e2 (seq_false.2 (by decide))]; exact H9.out, by rw [last_other HP.out e2 (seq_false.2 (by decide))]; exact H10.out, by rw [last_other HP.out e2 (seq_false.2 (by decide))]; exact FN.keep (fun _ h _ => h) hk H11.out, by rw [last_other HP.out e2 (seq_false.2 (by decide))]; exact H12.out⟩
            case measure => simp [intOf]; omega
        · have e1 : seq p.1 s_boost = true := by rw [seq, show s_boost.toList = [98, 111, 111, 115, 116] by rw [Lib.toList_data]]; exact he1
          go_wp2_with go_in
          go_roundw
          case rel =>
            have hk : Keeps (fun q => q ≠ wpg.heap.size) wr (((wr.setCell ⟨wpg.heap.size, 11, none⟩ (.pointer (some ⟨wr.heap.size + 1, 0, none⟩))).alloc (.cells #[.string p.1, .int .i64 k, .string x, .float .f64 d, .bool y, .slice ka kn kc, .slice ca m cc] 57)).alloc (.cells #[.float .f64 d] 22)) := fun q hq hlt => (Below.heap_alloc _ _ _ (by simp; omega)).trans ((Below.heap_alloc _ _ _ (by simpa using hlt)).trans (Below.heap_setCell _ _ _ _ (by simp; omega)))
            have hnew : (((wr.setCell ⟨wpg.heap.size, 11, none⟩ (.pointer (some ⟨wr.heap.size + 1, 0, none⟩))).alloc (.cells #[.string p.1, .int .i64 k, .string x, .float .f64 d, .bool y, .slice ka kn kc, .slice ca m cc] 57)).alloc (.cells #[.float .f64 d] 22)).cell? ⟨wr.heap.size + 1, 0, none⟩ = some (.float .f64 d) := (Box.at (by simp) _ _).cell 0 _ rfl
            exact ⟨ext_alloc (ext_alloc (ext_set hx (by simp; omega) _) _) _, by simp; omega, ((hb0.other (by simp; omega) _).alloc _).alloc _, j + 1, v3, v5, v6, v8, v9, v10, some ⟨wr.heap.size + 1, 0, none⟩, v12, by omega, by go_num, ((hbq.set 11 _).alloc _).alloc _, by rw [last_other HP.out e1 (seq_false.2 (by decide))]; exact FN.keep (fun _ h _ => h) hk H3.out, by rw [last_other HP.out e1 (seq_false.2 (by decide))]; exact H5.out, by rw [last_other HP.out e1 (seq_false.2 (by decide))]; exact H6.out, by rw [last_other HP.out e1 (seq_false.2 (by decide))]; exact H8.out, by rw [last_other HP.out e1 (seq_false.2 (by decide))]; exact H9.out, by rw [last_other HP.out e1 (seq_false.2 (by decide))]; exact H10.out, by rw [last_hit HP.out e1]; exact ⟨wr.heap.size + 1, rfl, by omega, by rw [← hTd.out]; exact hnew⟩, by rw [last_other HP.out e1 (seq_false.2 (by decide))]; exact H12.out⟩
          case measure => simp [intOf]; omega
      · have e0 : seq p.1 s_analyzer = true := by rw [seq, show s_analyzer.toList = [97, 110, 97, 108, 121, 122, 101, 114] by rw [Lib.toList_data]]; exact he0
        go_wp2_with go_in
        go_roundw
        case rel =>
          have hk : Keeps (fun q => q ≠ wpg.heap.size) wr ((wr.setCell ⟨wpg.heap.size, 10, none⟩ (.string x)).alloc (.cells #[.string p.1, .int .i64 k, .string x, .float .f64 d, .bool y, .slice ka kn kc, .slice ca m cc] 57)) := fun q hq hlt => (Below.heap_alloc _ _ _ (by simpa using hlt)).trans (Below.heap_setCell _ _ _ _ (by simp; omega))
          exact ⟨ext_alloc (ext_set hx (by simp; omega) _) _, by simp; omega, (hb0.other (by simp; omega) _).alloc _, j + 1, v3, v5, v6, v8, v9, x, v11, v12, by omega, by go_num, (hbq.set 10 _).alloc _, by rw [last_other HP.out e0 (seq_false.2 (by decide))]; exact FN.keep (fun _ h _ => h) hk H3.out, by rw [last_other HP.out e0 (seq_false.2 (by decide))]; exact H5.out, by rw [last_other HP.out e0 (seq_false.2 (by decide))]; exact H6.out, by rw [last_other HP.out e0 (seq_false.2 (by decide))]; exact H8.out, by rw [last_other HP.out e0 (seq_false.2 (by decide))]; exact H9.out, by rw [last_hit HP.out e0]; exact hTx.out, by rw [last_other HP.out e0 (seq_false.2 (by decide))]; exact FN.keep (fun _ h _ => h) hk H11.out, by rw [last_other HP.out e0 (seq_false.2 (by decide))]; exact H12.out⟩
        case measure => simp [intOf]; omega
    · have hjn : j = n := by omega
      have hfull : ps.take j = ps := List.take_of_length_le (by have := HL.out; omega)
      rw [hfull] at H3 H5 H6 H8 H9 H10 H11 H12
      have hS := commonTerms_src (S := fun q => q ≠ wpg.heap.size) wr wpg.heap.size f hf_le gty gx (jOf gt) (JAt.no HJg.out) v3 _ H3.out v5 _ H5.out v6 _ H6.out v8 _ H8.out v9 _ H9.out v10 _ H10.out v11 _ H11.out v12 _ H12.out hbq
      go_wp2_with (first
        | (go_at_call 39; refine hS.mono ?_; rintro r w2 ⟨v, rfl, hJ, hx2⟩)
        | (go_at_call 38; refine (told_any v _ _ hJ).mono ?_; rintro r w3 ⟨e2, rfl, hT3, hx3⟩; simp only [El.val]
           have hb := (hb0.ext hx2).ext hx3; obtain ⟨o0, o1, o2, o3, o4, o5⟩ := hb.six; have f0 := hb.free 0; have f1 := hb.free 1; have f2 := hb.free 2; have f3 := hb.free 3; have f4 := hb.free 4; have f5 := hb.free 5))
      have hx4 := ext_trans hx (ext_trans hx2 hx3)
      have hs2 := hx2.sz
      refine post_tree2 rfl rfl (hb.sto e2) rfl ⟨e2, rfl, ?_, ext_sto6 hx4 (by omega) _ _ _ _ _ _⟩
      have hfin := TreeAt.keep (S := fun b => w2.heap.size ≤ b) (S' := fun b => w.heap.size + 1 ≤ b) (fun b hb _ => by omega) (keeps_sto (b := (w.heap.size + 1)) w3 (by omega) e2) _ hT3
      simp only [List.append_assoc, List.cons_append, List.nil_append] at hfin ⊢
      exact hfin
end Go.Proofs.YtfngaoicoecncaaGreatDoor

namespace Go.Proofs.YtfngaoicoecncaaGreatDoor
open Go.RowKit Go.Lib Go.Shelf

def lowS (s : ByteArray) : ByteArray := ⟨(Lib.toLowerD s.data.toList).toArray⟩
theorem caseX : CaseExtra Tryz.prog Tryz.lays159_ren := ⟨by kernel_rfl, by kernel_rfl, by kernel_rfl, by kernel_rfl, by kernel_rfl, by kernel_rfl⟩
theorem u8X : U8Extra Tryz.prog Tryz.lays159_ren := ⟨by kernel_rfl, by kernel_rfl, by kernel_rfl, by kernel_rfl, by kernel_rfl, by kernel_rfl, by kernel_rfl⟩
theorem accept_eq : (Rows.laid_unicode_utf8_acceptRanges : DataW Unit) = acceptData := by kernel_rfl
abbrev laidL : List (String × DataW Unit) := [("unicode/utf8.acceptRanges", Rows.laid_unicode_utf8_acceptRanges), ("unicode.CaseRanges", Rows.laid_unicode_CaseRanges), ("unicode/utf8.first", Rows.laid_unicode_utf8_first)]
theorem low_vars {W : World} (hL : laidMetH Tryz.prog laidL W) : CaseVar (Tryz.lays159_ren.g 13) caseA W ∧ Lib.Utf8Tabs (Tryz.lays159_ren.g 3) (Tryz.lays159_ren.g 4) W := by
  rw [MakeChecks.laidMetH_plain _ _ _ (by kernel_rfl)] at hL
  refine ⟨caseVar_of_reads { Tryz.lays159 with } (by kernel_rfl) caseX ?_, utf8Tabs_of_reads { Tryz.lays159 with } u8X ?_ ?_⟩
  · rw [← Pinned.caseRanges_eq]
    exact Lib.laidMet.reads hL (.tail _ (.head _))
  · rw [← Pinned.utf8First_eq]
    exact Lib.laidMet.reads hL (.tail _ (.tail _ (.head _)))
  · rw [← accept_eq]
    exact Lib.laidMet.reads hL (.head _)
theorem lower_at {W : World} (hL : laidMetH Tryz.prog laidL W) (s : ByteArray) (hs : s.size ≤ 1048576) : LowerAt lowS W s := fun w' x => by
  obtain ⟨hV, hT⟩ := low_vars hL
  have hC := Tryz.strings_ToLower_any s w' (by omega) (CaseVar_below hV x) (Utf8Tabs_below hT x)
  go_enter Tryz.func77, Tryz.ntmps77
  go_wp2_with (go_at_call 107; refine hC.mono ?_; rintro r w2 ⟨rfl, hb⟩)
  go_ret
  exact ⟨rfl, hb⟩

/-- The texts under operators are bounded. -/
def OpSmall (l : List (ByteArray × T)) : Prop := ∀ p ∈ l, opKey p.1 = true → p.2.text.size ≤ 1048576
theorem OpSmall.append {a b : List (ByteArray × T)} (h : OpSmall a) (k : OpSmall b) : OpSmall (a ++ b) := fun p hp => by
  rcases List.mem_append.1 hp with hp | hp
  · exact h p hp
  · exact k p hp
theorem opSmall_key {l : List (ByteArray × T)} {k : ByteArray} (h : KeysIn l [k]) (hk : opKeyB k = false) : OpSmall l := fun p hp ho => by
  have h1 := h p hp
  simp at h1
  rw [h1, opKey_eq, hk] at ho
  cases ho
/-- The texts of all settings are bounded. -/
def SmallAt (ps : List (ByteArray × T)) : Prop := ∀ p ∈ ps, p.2.text.size ≤ 1048576
theorem opSmall_T {ps : List (ByteArray × T)} (h : SmallAt ps) (k : ByteArray) : OpSmall (jTree (jT k (lastOf ps k))) := fun p hp _ => by
  unfold jT at hp
  split at hp
  · simp at hp
  · simp at hp
    subst hp
    cases ho : lastOf ps k with
    | none => exact (by decide : emptyS.size ≤ 1048576)
    | some t => simpa [treeJ, textT, T.text, fT] using h _ (lastOf_mem ho)
theorem opSmall_params {ps : List (ByteArray × T)} (h : SmallAt ps) (rs : List (ByteArray × ByteArray)) : OpSmall (paramsL rs ps) := fun p hp _ => by
  unfold paramsL at hp
  rw [List.mem_filterMap] at hp
  obtain ⟨r, -, hr⟩ := hp
  unfold param at hr
  split at hr
  · cases ho : lastOf ps r.1 with
    | none => rw [ho] at hr; cases hr
    | some t =>
      rw [ho] at hr
      simp at hr
      subst hr
      exact h _ (lastOf_mem ho)
  · cases hr
theorem lows_of {lw : ByteArray → ByteArray} {w w' : World} (kind field : ByteArray) {ps : List (ByteArray × T)} (h : ∀ p ∈ ps, p.2.kind ≠ 5) (hs : OpSmall ps) (hl : ∀ s : ByteArray, s.size ≤ 1048576 → LowerAt lw w s) (x : Ext w w') : ∀ s ∈ opTexts (mapT [(kind, mapT [(field, mapT ps)])]), LowerAt lw w' s := fun s hm => by
  obtain ⟨p, hp, h1, -, rfl⟩ := readV_texts kind field h hm
  exact (hl _ (hs p hp h1)).ext x
end Go.Proofs.YtfngaoicoecncaaGreatDoor

namespace Go.Proofs.YtfngaoicoecncaaGreatDoor
open Go.RowKit

/-- A tree in which nothing is made small. -/
def Still (t : T) : Prop := okF t ∧ opTexts t = [] ∧ ∀ lw, foldT lw t = t
theorem still_flat {t : T} (h : t.kind ≠ 5) : Still t := ⟨okF_id h, opTexts_id h, fun lw => foldT_id lw h⟩
theorem still_map {l : List (ByteArray × T)} (h : Flat l) (hs : ∀ p ∈ l, p.1.size ≤ 2147483647) (hl : l.length ≤ 65536) : Still (mapT l) := by
  refine ⟨okF_map (fun p hp => ⟨hs p hp, okF_id (h p hp).2⟩) hl, ?_, fun lw => by rw [foldT_map, foldP_flat lw h]⟩
  rw [List.eq_nil_iff_forall_not_mem]
  intro s hm
  obtain ⟨p, hp, h1⟩ := opTexts_map hm
  rcases h1 with h1 | h1
  · rw [(h p hp).1] at h1
    exact absurd h1.1 (by decide)
  · rw [opTexts_id (h p hp).2] at h1
    simp at h1
theorem lows_ofF {lw : ByteArray → ByteArray} {w w' : World} (kind field : ByteArray) {ps : List (ByteArray × T)} (h : ∀ p ∈ ps, opTexts p.2 = []) (hs : OpSmall ps) (hl : ∀ s : ByteArray, s.size ≤ 1048576 → LowerAt lw w s) (x : Ext w w') : ∀ s ∈ opTexts (mapT [(kind, mapT [(field, mapT ps)])]), LowerAt lw w' s := fun s hm => by
  obtain ⟨p, hp, h1, -, rfl⟩ := readV_textsF kind field h hm
  exact (hl _ (hs p hp h1)).ext x
abbrev cmMM (ps : List (ByteArray × T)) : List (ByteArray × J) := jMM (lastOf ps s_low_freq) (lastOf ps s_high_freq)
abbrev cmA (gt : T) (ps : List (ByteArray × T)) : List (ByteArray × J) := [(s_query, jOf gt)] ++ jN s_cutoff_frequency (lastOf ps s_cutoff_frequency) ++ jT s_high_freq_operator (lastOf ps s_high_freq_operator) ++ jT s_low_freq_operator (lastOf ps s_low_freq_operator) ++ cmMM ps ++ jT s_analyzer (lastOf ps s_analyzer) ++ jN s_boost (lastOf ps s_boost) ++ jT s_name (lastOf ps s_name)
theorem jT_appC (a b : List (ByteArray × J)) : jTree (a ++ b) = jTree a ++ jTree b := by
  unfold jTree
  exact List.map_append
theorem least_scalar {ps : List (ByteArray × T)} (hF : FitsP rCommonTerms ps) : ∀ k ∈ cmNames, ∀ u, lastOf ps k = some u → scalarT u = true := fun k _ u hu => (fits_last hF hu).1
theorem text_cm {ps : List (ByteArray × T)} (hF : FitsP rCommonTerms ps) {k : ByteArray} (hk : kindL rCommonTerms k = ⟨#[116]⟩) {t : T} (ho : lastOf ps k = some t) : t.kind = 1 ∧ scalarT t = true := by
  have h := fits_last hF ho
  rw [hk] at h
  obtain ⟨hs, h | h | h | h | h⟩ := h
  · exact ⟨h.2, hs⟩
  · exact absurd h.1 (by decide)
  · exact absurd h.1 (by decide)
  · exact absurd h.1 (by decide)
  · exact absurd h (by decide)
theorem jT_cm {ps : List (ByteArray × T)} (hF : FitsP rCommonTerms ps) {k : ByteArray} (hk : kindL rCommonTerms k = ⟨#[116]⟩) : SameL (jTree (jT k (lastOf ps k))) (lastK ps k) ∧ (jT k (lastOf ps k)).isEmpty = (lastK ps k).isEmpty := by
  unfold lastK
  cases ho : lastOf ps k with
  | none => exact ⟨by simpa [jT, fT] using SameL.nil, by simp [jT, fT]⟩
  | some t =>
    have h := text_cm hF hk ho
    obtain ⟨hsame, hne⟩ := same_text h.1 h.2
    have h2 : jT k (some t) = [(k, .str t.text)] := by simp [jT, fT, hne]
    rw [h2]
    exact ⟨by simpa [treeJ] using SameL.one k hsame, rfl⟩
theorem empt_app {α : Type} (a b : List α) : (a ++ b).isEmpty = (a.isEmpty && b.isEmpty) := by cases a <;> simp
theorem mm_same {ps : List (ByteArray × T)} (hF : FitsP rCommonTerms ps) : SameL (jTree (cmMM ps)) (leastT ps) := by
  have h1 := jT_cm hF (k := s_low_freq) (by rw [kindL_dec]; decide)
  have h2 := jT_cm hF (k := s_high_freq) (by rw [kindL_dec]; decide)
  have hl : leastL ps = lastK ps s_low_freq ++ lastK ps s_high_freq := by simp [leastL, cmNames]
  have he : (jT s_low_freq (lastOf ps s_low_freq) ++ jT s_high_freq (lastOf ps s_high_freq)).isEmpty = (leastL ps).isEmpty := by
    rw [hl, empt_app, empt_app, h1.2, h2.2]
  unfold cmMM jMM leastT
  rw [he]
  split
  · exact SameL.nil
  · show SameL [(s_minimum_should_match, treeJ (jMap _))] _
    rw [treeJ_jMap]
    refine SameL.one _ (sameT_map (show SameL (jTree _) _ from ?_))
    rw [jT_appC, hl]
    exact SameL.append h1.1 h2.1
theorem keep_cm {ps : List (ByteArray × T)} {k kd : ByteArray} (h : hasS cmOut k = false) : (param ps (k, kd)).toList.filter (fun p => !hasS cmOut p.1) = (param ps (k, kd)).toList := by
  rw [List.filter_eq_self]
  intro p hp
  have hk := keys_param ps (k, kd) p hp
  simp only [List.mem_singleton] at hk
  rw [hk, h]
  rfl
theorem drop_cm {ps : List (ByteArray × T)} {k kd : ByteArray} (h : hasS cmOut k = true) : (param ps (k, kd)).toList.filter (fun p => !hasS cmOut p.1) = [] := by
  rw [List.filter_eq_nil_iff]
  intro p hp
  have hk := keys_param ps (k, kd) p hp
  simp only [List.mem_singleton] at hk
  rw [hk, h]
  decide
theorem hasS_decC (l : List ByteArray) (k : ByteArray) : hasS l k = l.any fun a => decide (a = k) := by
  unfold hasS
  simp only [seq_dec]
abbrev cmF (ps : List (ByteArray × T)) : List (ByteArray × T) := (param ps (s_analyzer, ⟨#[116]⟩)).toList ++ (param ps (s_boost, ⟨#[110]⟩)).toList ++ (param ps (s_cutoff_frequency, ⟨#[110]⟩)).toList ++ (param ps (s_high_freq_operator, ⟨#[116]⟩)).toList ++ (param ps (s_low_freq_operator, ⟨#[116]⟩)).toList ++ (param ps (s_name, ⟨#[116]⟩)).toList
theorem cm_params (ps : List (ByteArray × T)) : (paramsL rCommonTerms ps).filter (fun p => !hasS cmOut p.1) = cmF ps := by
  rw [params_cons, params_cons, params_cons, params_cons, params_cons, params_cons, params_cons, params_cons, params_nil]
  rw [List.filter_append, List.filter_append, List.filter_append, List.filter_append, List.filter_append, List.filter_append, List.filter_append, List.filter_append]
  rw [keep_cm (k := s_analyzer) (by rw [hasS_decC]; decide), keep_cm (k := s_boost) (by rw [hasS_decC]; decide), keep_cm (k := s_cutoff_frequency) (by rw [hasS_decC]; decide), keep_cm (k := s_high_freq_operator) (by rw [hasS_decC]; decide), keep_cm (k := s_low_freq_operator) (by rw [hasS_decC]; decide), drop_cm (k := s_high_freq) (by rw [hasS_decC]; decide), drop_cm (k := s_low_freq) (by rw [hasS_decC]; decide), keep_cm (k := s_name) (by rw [hasS_decC]; decide)]
  simp [cmF]
theorem keys_least (ps : List (ByteArray × T)) : KeysIn (leastT ps) [s_minimum_should_match] := fun p hp => by
  unfold leastT at hp
  split at hp
  · simp at hp
  · simp only [List.mem_singleton] at hp
    subst hp
    simp
theorem keys_MM (ps : List (ByteArray × T)) : KeysIn (jTree (cmMM ps)) [s_minimum_should_match] := fun p hp => by
  unfold cmMM jMM at hp
  split at hp
  · simp at hp
  · simp at hp
    subst hp
    simp
set_option maxRecDepth 20000 in
set_option maxHeartbeats 4000000 in
theorem cm_list (gt : T) (hgS : scalarT gt = true) {ps : List (ByteArray × T)} (hF : FitsP rCommonTerms ps) : SameL (jTree (cmA gt ps)) (cmB gt ps) := by
  let chs : Nat → Ch := fun i => match i with
    | 0 => (s_query, [(s_query, gt)])
    | 1 => (s_cutoff_frequency, (param ps (s_cutoff_frequency, ⟨#[110]⟩)).toList)
    | 2 => (s_high_freq_operator, (param ps (s_high_freq_operator, ⟨#[116]⟩)).toList)
    | 3 => (s_low_freq_operator, (param ps (s_low_freq_operator, ⟨#[116]⟩)).toList)
    | 4 => (s_minimum_should_match, leastT ps)
    | 5 => (s_analyzer, (param ps (s_analyzer, ⟨#[116]⟩)).toList)
    | 6 => (s_boost, (param ps (s_boost, ⟨#[110]⟩)).toList)
    | 7 => (s_name, (param ps (s_name, ⟨#[116]⟩)).toList)
    | _ => (emptyS, [])
  have h0 : SameL (jTree (cmA gt ps)) ([(s_query, gt)] ++ (param ps (s_cutoff_frequency, ⟨#[110]⟩)).toList ++ (param ps (s_high_freq_operator, ⟨#[116]⟩)).toList ++ (param ps (s_low_freq_operator, ⟨#[116]⟩)).toList ++ leastT ps ++ (param ps (s_analyzer, ⟨#[116]⟩)).toList ++ (param ps (s_boost, ⟨#[110]⟩)).toList ++ (param ps (s_name, ⟨#[116]⟩)).toList) := by
    unfold cmA
    rw [jT_appC, jT_appC, jT_appC, jT_appC, jT_appC, jT_appC, jT_appC]
    exact SameL.append (SameL.append (SameL.append (SameL.append (SameL.append (SameL.append (SameL.append (SameL.one s_query (jOf_same hgS)) (jN_same hF (by rw [kindL_dec]; decide))) (jT_same hF (by rw [kindL_dec]; decide))) (jT_same hF (by rw [kindL_dec]; decide))) (mm_same hF)) (jT_same hF (by rw [kindL_dec]; decide))) (jN_same hF (by rw [kindL_dec]; decide))) (jT_same hF (by rw [kindL_dec]; decide))
  have h1 := SameL.reorder (f := chs) [0, 1, 2, 3, 4, 5, 6, 7] [5, 6, 1, 2, 3, 7, 0, 4] (by decide) (show [s_query, s_cutoff_frequency, s_high_freq_operator, s_low_freq_operator, s_minimum_should_match, s_analyzer, s_boost, s_name].Nodup by decide) (by intro c hc; simp only [List.map_cons, List.map_nil, List.mem_cons, List.not_mem_nil, or_false] at hc; rcases hc with rfl | rfl | rfl | rfl | rfl | rfl | rfl | rfl <;> first | exact keys_param _ _ | exact keys_least _ | exact keys_one _ _) (by simpa only [chs, flatC, List.map_cons, List.map_nil, List.flatMap_cons, List.flatMap_nil, List.append_nil, List.append_assoc] using h0)
  unfold cmB
  rw [cm_params]
  refine (show SameL _ _ from ?_)
  simpa only [cmF, chs, flatC, List.map_cons, List.map_nil, List.flatMap_cons, List.flatMap_nil, List.append_nil, List.append_assoc, List.cons_append, List.nil_append] using h1
theorem cmA_keys (gt : T) (ps : List (ByteArray × T)) : KeysIn (jTree (cmA gt ps)) ([s_query] ++ [s_cutoff_frequency] ++ [s_high_freq_operator] ++ [s_low_freq_operator] ++ [s_minimum_should_match] ++ [s_analyzer] ++ [s_boost] ++ [s_name]) := by
  unfold cmA
  rw [jT_appC, jT_appC, jT_appC, jT_appC, jT_appC, jT_appC, jT_appC]
  exact KeysIn.append (KeysIn.append (KeysIn.append (KeysIn.append (KeysIn.append (KeysIn.append (KeysIn.append (keys_one _ _) (keys_N _ _)) (keys_T _ _)) (keys_T _ _)) (keys_MM _)) (keys_T _ _)) (keys_N _ _)) (keys_T _ _)
theorem mm_still (ps : List (ByteArray × T)) : ∀ p ∈ jTree (cmMM ps), Still p.2 := fun p hp => by
  unfold cmMM jMM at hp
  split at hp
  · simp at hp
  · have hp : p ∈ [(s_minimum_should_match, treeJ (jMap (jT s_low_freq (lastOf ps s_low_freq) ++ jT s_high_freq (lastOf ps s_high_freq))))] := hp
    rw [List.mem_singleton] at hp
    subst hp
    rw [treeJ_jMap]
    have hk : KeysIn (jTree (jT s_low_freq (lastOf ps s_low_freq) ++ jT s_high_freq (lastOf ps s_high_freq))) ([s_low_freq] ++ [s_high_freq]) := by
      rw [jT_appC]
      exact KeysIn.append (keys_T _ _) (keys_T _ _)
    refine still_map (flat_of (NoMap.append (noMap_T _ _) (noMap_T _ _)) hk (by decide)) (keys_size hk (by decide)) ?_
    have h1 := jT_len s_low_freq (lastOf ps s_low_freq)
    have h2 := jT_len s_high_freq (lastOf ps s_high_freq)
    simp only [List.length_map, List.length_append]
    omega
theorem still_app {a b : List (ByteArray × J)} (h : ∀ p ∈ jTree a, Still p.2) (k : ∀ p ∈ jTree b, Still p.2) : ∀ p ∈ jTree (a ++ b), Still p.2 := fun p hp => by
  rw [jT_appC] at hp
  rcases List.mem_append.1 hp with hp | hp
  · exact h p hp
  · exact k p hp
theorem still_no {l : List (ByteArray × J)} (h : NoMap l) : ∀ p ∈ jTree l, Still p.2 := fun p hp => still_flat (h p hp)
theorem cmA_still (gt : T) (ps : List (ByteArray × T)) : ∀ p ∈ jTree (cmA gt ps), p.1.size ≤ 2147483647 ∧ Still p.2 := fun p hp =>
  ⟨keys_size (cmA_keys gt ps) (by decide) p hp, still_app (still_app (still_app (still_no (NoMap.append (NoMap.append (NoMap.append (noMap_J _ _ (jOf_flat _)) (noMap_N _ _)) (noMap_T _ _)) (noMap_T _ _))) (mm_still ps)) (still_no (noMap_T _ _))) (still_no (noMap_N _ _)) |> fun h => still_app h (still_no (noMap_T _ _)) p hp⟩
theorem cmA_len (gt : T) (ps : List (ByteArray × T)) : (jTree (cmA gt ps)).length ≤ 100 := by
  have h1 := jN_len s_cutoff_frequency (lastOf ps s_cutoff_frequency)
  have h2 := jT_len s_high_freq_operator (lastOf ps s_high_freq_operator)
  have h3 := jT_len s_low_freq_operator (lastOf ps s_low_freq_operator)
  have h4 : (cmMM ps).length ≤ 1 := by unfold cmMM jMM; split <;> simp
  have h5 := jT_len s_analyzer (lastOf ps s_analyzer)
  have h6 := jN_len s_boost (lastOf ps s_boost)
  have h7 := jT_len s_name (lastOf ps s_name)
  simp only [cmA, jTree, List.length_map, List.length_append, List.length_cons, List.length_nil]
  omega
theorem lastK_flat {ps : List (ByteArray × T)} (hF : FitsP rCommonTerms ps) (k : ByteArray) : ∀ p ∈ lastK ps k, p.1 = k ∧ p.2.kind ≠ 5 := fun p hp => by
  unfold lastK at hp
  obtain ⟨t, ht, rfl⟩ := List.mem_map.1 hp
  exact ⟨rfl, scalar_flat (fits_last hF (by simpa using ht)).1⟩
theorem cmB_still (gt : T) (hgS : scalarT gt = true) {ps : List (ByteArray × T)} (hF : FitsP rCommonTerms ps) : ∀ p ∈ cmB gt ps, p.1.size ≤ 2147483647 ∧ Still p.2 := fun p hp => by
  unfold cmB at hp
  rcases List.mem_append.1 hp with hp | hp
  · have hm := (List.mem_filter.1 hp).1
    exact ⟨keys_size (params_keys _ _) (by decide) p hm, still_flat (params_flat hF p hm)⟩
  · rcases List.mem_cons.1 hp with hp | hp
    · subst hp
      exact ⟨show s_query.size ≤ 2147483647 by decide, still_flat (scalar_flat hgS)⟩
    · have hk := keys_least ps p hp
      simp only [List.mem_singleton] at hk
      refine ⟨by rw [hk]; decide, ?_⟩
      unfold leastT at hp
      split at hp
      · simp at hp
      · simp only [List.mem_singleton] at hp
        subst hp
        have hl : leastL ps = lastK ps s_low_freq ++ lastK ps s_high_freq := by simp [leastL, cmNames]
        have hall : ∀ q ∈ leastL ps, (q.1 = s_low_freq ∨ q.1 = s_high_freq) ∧ q.2.kind ≠ 5 := fun q hq => by
          rw [hl] at hq
          rcases List.mem_append.1 hq with hq | hq
          · exact ⟨.inl (lastK_flat hF _ q hq).1, (lastK_flat hF _ q hq).2⟩
          · exact ⟨.inr (lastK_flat hF _ q hq).1, (lastK_flat hF _ q hq).2⟩
        refine still_map (fun q hq => ⟨?_, (hall q hq).2⟩) (fun q hq => ?_) ?_
        · rw [opKey_eq]
          rcases (hall q hq).1 with h | h <;> rw [h] <;> decide
        · rcases (hall q hq).1 with h | h <;> rw [h] <;> decide
        · have h1 : (lastK ps s_low_freq).length ≤ 1 := by unfold lastK; cases lastOf ps s_low_freq <;> simp
          have h2 : (lastK ps s_high_freq).length ≤ 1 := by unfold lastK; cases lastOf ps s_high_freq <;> simp
          rw [hl, List.length_append]
          omega
theorem cmB_len (gt : T) (ps : List (ByteArray × T)) : (cmB gt ps).length ≤ 100 := by
  have h := params_len rCommonTerms ps
  have h2 := List.length_filter_le (fun p : ByteArray × T => !hasS cmOut p.1) (paramsL rCommonTerms ps)
  have h3 : (leastT ps).length ≤ 1 := by unfold leastT; split <;> simp
  simp only [cmB, List.length_append, List.length_cons, List.length_nil] at h ⊢
  omega
theorem cmA_small (gt : T) {ps : List (ByteArray × T)} (h : SmallAt ps) : OpSmall (jTree (cmA gt ps)) := by
  unfold cmA
  rw [jT_appC, jT_appC, jT_appC, jT_appC, jT_appC, jT_appC, jT_appC]
  exact OpSmall.append (OpSmall.append (OpSmall.append (OpSmall.append (OpSmall.append (OpSmall.append (OpSmall.append (opSmall_key (k := s_query) (keys_one _ _) (by decide)) (opSmall_key (keys_N _ _) (by decide))) (opSmall_T h _)) (opSmall_T h _)) (opSmall_key (keys_MM _) (by decide))) (opSmall_key (keys_T _ _) (by decide))) (opSmall_key (keys_N _ _) (by decide))) (opSmall_key (keys_T _ _) (by decide))
theorem cmB_small (gt : T) {ps : List (ByteArray × T)} (h : SmallAt ps) : OpSmall (cmB gt ps) := fun p hp ho => by
  unfold cmB at hp
  rcases List.mem_append.1 hp with hp | hp
  · exact opSmall_params h _ p (List.mem_filter.1 hp).1 ho
  · rcases List.mem_cons.1 hp with hp | hp
    · subst hp
      rw [opKey_eq] at ho
      have ho : opKeyB s_query = true := ho
      exact absurd ho (by decide)
    · exact opSmall_key (keys_least ps) (by decide) p hp ho
set_option maxHeartbeats 4000000 in
set_option maxRecDepth 20000 in
theorem commonTerms_law {S : Nat → Prop} (f : ByteArray) (ge : El) (gt : T) (a : Option Addr) (n c : Nat) (ps : List (ByteArray × T)) (w : World) (hgT : TreeAt S w ge gt) (h : PairsAt S w a n c ps) (hlw : ∀ s : ByteArray, s.size ≤ 1048576 → LowerAt lowS w s) (hsm : SmallAt ps) : Calls Tryz.prog 3 #[.string f, ge.val, .slice a n c] w fun r w' => r = .returned (.bool true) ∧ Ext w w' := by
  obtain ⟨gk, gx, gd, gy, gka, gn, gkc, gca, gm, gcc⟩ := ge
  have hnl := Nat.le_trans h.2.1 h.2.2.1
  unfold maxLen at hnl
  have hPs := Lib.hid fun w' (x : Ext w w') => (h.keep (S' := fun _ => True) (fun _ _ _ => trivial) (fun _ _ _ => rfl)).ext x
  have hZg := Lib.hid fun w' (x : Ext w w') => zzFits5_any (⟨gk, gx, gd, gy, gka, gn, gkc, gca, gm, gcc⟩ : El) gt w' (hgT.ext x)
  have hTg := Lib.hid fun w' (x : Ext w w') => (TreeAt.ext x hgT).any
  have hF := Lib.hid fun w' (x : Ext w w') => fits_any sCommonTerms rCommonTerms a n c ps w' rows_commonTerms (by simp [plainK]) (h.ext x)
  have hQ := Lib.hid fun w' (x : Ext w w') (hgS : scalarT gt = true) (hf_le : f.size ≤ maxLen) (hff : FitsP rCommonTerms ps) => commonTerms_any a n c ps w' f hf_le (⟨gk, gx, gd, gy, gka, gn, gkc, gca, gm, gcc⟩ : El) gt (TreeAt.ext x hgT) hgS (h.ext x)
  clear h
  have HLW := Lib.hid hlw
  have HSM := Lib.hid hsm
  clear hlw hsm
  clear hgT
  simp only [El.val]
  have hbtg : Box (w.alloc (.cells (⟨gk, gx, gd, gy, gka, gn, gkc, gca, gm, gcc⟩ : El).arr 26)) w.heap.size (⟨gk, gx, gd, gy, gka, gn, gkc, gca, gm, gcc⟩ : El).arr 26 := Box.at rfl _ _
  go_enter Tryz.func3, Tryz.ntmps3
  by_cases hsz0 : 2147483647 < f.size
  · go_wp2_with (first
        | (go_at_call 6; refine (hZg.out _ (by (repeat (first | exact ext_refl _ | assumption | refine ext_alloc ?_ _ | refine ext_drew ?_ | refine ext_set ?_ (by simp) _ | refine ext_trans ?_ (by assumption))))).mono ?_; rintro r wzg ⟨bzg, rfl, hzg, hxzg⟩; have HZg := Lib.hid hzg; clear hzg; have hbtg_wzg := hbtg.ext (show Ext (w.alloc (.cells (⟨gk, gx, gd, gy, gka, gn, gkc, gca, gm, gcc⟩ : El).arr 26)) wzg by (repeat (first | exact ext_refl _ | assumption | refine ext_alloc ?_ _ | refine ext_drew ?_ | refine ext_set ?_ (by simp) _ | refine ext_trans ?_ (by assumption)))); obtain ⟨og0, og1, og2, og3, og4, og5⟩ := hbtg_wzg.six; cases bzg))
    all_goals (go_ret; exact ⟨rfl, by (repeat (first | exact ext_refl _ | assumption | refine ext_alloc ?_ _ | refine ext_drew ?_ | refine ext_set ?_ (by simp) _ | refine ext_trans ?_ (by assumption)))⟩)
  · skip
    by_cases hsz1 : 2147483647 < n
    · go_wp2_with (first
          | (go_at_call 6; refine (hZg.out _ (by (repeat (first | exact ext_refl _ | assumption | refine ext_alloc ?_ _ | refine ext_drew ?_ | refine ext_set ?_ (by simp) _ | refine ext_trans ?_ (by assumption))))).mono ?_; rintro r wzg ⟨bzg, rfl, hzg, hxzg⟩; have HZg := Lib.hid hzg; clear hzg; have hbtg_wzg := hbtg.ext (show Ext (w.alloc (.cells (⟨gk, gx, gd, gy, gka, gn, gkc, gca, gm, gcc⟩ : El).arr 26)) wzg by (repeat (first | exact ext_refl _ | assumption | refine ext_alloc ?_ _ | refine ext_drew ?_ | refine ext_set ?_ (by simp) _ | refine ext_trans ?_ (by assumption)))); obtain ⟨og0, og1, og2, og3, og4, og5⟩ := hbtg_wzg.six; cases bzg))
      all_goals (go_ret; exact ⟨rfl, by (repeat (first | exact ext_refl _ | assumption | refine ext_alloc ?_ _ | refine ext_drew ?_ | refine ext_set ?_ (by simp) _ | refine ext_trans ?_ (by assumption)))⟩)
    · skip
      go_wp2_with (first
        | (go_at_call 6; refine (hZg.out _ (by (repeat (first | exact ext_refl _ | assumption | refine ext_alloc ?_ _ | refine ext_drew ?_ | refine ext_set ?_ (by simp) _ | refine ext_trans ?_ (by assumption))))).mono ?_; rintro r wzg ⟨bzg, rfl, hzg, hxzg⟩; have HZg := Lib.hid hzg; clear hzg; have hbtg_wzg := hbtg.ext (show Ext (w.alloc (.cells (⟨gk, gx, gd, gy, gka, gn, gkc, gca, gm, gcc⟩ : El).arr 26)) wzg by (repeat (first | exact ext_refl _ | assumption | refine ext_alloc ?_ _ | refine ext_drew ?_ | refine ext_set ?_ (by simp) _ | refine ext_trans ?_ (by assumption)))); obtain ⟨og0, og1, og2, og3, og4, og5⟩ := hbtg_wzg.six; cases bzg)
        | (go_at_call 7; refine (scalar_yes _ _ _ (hTg.out _ (by (repeat (first | exact ext_refl _ | assumption | refine ext_alloc ?_ _ | refine ext_drew ?_ | refine ext_set ?_ (by simp) _ | refine ext_trans ?_ (by assumption)))))).mono ?_; rintro r wscg ⟨bscg, rfl, hscg, hxscg⟩; have Hscg := Lib.hid hscg; clear hscg; have hbtg_wscg := hbtg.ext (show Ext (w.alloc (.cells (⟨gk, gx, gd, gy, gka, gn, gkc, gca, gm, gcc⟩ : El).arr 26)) wscg by (repeat (first | exact ext_refl _ | assumption | refine ext_alloc ?_ _ | refine ext_drew ?_ | refine ext_set ?_ (by simp) _ | refine ext_trans ?_ (by assumption)))); obtain ⟨og0, og1, og2, og3, og4, og5⟩ := hbtg_wscg.six; cases bscg)
        | (go_at_call 8; refine (field_any f (by omega) _).mono ?_; rintro r wfdf ⟨bfdf, rfl, hfdf, hxfdf⟩; have Hfdf := Lib.hid hfdf; clear hfdf; have hbtg_wfdf := hbtg.ext (show Ext (w.alloc (.cells (⟨gk, gx, gd, gy, gka, gn, gkc, gca, gm, gcc⟩ : El).arr 26)) wfdf by (repeat (first | exact ext_refl _ | assumption | refine ext_alloc ?_ _ | refine ext_drew ?_ | refine ext_set ?_ (by simp) _ | refine ext_trans ?_ (by assumption)))); obtain ⟨og0, og1, og2, og3, og4, og5⟩ := hbtg_wfdf.six; cases bfdf)
        | (go_at_call 9; refine (hF.out _ (by (repeat (first | exact ext_refl _ | assumption | refine ext_alloc ?_ _ | refine ext_drew ?_ | refine ext_set ?_ (by simp) _ | refine ext_trans ?_ (by assumption))))).mono ?_; rintro r wff ⟨bff, rfl, hff, hxff⟩; have Hff := Lib.hid hff; clear hff; have hbtg_wff := hbtg.ext (show Ext (w.alloc (.cells (⟨gk, gx, gd, gy, gka, gn, gkc, gca, gm, gcc⟩ : El).arr 26)) wff by (repeat (first | exact ext_refl _ | assumption | refine ext_alloc ?_ _ | refine ext_drew ?_ | refine ext_set ?_ (by simp) _ | refine ext_trans ?_ (by assumption)))); obtain ⟨og0, og1, og2, og3, og4, og5⟩ := hbtg_wff.six; cases bff))
      all_goals (try (go_ret; exact ⟨rfl, by (repeat (first | exact ext_refl _ | assumption | refine ext_alloc ?_ _ | refine ext_drew ?_ | refine ext_set ?_ (by simp) _ | refine ext_trans ?_ (by assumption)))⟩))
      have hff := Hff.out (by trivial)
      have hfd := Hfdf.out (by trivial)
      have hgS := Hscg.out (by trivial)
      have hfit := Lib.hid (readV_same lowS s_common f (SameL.foldF lowS (cm_list gt hgS hff) (fun p hp => (cmA_still gt ps p hp).2.2.2 lowS) (fun p hp => (cmB_still gt hgS hff p hp).2.2.2 lowS)))
      have hx0 : Ext (w.alloc (.cells (⟨gk, gx, gd, gy, gka, gn, gkc, gca, gm, gcc⟩ : El).arr 26)) wff := by (repeat (first | exact ext_refl _ | assumption | refine ext_alloc ?_ _ | refine ext_drew ?_ | refine ext_set ?_ (by simp) _ | refine ext_trans ?_ (by assumption)))
      have hx1 : Ext w wff := by (repeat (first | exact ext_refl _ | assumption | refine ext_alloc ?_ _ | refine ext_drew ?_ | refine ext_set ?_ (by simp) _ | refine ext_trans ?_ (by assumption)))
      refine (hQ.out wff hx1 hgS (by unfold maxLen; omega) hff).mono ?_
      rintro r w3 ⟨e, rfl, hT, hx3⟩
      simp only [El.val]
      go_upto_region 6 with fail
      have hb3 : Box (w3.alloc (.cells e.arr 26)) w3.heap.size e.arr 26 := Box.at rfl _ _
      have hxa := ext_alloc (ext_trans hx0 hx3) (.cells e.arr 26)
      have hxb : Ext w (w3.alloc (.cells e.arr 26)) := ext_alloc (ext_trans hx1 hx3) _
      rw [jMap_treeV] at hT
      have hT3 := Lib.hid (hT.ext (ext_alloc (ext_refl w3) (.cells e.arr 26)))
      clear hT
      generalize w3.alloc (.cells e.arr 26) = w4 at hb3 hxa hxb hT3 ⊢
      generalize w3.heap.size = b3 at hb3 ⊢
      refine wp_region_order (fun w' => Six w' b3 e ∧ Six w' w.heap.size (⟨gk, gx, gd, gy, gka, gn, gkc, gca, gm, gcc⟩ : El)) [0, 1, 2, 3, 5, 6, 7, 10] [0, 1, 2, 3, 5, 6, 7, 4, 8, 9, 10, 11] (by kernel_rfl) (by kernel_rfl) (fun d _ _ _ _ h => by cases d <;> exact h) (by kernel_rfl) ?_
      have hS : (fun w' => Six w' b3 e ∧ Six w' w.heap.size (⟨gk, gx, gd, gy, gka, gn, gkc, gca, gm, gcc⟩ : El)) _ := ⟨hb3.Six, (hbtg.ext hxa).Six⟩
      (apply ord_held rfl rfl (by assumption) rfl; (focus ((intro w' hS'); go_simp; (try with_reducible rfl))); (try simp only [Act.put, List.setIfInBounds_toArray, List.set_cons_zero, List.set_cons_succ]))
      (apply ord_held rfl rfl (by assumption) rfl; (focus ((intro w' hS'); go_simp; (try with_reducible rfl))); (try simp only [Act.put, List.setIfInBounds_toArray, List.set_cons_zero, List.set_cons_succ]))
      (apply ord_guard rfl rfl (by assumption) rfl; (focus ((intro w' hS'); go_simp; (try with_reducible rfl))); (try simp only [Act.put, List.setIfInBounds_toArray, List.set_cons_zero, List.set_cons_succ]))
      (apply ord_guard rfl rfl (by assumption) rfl; (focus ((intro w' hS'); go_simp; (try with_reducible rfl))); (try simp only [Act.put, List.setIfInBounds_toArray, List.set_cons_zero, List.set_cons_succ]))
      (apply ord_guard rfl rfl (by assumption) rfl; (focus ((intro w' hS'); go_simp; (try with_reducible rfl))); (try simp only [Act.put, List.setIfInBounds_toArray, List.set_cons_zero, List.set_cons_succ]))
      (apply ord_guard rfl rfl (by assumption) rfl; (focus ((intro w' hS'); go_simp; (try with_reducible rfl))); (try simp only [Act.put, List.setIfInBounds_toArray, List.set_cons_zero, List.set_cons_succ]))
      (apply ord_guard rfl rfl (by assumption) rfl; (focus ((intro w' hS'); go_simp; (try with_reducible rfl))); (try simp only [Act.put, List.setIfInBounds_toArray, List.set_cons_zero, List.set_cons_succ]))
      (apply ord_want rfl rfl rfl; intro K hK; go_simp)
      refine (readValued_anyF lowS s_common f s_query emptyS _ (jTree (cmA gt ps)) e _ (hT3.out.ext ((ext_drew (ext_refl w4)))) (map_own _ _) ((cmA_keys gt ps).no (by decide)) (field_ne hfd (by decide)) (field_ne hfd (by decide)) (by decide) (by omega) (fun p hp => ⟨(cmA_still gt ps p hp).1, (cmA_still gt ps p hp).2.1⟩) (by have := cmA_len gt ps; omega) (lows_ofF s_common f (fun p hp => (cmA_still gt ps p hp).2.2.1) (cmA_small gt HSM.out) HLW.out (ext_trans hxb ((ext_drew (ext_refl w4)))))).mono ?_
      rintro r wr ⟨gr, rfl, hTr, hxr⟩
      have hS1 : (fun w' => Six w' b3 e ∧ Six w' w.heap.size (⟨gk, gx, gd, gy, gka, gn, gkc, gca, gm, gcc⟩ : El)) wr := ⟨Six.ext hxr hS.1, Six.ext hxr hS.2⟩
      refine hK _ _ (fun _ => hS1) ?_
      clear hK K
      try simp only [El.val]
      (try simp only [Act.put, List.setIfInBounds_toArray, List.set_cons_zero, List.set_cons_succ])
      (apply ord_want rfl rfl rfl; intro K hK; go_simp)
      refine (cmS_any (S := fun _ => True) lowS f (⟨gk, gx, gd, gy, gka, gn, gkc, gca, gm, gcc⟩ : El) (gt) a n c ps _ (hPs.out _ (ext_trans hxb (ext_trans ((ext_drew (ext_refl w4))) hxr))) (hTg.out _ (ext_trans hxb (ext_trans ((ext_drew (ext_refl w4))) hxr))) (params_plainG hff rCommonTerms) hgS (least_scalar hff) (readV_okF s_common f (by decide) (by omega) (fun p hp => ⟨(cmB_still gt hgS hff p hp).1, (cmB_still gt hgS hff p hp).2.1⟩) (by have := cmB_len gt ps; omega)) (lows_ofF s_common f (fun p hp => (cmB_still gt hgS hff p hp).2.2.1) (cmB_small gt HSM.out) HLW.out (ext_trans hxb (ext_trans ((ext_drew (ext_refl w4))) hxr)))).mono ?_
      rintro r wb ⟨gb, rfl, hTb, hxbb⟩
      have hS2 : (fun w' => Six w' b3 e ∧ Six w' w.heap.size (⟨gk, gx, gd, gy, gka, gn, gkc, gca, gm, gcc⟩ : El)) wb := ⟨Six.ext hxbb hS1.1, Six.ext hxbb hS1.2⟩
      refine hK _ _ (fun _ => hS2) ?_
      clear hK K
      try simp only [El.val]
      (try simp only [Act.put, List.setIfInBounds_toArray, List.set_cons_zero, List.set_cons_succ])
      (apply ord_want rfl rfl rfl; intro K hK; go_simp)
      refine (same_any (S := fun _ => True) _ _ gr gb _ (hTr.ext (hxbb)) (hTb.any)).mono ?_
      rintro r ws ⟨rfl, hxs⟩
      have hS3 : (fun w' => Six w' b3 e ∧ Six w' w.heap.size (⟨gk, gx, gd, gy, gka, gn, gkc, gca, gm, gcc⟩ : El)) ws := ⟨Six.ext hxs hS2.1, Six.ext hxs hS2.2⟩
      refine hK _ _ (fun _ => hS3) ?_
      clear hK K
      try simp only
      rw [hfit.out]
      (try simp only [Act.put, List.setIfInBounds_toArray, List.set_cons_zero, List.set_cons_succ])
      (apply ord_held rfl rfl (by assumption) rfl; (focus ((intro w' hS'); go_simp; (try with_reducible rfl))); (try simp only [Act.put, List.setIfInBounds_toArray, List.set_cons_zero, List.set_cons_succ]))
      (apply ord_last rfl rfl rfl (by kernel_rfl); intro K hK; go_simp; refine hK _ _ ?_; clear hK K; (try simp only [Act.put, List.setIfInBounds_toArray, List.set_cons_zero, List.set_cons_succ]))
      refine ord_end ?_
      go_wp2_with fail
      go_ret
      exact ⟨rfl, ext_trans hxb (ext_trans (ext_trans (ext_trans ((ext_drew (ext_refl w4))) hxr) hxbb) hxs)⟩
end Go.Proofs.YtfngaoicoecncaaGreatDoor

namespace Go.Proofs.YtfngaoicoecncaaGreatDoor
open Go.ChangeShapes Go.WideShapes Go.ChangeAt Go.RowKit

set_option maxRecDepth 100000 in
theorem lay_shaped (os : Os) (args : Array Value) : World.Shaped Tryz.prog ((World.laidAll Tryz.prog os Rows.fnCommonTermsRow.laid).forCall (fun _ _ => 0) ⟨#[], args, []⟩) := World.shaped_of_ZipB (by kernel_rfl) (by kernel_rfl)
set_option maxRecDepth 100000 in
theorem lay_met (os : Os) (args : Array Value) : laidMetH Tryz.prog Rows.fnCommonTermsRow.laid ((World.laidAll Tryz.prog os Rows.fnCommonTermsRow.laid).forCall (fun _ _ => 0) ⟨#[], args, []⟩).memory := by
  rw [MakeChecks.laidMetH_plain _ _ _ (by kernel_rfl)]
  exact laidMet_laidAll _ (by kernel_rfl) (by kernel_rfl)
theorem witness_laid {H : Type} {enc : TypeId × Value → H} (os : Os) (args : Array Value) {f : FuncId} {fn : Func} {s : OpenSpec} {conds : List PathCond} {apart : Bool} {laid : List (String × DataW Unit)}
    (hok : Input.okWideB Tryz.prog ((World.laidAll Tryz.prog os Rows.fnCommonTermsRow.laid).forCall (fun _ _ => 0) ⟨#[], args, []⟩) f ⟨#[], args, []⟩ = true)
    (hrow : s.preRow enc Tryz.prog fn conds apart laid ((World.laidAll Tryz.prog os Rows.fnCommonTermsRow.laid).forCall (fun _ _ => 0) ⟨#[], args, []⟩).memory args) :
    ∃ (w : World) (tape : Tape) (i : Input), w.os = os ∧ (w.forCall tape i).Shaped Tryz.prog ∧ i.vars = [] ∧ Input.okWide Tryz.prog (w.forCall tape i) .any w.heap.size f i ∧
      s.preRow enc Tryz.prog fn conds apart laid (w.forCall tape i).memory i.args ∧ ({} : Assume).holds Tryz.prog (lone (Frame.enter Tryz.prog f i.args .normal) [] (w.forCall tape i)) :=
  ⟨World.laidAll Tryz.prog os Rows.fnCommonTermsRow.laid, fun _ _ => 0, ⟨#[], args, []⟩, World.laidAll_os _ _ _, lay_shaped os args, (Input.okWide_of_okWideB (base := 0) hok).1, (Input.okWide_of_okWideB hok).2, hrow, by
    simp only [Assume.holds]
    exact ⟨by simp, by simp, by simp, by simp, by simp⟩⟩
end Go.Proofs.YtfngaoicoecncaaGreatDoor

namespace Go.Proofs.YtfngaoicoecncaaGreatDoor
open Go.ChangeShapes Go.WideShapes Go.ChangeAt Go.RowKit

theorem bulk_part {H : Type} {d : DataW H} {l : List (DataW H)} (h : d ∈ l) : Rows.uptoBulk d ≤ Rows.uptoBulkAll l := by
  induction l with
  | nil => cases h
  | cons x r ih =>
    simp only [Rows.uptoBulkAll]
    cases List.mem_cons.1 h with
    | inl e => subst e; omega
    | inr e => have := ih e; omega
section
variable {H : Type} {enc : TypeId × Value → H} {w : World} {base : Nat} {spare : Nat → Bool} {held : Bool}
set_option maxRecDepth 20000 in
theorem text_bulk {fuel : Nat} {e : El} {x : DataW H × List MemPlace} (h : DataW.trod enc Tryz.prog w base spare held fuel 26 e.cells = some x) : e.x.size ≤ Rows.uptoBulk x.1 := by
  obtain ⟨xs, n, rfl, rfl, hcl, hxl, hf⟩ := DataW.trod_struct Tryz.underlying26 h
  match xs, hxl with
  | [x0, x1, x2, x3, x4, x5], _ =>
    have f1 : DataW.trod enc Tryz.prog w base spare held n 9 (List.take (Tryz.prog.cellsOf 9) (List.drop 1 e.cells)) = some x1 := hf 1 _ rfl
    rw [cells_string] at f1
    have f1 : DataW.trod enc Tryz.prog w base spare held n 9 [.string e.x] = some x1 := f1
    obtain ⟨s, e1, e2, -⟩ := DataW.trod_string Tryz.underlying9 f1
    simp only [List.cons.injEq, Value.string.injEq, and_true] at e1
    subst e1
    subst e2
    have h1 : Rows.uptoBulk (DataW.lit (H := H) (.string e.x.data.toList)) = e.x.data.toList.length + 1 := by simp [Rows.uptoBulk]
    have h2 := Lib.size_eq e.x
    simp only [Rows.uptoBulk, List.map_cons, List.map_nil, Rows.uptoBulkAll] at h1 ⊢
    omega
set_option maxRecDepth 20000 in
theorem set_bulk {fuel : Nat} {s : ByteArray} {e : El} {x : DataW H × List MemPlace} (h : DataW.trod enc Tryz.prog w base spare held fuel 57 (.string s :: e.cells) = some x) : e.x.size ≤ Rows.uptoBulk x.1 := by
  obtain ⟨xs, n, rfl, rfl, hcl, hxl, hf⟩ := DataW.trod_struct Tryz.underlying57 h
  match xs, hxl with
  | [x0, x1], _ =>
    have f1 : DataW.trod enc Tryz.prog w base spare held n 26 (List.take (Tryz.prog.cellsOf 26) (List.drop 1 (.string s :: e.cells))) = some x1 := hf 1 _ rfl
    rw [cells_tree, List.drop_succ_cons, List.drop_zero, List.take_of_length_le (by simp [El.cells])] at f1
    have := text_bulk f1
    simp only [Rows.uptoBulk, List.map_cons, List.map_nil, Rows.uptoBulkAll]
    omega
theorem sets_bulk {S : Nat → Prop} {fuel : Nat} {a : Option Addr} {n c : Nat} {ps : List (ByteArray × T)} {x : DataW H × List MemPlace} (h : DataW.trod enc Tryz.prog w base spare held fuel 27 [.slice a n c] = some x) (hP : PairsAt S w a n c ps) : ∀ p ∈ ps, p.2.text.size ≤ Rows.uptoBulk x.1 := by
  intro p hp
  obtain ⟨i, hi⟩ := List.getElem?_of_mem hp
  have hlt : i < n := by rw [← hP.1]; exact (List.getElem?_eq_some_iff.1 hi).1
  obtain ⟨b, off, e, rfl, -, hc, hT⟩ := hP.2.2.2 i p hi
  rcases DataW.trod_slice Tryz.underlying27 h with ⟨h0, -⟩ | ⟨a, len, cap, elems, rest, n', -, h0, rfl, -, hl, hm, hlen, hel, -, -⟩
  · simp at h0
  · simp only [List.cons.injEq, Value.slice.injEq, Option.some.injEq, and_true] at h0
    obtain ⟨rfl, rfl, rfl⟩ := h0
    rw [cells_set] at hel
    have h1 := hel i hlt
    obtain ⟨q, hq⟩ := some_of_lt hlen hlt
    rw [hq, Option.bind_eq_some_iff] at h1
    obtain ⟨cs', hc', ht⟩ := h1
    obtain ⟨-, hl7, hat⟩ := World.cells?_some hc'
    obtain ⟨s', e', t', rfl, -⟩ := set_of ht
    have hx : e'.x = e.x := by
      have h2 := hat 2 (by omega)
      rw [Addr.add_add, Addr.add_lit, show off + (i * 7 + 2) = off + i * 7 + 1 + 1 by omega, hc.2.2.1] at h2
      simp [El.cells] at h2
      exact h2.symm
    have h3 := set_bulk ht
    have h4 : p.2.text = e.x := hT.parts.2.1.symm
    rw [h4, ← hx]
    refine Nat.le_trans h3 ?_
    have h5 : q.1 ∈ List.map (fun x => x.fst) elems := List.mem_map.2 ⟨q, List.mem_of_getElem? hq, rfl⟩
    have h6 := bulk_part h5
    simp only [Rows.uptoBulk]
    omega
end
end Go.Proofs.YtfngaoicoecncaaGreatDoor

namespace Go.Proofs.YtfngaoicoecncaaGreatDoor
open Go.ChangeShapes Go.WideShapes Go.ChangeAt Go.RowKit

section
variable {H : Type} {enc : TypeId × Value → H} {w : World} {base : Nat} {spare : Nat → Bool} {held : Bool}
set_option maxRecDepth 20000 in
theorem tree_val {fuel : Nat} {r : Reach} {b0 : Nat} {v : Value} {x : DataW H × List MemPlace} {W : World} (hv : Value.okWide Tryz.prog W r b0 26 v) (h : DataW.trod enc Tryz.prog w base spare held fuel 26 v.cells.toList = some x) :
    ∃ (e : El) (t : T), v = e.val ∧ TreeAt (fun _ => True) w e t := by
  obtain ⟨cs, rfl, -⟩ := okWide_struct Tryz.underlying26 hv
  obtain ⟨e, t, he, hT⟩ := tree_of fuel _ _ h
  refine ⟨e, t, ?_, hT⟩
  have he : cs.toList = e.cells := he
  have : cs = e.cells.toArray := by rw [← he]
  subst this
  rfl
set_option maxRecDepth 20000 in
theorem kids_of {fuel : Nat} {cs : List Value} {x : DataW H × List MemPlace} (h : DataW.trod enc Tryz.prog w base spare held fuel 24 cs = some x) :
    ∃ a n c ts, cs = [.slice a n c] ∧ KidsAt (fun _ => True) w a n c ts := by
  rcases DataW.trod_slice Tryz.underlying24 h with ⟨rfl, -⟩ | ⟨a, len, cap, elems, rest, n', -, rfl, -, -, hl, hm, hlen, hel, -, -⟩
  · exact ⟨none, 0, 0, [], rfl, KidsAt.of rfl (Nat.le_refl _) (by simp [maxLen]) fun _ _ h => by simp at h⟩
  · rw [cells_tree] at hel
    obtain ⟨Z, h1, h2⟩ := choose_list (fun i (z : El × T) => (∀ j v, z.1.cells[j]? = some v → w.cell? (a.add (i * 6 + j)) = some v) ∧ TreeAt (fun _ => True) w z.1 z.2) len fun i hi => by
      have h1 := hel i hi
      obtain ⟨q, hq⟩ := some_of_lt hlen hi
      rw [hq, Option.bind_eq_some_iff] at h1
      obtain ⟨cs', hc, ht⟩ := h1
      obtain ⟨-, hcl', hat⟩ := World.cells?_some hc
      obtain ⟨e, t, rfl, hT⟩ := tree_of n' cs' _ ht
      refine ⟨(e, t), fun j v hj => ?_, hT⟩
      have hj6 : j < 6 := by have := (List.getElem?_eq_some_iff.1 hj).1; simpa [El.cells] using this
      rw [← Addr.add_add, hat j hj6]
      exact hj
    refine ⟨some a, len, cap, Z.map Prod.snd, rfl, KidsAt.of (by simp [h1]) hl hm fun i t hi => ?_⟩
    simp only [List.getElem?_map, Option.map_eq_some_iff] at hi
    obtain ⟨z, hz, rfl⟩ := hi
    obtain ⟨hc, hT⟩ := h2 i z hz
    have h0 : a = ⟨a.block, a.off, none⟩ := by
      obtain ⟨z0, hz0⟩ := some_of_lt h1 (show 0 < len by have := (List.getElem?_eq_some_iff.1 hz).1; omega)
      have := (h2 0 z0 hz0).1 0 _ rfl
      exact spot_none (by simpa [Addr.add] using this)
    rw [h0] at hc
    simp only [Addr.add_lit] at hc
    have ha : ∀ j, a.off + (i * 6 + j) = a.off + i * 6 + j := fun j => by omega
    simp only [ha] at hc
    exact ⟨a.block, a.off, z.1, by rw [← h0], trivial, ⟨hc 0 _ rfl, hc 1 _ rfl, hc 2 _ rfl, hc 3 _ rfl, hc 4 _ rfl, hc 5 _ rfl⟩, hT⟩
end
end Go.Proofs.YtfngaoicoecncaaGreatDoor

namespace Go.Proofs.YtfngaoicoecncaaGreatDoor
open Go.ChangeShapes Go.WideShapes Go.ChangeAt Go.RowKit

set_option maxRecDepth 100000 in
theorem commonTerms_lifted (os : Os) (started : os.Started) (H : Type) (enc : TypeId × Value → H) (F : Stop.Interp) :
    ReturnsInHanded {} Tryz.checked os 3 .any ((Rows.OpenSpec.upto Rows.fnCommonTermsSpec).preRow enc Tryz.prog Tryz.f3 Rows.fnCommonTermsUptoRow.domain false Rows.fnCommonTermsUptoRow.laid) (((Rows.OpenSpec.upto Rows.fnCommonTermsSpec).at F).post enc Tryz.prog Tryz.f3 false true false false) := by
  have hx : DataW.whole enc Tryz.prog ((World.laidAll Tryz.prog os Rows.fnCommonTermsUptoRow.laid).forCall (fun _ _ => 0) ⟨#[], #[.string ⟨#[]⟩, .agg #[.int .i64 0, .string ⟨#[]⟩, .float .f64 0, .bool false, .slice none 0 0, .slice none 0 0], .slice none 0 0], []⟩).memory Tryz.f3.params.toList Rows.fnCommonTermsSpec.vars false (#[.string ⟨#[]⟩, .agg #[.int .i64 0, .string ⟨#[]⟩, .float .f64 0, .bool false, .slice none 0 0, .slice none 0 0], .slice none 0 0] : Array Value).toList 8 = some ([.lit (.string []), .agg [.lit (.int .i64 0), .lit (.string []), .lit (.float .f64 0), .lit (.bool false), .nil, .nil], .nil], [], []) := by kernel_rfl
  refine returnsInHanded_of_row (C := Tryz.checked) (s := Rows.OpenSpec.upto Rows.fnCommonTermsSpec) ownKnobs started (by kernel_rfl) Tryz.func3
    (witness_laid os #[.string ⟨#[]⟩, .agg #[.int .i64 0, .string ⟨#[]⟩, .float .f64 0, .bool false, .slice none 0 0, .slice none 0 0], .slice none 0 0] (by kernel_rfl) (OpenSpec.preRow_of_cond 8 hx (by kernel_rfl) (fun k hk => by cases hk; kernel_rfl) (by kernel_rfl) (lay_met os _))) ?_
  intro W base args ds gs before hval0 hW _ hcond _ hL _ _
  have hbulk : Rows.uptoBulkAll (ds ++ gs) ≤ 1048576 := of_decide_eq_true (hcond _ rfl)
  have hval : ∀ (j : Nat) t v, Tryz.f3.params[j]? = some t → args[j]? = some v → Value.okWide Tryz.prog W .any base t v := hval0
  have hW' := hW
  obtain ⟨p, q, hA, hV, rfl, hfz, hnd⟩ := hW'
  have hA : DataW.TrodAll enc Tryz.prog W 0 (fun _ => true) true Tryz.f3.params.toList args.toList ds p := hA
  rw [Tryz.params3] at hA hval
  obtain ⟨v0, vs0, d0, ds0, p0, q0, hargs, rfl, rfl, h0, r0⟩ := trodAll_cons hA
  obtain ⟨v1, vs1, d1, ds1, p1, q1, rfl, rfl, rfl, h1, r1⟩ := trodAll_cons r0
  obtain ⟨v2, vs2, d2, ds2, p2, q2, rfl, rfl, rfl, h2, r2⟩ := trodAll_cons r1
  obtain ⟨rfl, rfl, rfl⟩ := trodAll_nil r2
  obtain rfl : args = #[v0, v1, v2] := by cases args; simp_all
  obtain ⟨rfl, rfl⟩ := trodVars_none hV
  obtain ⟨s0, rfl, rfl, rfl, w0⟩ := Go.ChangeMaps.open_string Tryz.underlying9 (hval 0 9 v0 rfl rfl) h0
  obtain ⟨fuel1, hf1⟩ := h1
  obtain ⟨e1, t1, he1, hP1⟩ := tree_val (hval 1 26 v1 rfl rfl) hf1
  subst he1
  obtain ⟨a2, n2, c2, rfl⟩ := okWide_slice Tryz.underlying27 (hval 2 27 v2 rfl rfl)
  obtain ⟨fuel2, hf2⟩ := h2
  obtain ⟨a2', n2', c2', ps2, e2, hP2⟩ := sets_of hf2
  simp only [Value.cells, List.cons.injEq, and_true, Value.slice.injEq] at e2
  obtain ⟨rfl, rfl, rfl⟩ := e2
  have hsm : SmallAt ps2 := fun p hp => by
    have h1 := sets_bulk hf2 hP2 p hp
    simp only [List.append_nil, Rows.uptoBulkAll] at hbulk h1
    omega
  refine (commonTerms_law s0 e1 t1 a2 n2 c2 ps2 W hP1 hP2 (fun s hs => lower_at hL s hs) hsm).mono fun e W' ⟨he, hx⟩ => ?_
  subst he
  exact ⟨_, rfl, post_law (s := Rows.fnCommonTermsSpec) laidOut (by kernel_rfl) (by kernel_rfl) Tryz.underlying4 rfl hW rfl hx⟩

theorem commonTerms_holds : Rows.FnCommonTermsUptoSaid :=
  OpenClaim.holds_of_cond 3 Tryz.f3 rfl rfl rfl rfl rfl rfl rfl ⟨rfl, rfl, rfl, rfl, rfl⟩ rfl rfl rfl rfl rfl (by kernel_rfl) Tryz.func3 (by kernel_rfl)
    (of_decide_eq_true (by kernel_rfl)) (by unfold Func.isWrapper; first | (rw [if_pos (by decide +kernel)]; kernel_rfl) | (rw [if_neg (by decide +kernel)]; exact ⟨rfl, rfl⟩))
    (fun os started H enc _ F => by rw [OpenClaim.pre_eq_preRow]; exact commonTerms_lifted os started H enc F)

/-- A common terms query says its text in its field, and its settings; how many terms should match stands for rare and for frequent ones: where what comes in is of bulk at most 1048576. -/
theorem commonTerms_proved : Rows.FnCommonTermsUptoCardSaid :=
  Claim7.holds_tied_plain_at .later [] _ _ _ _ commonTerms_holds (fun _ h => by cases h) (by kernel_rfl) (fun _ h => by cases h) fnCommonTermsUpto_row_tie rfl ⟨rfl, rfl⟩ (by kernel_rfl) rfl
    (fun f fn hf hfn => by
      obtain rfl : f = 3 := Option.some.inj ((show Tryz.prog.funcNamed "loop.example/pub-g01525/laws.FnCommonTerms" = some 3 by kernel_rfl).symm.trans hf) |>.symm
      obtain rfl : fn = Tryz.f3 := (Option.some.inj (Tryz.func3.symm.trans hfn)).symm
      exact ⟨by kernel_rfl, fun j t ht => by
        rw [Tryz.params3] at ht
        have hm : t ∈ [9, 26, 27] := by simpa using Array.mem_of_getElem? ht
        have hall : ([9, 26, 27].all fun u => !Tryz.prog.wantsStandIn u) = true := by kernel_rfl
        exact (show Tryz.prog.wantsStandIn t = false by simpa using List.all_eq_true.1 hall t hm)⟩)
    (by kernel_rfl)
#print axioms commonTerms_proved
end Go.Proofs.YtfngaoicoecncaaGreatDoor

