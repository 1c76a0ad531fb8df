/-
  A geo_distance query as it is told and as it is read.
-/
import Derived.Test.YtdjojnlejkljdaaGd
import Derived.Test.YtdjojnlejkljdaaP4
import Derived.Test.YtdjojnlejkljdaaTx
import Derived.Test.YtdjojnlejkljdaaFi
import Derived.Test.YtdjojnlejkljdaaSm
import Derived.Test.YtdjojnlejkljdaaR2
import Derived.Test.YtdjojnlejkljdaaBk
import Derived.Deep.CutBlock
namespace Go.Proofs.Ytdjojnlejkljdaa
open Go.RowKit

abbrev sGeoDistance : ByteArray := ⟨#[71, 101, 111, 68, 105, 115, 116, 97, 110, 99, 101]⟩
abbrev tGeoDistance : ByteArray := ⟨#[100, 105, 115, 116, 97, 110, 99, 101, 32, 116, 44, 100, 105, 115, 116, 97, 110, 99, 101, 95, 116, 121, 112, 101, 32, 116, 44, 112, 111, 105, 110, 116, 32, 112, 44, 108, 97, 116, 32, 110, 44, 108, 111, 110, 32, 110, 44, 104, 97, 115, 104, 32, 116, 44, 95, 110, 97, 109, 101, 32, 116]⟩
abbrev rGeoDistance : List (ByteArray × ByteArray) := [(s_distance, ⟨#[116]⟩), (s_distance_type, ⟨#[116]⟩), (s_point, ⟨#[112]⟩), (s_lat, ⟨#[110]⟩), (s_lon, ⟨#[110]⟩), (s_hash, ⟨#[116]⟩), (s_name, ⟨#[116]⟩)]
set_option maxHeartbeats 2000000 in
theorem table_geoDistance (w : World) : Calls Try.prog 138 #[.string sGeoDistance] w fun r w' => r = .returned (.string tGeoDistance) ∧ w' = w := by
  go_enter Try.func138, Try.ntmps138
  go_wp2
  go_ret
  exact ⟨rfl, rfl⟩
set_option maxRecDepth 20000 in
theorem rows_geoDistance (w : World) : Calls Try.prog 131 #[.string sGeoDistance] w fun r w' => ∃ v, r = .returned v ∧ Own2 w' w.heap.size v rGeoDistance ∧ Ext w w' :=
  rows_any sGeoDistance tGeoDistance w table_geoDistance 9 (by decide) (by decide)
theorem tree_looseG {S S' : Nat → Prop} {w : World} {e : El} {t : T} (h : TreeAt S w e t) (hs : scalarT t = true) : TreeAt S' w e t := by
  obtain ⟨k, x, d, y, ks, xs⟩ := t
  have h2 : ks = [] ∧ xs = [] := by
    unfold scalarT scalarF at hs
    simp only [T.keys, T.kids] at hs
    cases ks with
    | cons _ _ => simp at hs
    | nil =>
      cases xs with
      | cons _ _ => simp at hs
      | nil => exact ⟨rfl, rfl⟩
  obtain ⟨rfl, rfl⟩ := h2
  obtain ⟨h1, h2, h3, h4, h5, h6⟩ := h.parts
  exact TreeAt.of h1 h2 h3 h4 ⟨h5.1, h5.2.1, h5.2.2.1, fun _ _ hh => by simp [T.keys] at hh⟩ (KidsAt.of h6.1 h6.2.1 h6.2.2.1 fun _ _ hh => by simp [T.kids] at hh)
theorem pk_looseG {S S' : Nat → Prop} {w : World} {es : List (ByteArray × El)} {ps : List (ByteArray × T)} (h : Pk S w es ps) (hs : ∀ p ∈ ps, scalarT p.2 = true) : Pk S' w es ps :=
  ⟨h.1, fun i e p he hp => ⟨(h.2 i e p he hp).1, tree_looseG (h.2 i e p he hp).2 (hs p (List.mem_of_getElem? hp))⟩⟩
theorem params_plainG {rs : List (ByteArray × ByteArray)} {ps : List (ByteArray × T)} (hF : FitsP rs ps) (rs2 : List (ByteArray × ByteArray)) : ∀ p ∈ paramsL rs2 ps, scalarT p.2 = true := fun p hp => by
  unfold paramsL at hp
  obtain ⟨r, -, hr⟩ := List.mem_filterMap.1 hp
  unfold param at hr
  split at hr
  · cases hl : lastOf ps r.1 with
    | none => rw [hl] at hr; cases hr
    | some t =>
      rw [hl] at hr
      cases hr
      exact (fits_last hF hl).1
  · cases hr
/-- Names with trees to which one more is appended. -/
theorem pk_plusG {P : Nat → Prop} {w w' : World} {g cap n : Nat} {v : Value} {es : List (ByteArray × El)} {ps : List (ByteArray × T)} {k : ByteArray} {e : El} {t : T} (hP : Pk (fun b => P b ∧ v.ownBlock ≠ some b) w es ps) (ht : TreeAt (fun b => P b ∧ v.ownBlock ≠ some b) w e t)
    (hg : w.grownBy w' v.ownBlock) (hl : Lies w v g) : Pk (fun b => P b ∧ (Value.slice (some ⟨g, 0, none⟩) n cap).ownBlock ≠ some b) w' (es ++ [(k, e)]) (ps ++ [(k, t)]) := by
  have hk : Keeps (fun b => P b ∧ v.ownBlock ≠ some b) w w' := keeps_grown hg (fun b hb e => hb.2 e.symm)
  have hS : ∀ b, (P b ∧ v.ownBlock ≠ some b) → b < w.heap.size → P b ∧ (Value.slice (some ⟨g, 0, none⟩) n cap).ownBlock ≠ some b := fun b hb hlt => by
    refine ⟨hb.1, fun e => ?_⟩
    simp only [Value.ownBlock, Option.some.injEq] at e
    rcases hl with hl | hl
    · exact hb.2 (by rw [hl, e])
    · omega
  exact Pk.append (hP.keep hS hk) (Pk.one (TreeAt.keep hS hk _ ht))
abbrev geoOut : List ByteArray := [s_lat, s_lon, s_hash]
set_option maxRecDepth 20000 in
set_option maxHeartbeats 2000000 in
theorem pick_any {S : Nat → Prop} (a : Option Addr) (n c : Nat) (ps : List (ByteArray × T)) (wa : Option Addr) (wn wc : Nat) (ws : List ByteArray) (w : World) (h : PairsAt S w a n c ps) (hW : StrsAt S w wa wn wc ws) (hb : n ≤ 65536) :
    Calls Try.prog 85 #[.slice a n c, .slice wa wn wc] w fun r w' => ∃ v es, r = .returned v ∧ OwnPairs w' w.heap.size v es ∧ Pk (fun b => S b ∧ b < w.heap.size) w' es (ps.filter fun p => !hasS ws p.1) ∧ Ext w w' := by
  have h := h.keep (S' := fun b => S b ∧ b < w.heap.size) (fun b h1 h2 => ⟨h1, h2⟩) (fun _ _ _ => rfl)
  have HW := Lib.hid (fun (w' : World) (x : Ext w w') (s : ByteArray) => has_any wa wn wc ws s w' (hW.ext x))
  obtain ⟨hl, hn, hm, hc⟩ := h
  unfold maxLen at hm
  have HL := Lib.hid hl
  have HC := Lib.hid hc
  clear hl hc hW
  go_enter Try.func85, Try.ntmps85
  go_wp2_with fail
  go_loopw [5, 6] (fun v i wr => Ext w wr ∧ w.heap.size + 1 ≤ wr.heap.size ∧ ∃ (j : Nat) (es : List (ByteArray × El)) (vv : Value), vv = v ∧ j ≤ n ∧ i = .int .i64 j ∧ OwnPairs wr w.heap.size vv es ∧ Pk (fun b => S b ∧ b < w.heap.size) wr es ((ps.take j).filter fun p => !hasS ws p.1)) (fun _ i _ => n - (intOf i).toNat)
  case atStart =>
    exact ⟨by (repeat (first | exact ext_refl _ | assumption | refine ext_alloc ?_ _ | refine ext_drew ?_ | refine ext_set ?_ (by simp) _ | refine ext_trans ?_ (by assumption))), by simp, 0, [], _, rfl, Nat.zero_le _, rfl, ⟨rfl, .inr ⟨w.heap.size, 0, #[], rfl, Nat.le_refl _, Box.at rfl _ _, Nat.le_refl _, by simp [maxLen], rfl, rfl⟩⟩, ⟨rfl, fun _ _ _ h => by simp at h⟩⟩
  case round =>
    obtain ⟨hx, hwr, j, es, vv, hvv, hj, rfl, hO, hP⟩ := hrel
    subst hvv
    have HO := Lib.hid hO
    have HPk := Lib.hid hP
    have hel : es.length ≤ j := by rw [← hP.1]; exact Nat.le_trans (List.length_filter_le _ _) (List.length_take_le _ _)
    clear hO hP
    by_cases hlt : j < n
    · obtain ⟨p, hp⟩ := some_of_lt HL.out hlt
      obtain ⟨b, off, g, rfl, hSb, hc7, hT⟩ := HC.out j p hp
      have hc7 := Cells7.ext hx hc7
      have hT := Lib.hid (hT.ext hx)
      have HP := Lib.hid hp
      clear hp
      obtain ⟨z0, z1, z2, z3, z4, z5, z6⟩ := id hc7
      have hbw : b < wr.heap.size := lt_of_cell z0
      have hH := HW.out wr hx p.1
      cases hk : hasS ws p.1 with
      | true =>
        rw [hk] at hH
        have HH := Lib.hid hH
        clear hH
        go_wp2_with (first
          | (go_at_call 31; refine HH.out.mono ?_; rintro r w' ⟨rfl, rfl⟩)
          | fail)
        go_roundw
        case rel =>
          refine ⟨hx, hwr, j + 1, es, _, rfl, by omega, by go_num, HO.out, ?_⟩
          rw [take_snoc HP.out, List.filter_append]
          simpa [hk] using HPk.out
        case measure => simp [intOf]; omega
      | false =>
        rw [hk] at hH
        have HH := Lib.hid hH
        clear hH
        have x3 : Ext wr (wr.alloc (.cells #[.string p.1, .int .i64 g.k, .string g.x, .float .f64 g.d, .bool g.y, .slice g.ka g.n g.kc, .slice g.ca g.m g.cc] 86)) := ext_alloc (ext_refl _) _
        have hbp : Box (wr.alloc (.cells #[.string p.1, .int .i64 g.k, .string g.x, .float .f64 g.d, .bool g.y, .slice g.ka g.n g.kc, .slice g.ca g.m g.cc] 86)) wr.heap.size #[.string p.1, .int .i64 g.k, .string g.x, .float .f64 g.d, .bool g.y, .slice g.ka g.n g.kc, .slice g.ca g.m g.cc] 86 := Box.at rfl _ _
        go_wp2_with (first
          | (go_at_call 31; refine HH.out.mono ?_; rintro r w' ⟨rfl, rfl⟩)
          | (at_builtin; refine list_append_pairs _ rfl _ _ rfl w.heap.size vv es rfl (HO.out.ext x3) wr.heap.size 0 1 [(p.1, g)] (by simp) rfl (fun i q hq => by
               cases i with
               | zero => simp at hq; subst hq; exact ⟨hbp.cell 0 _ rfl, hbp.cell 1 _ rfl, hbp.cell 2 _ rfl, hbp.cell 3 _ rfl, hbp.cell 4 _ rfl, hbp.cell 5 _ rfl, hbp.cell 6 _ rfl⟩
               | succ i => simp at hq) (by simp; omega) (Nat.le_trans (by omega) x3.sz) ?_; intro g1 cap1 w4 hown hgrow hlies hglt
             have hbw2 : ∀ q, vv.ownBlock = some q → w.heap.size ≤ q := fun q hq => (World.ownsRow.lt HO.out q hq).1
             have hx5 : Ext w w4 := ext_grown (ext_trans hx x3) hgrow hbw2
             have hsz5 : w.heap.size + 1 ≤ w4.heap.size := Nat.le_trans (Nat.le_trans hwr x3.sz) hgrow.size
             have hPk5 := Lib.hid (Pk.append (Pk.keep (S' := fun b => S b ∧ b < w.heap.size) (fun _ h _ => h) (keeps_grown hgrow (fun q hq e => by have := hbw2 q e.symm; have := hq.2; omega)) (HPk.out.ext x3)) (Pk.one (k := p.1) (TreeAt.keep (S' := fun b => S b ∧ b < w.heap.size) (fun _ h _ => h) (keeps_grown hgrow (fun q hq e => by have := hbw2 q e.symm; have := hq.2; omega)) _ (hT.out.ext x3))))
             have hown5 := Lib.hid hown
             clear hown hgrow hlies)
          | fail)
        go_roundw
        case rel =>
          refine ⟨hx5, hsz5, j + 1, es ++ [(p.1, g)], _, rfl, by omega, by go_num, by simpa using hown5.out, ?_⟩
          rw [take_snoc HP.out, List.filter_append, show List.filter (fun q : ByteArray × T => !hasS ws q.1) [p] = [p] by simp [hk]]
          exact hPk5.out
        case measure => simp [intOf]; omega
    · have hjn : j = n := by omega
      have hfull : ps.take j = ps := List.take_of_length_le (by have := HL.out; omega)
      have hP := HPk.out
      rw [hfull] at hP
      clear hjn
      go_wp2_with fail
      go_ret
      exact ⟨_, _, rfl, HO.out, hP, hx⟩
def ptT (ps : List (ByteArray × T)) : T := match lastOf ps s_hash with
  | some t => t
  | none => pointT (foldG ps)
set_option maxRecDepth 20000 in
set_option maxHeartbeats 8000000 in
theorem geoS_any {S : Nat → Prop} (f : ByteArray) (a : Option Addr) (n c : Nat) (ps : List (ByteArray × T)) (w : World) (h : PairsAt S w a n c ps) (hPP : ∀ p ∈ ps, seq p.1 s_point = true → PairP p.2) (hSc : ∀ p ∈ paramsL rGeoDistance ps, scalarT p.2 = true) :
    Calls Try.prog 24 #[.string f, .slice a n c] w fun r w' => ∃ g : El, r = .returned g.val ∧ TreeAt (fun _ => True) w' g (mapT [(s_geo_distance, mapT (((paramsL rGeoDistance ps).filter fun p => !hasS geoOut p.1) ++ [(f, ptT ps)]))]) ∧ Ext w w' := by
  have HP := Lib.hid (fun (w' : World) (x : Ext w w') => params_any sGeoDistance tGeoDistance a n c ps w' table_geoDistance 9 (by decide) (by decide) rGeoDistance (by decide) (by decide) (h.ext x))
  have HPL := Lib.hid (params_len rGeoDistance ps)
  have HSC := Lib.hid hSc
  have HPP := Lib.hid hPP
  have hI := h.keep (S' := fun b => b < w.heap.size) (fun _ _ hl => hl) (fun _ _ _ => rfl)
  have HLa := Lib.hid (fun (w' : World) (x : Ext w w') => last_any a n c ps s_hash w' (hI.ext x))
  obtain ⟨hl, hn, hm, hc⟩ := hI
  unfold maxLen at hm
  have HL := Lib.hid hl
  have HC := Lib.hid hc
  clear h hl hc hSc hPP
  have hb0 : Box (w.alloc (.cells (El.arr El0) 30)) w.heap.size (El.arr El0) 30 := Box.at rfl _ _
  have hx0 : Ext w (w.alloc (.cells (El.arr El0) 30)) := ext_alloc (ext_refl _) _
  have hs0 : (w.alloc (.cells (El.arr El0) 30)).heap.size = w.heap.size + 1 := by simp
  go_enter Try.func24, Try.ntmps24
  have tokN := trivial
  go_wp2_with (first
    | (go_at_call 9; have _t := tokN; clear _t tokN; refine (number_any 0 _).mono ?_; rintro r w1 ⟨g1, rfl, hg1, hx1⟩; simp only [El.val])
    | (go_at_call 9; refine (number_any 0 _).mono ?_; rintro r w2 ⟨g2, rfl, hg2, hx2⟩; simp only [El.val]
       have hb52 : Box ((w2.alloc (.cells g1.arr 30)).alloc (.cells g2.arr 30)) w2.heap.size g1.arr 30 := (Box.at rfl _ _).alloc _
       have hb62 : Box ((w2.alloc (.cells g1.arr 30)).alloc (.cells g2.arr 30)) (w2.heap.size + 1) g2.arr 30 := Box.at (by simp) _ _
       have hw22 : Ext w2 ((w2.alloc (.cells g1.arr 30)).alloc (.cells g2.arr 30)) := ext_alloc (ext_alloc (ext_refl _) _) _
       obtain ⟨y0, y1, y2, y3, y4, y5⟩ := hb52.six
       obtain ⟨u0, u1, u2, u3, u4, u5⟩ := hb62.six
       have hPo := Lib.hid (pointT_any (S := fun _ => False) g1 g2 (numT 0) (numT 0) ((w2.alloc (.cells g1.arr 30)).alloc (.cells g2.arr 30)) (((hg1 (fun _ => False)).ext hx2).ext hw22) ((hg2 (fun _ => False)).ext hw22)))
    | (go_at_call 84; refine hPo.out.mono ?_; rintro r w3 ⟨gp, rfl, hTp, hx3⟩; simp only [El.val])
    | fail)
  have hs1 := hx1.sz
  rw [hs0] at hs1
  have hs2 := hx2.sz
  have hs3 := hx3.sz
  simp only [World.size_alloc] at hs3
  have hx3w : Ext w (w3.alloc (.cells gp.arr 30)) := ext_alloc (ext_trans (ext_trans (ext_trans (ext_trans hx0 hx1) hx2) hw22) hx3) _
  have hbR := ((((hb0.ext hx1).ext hx2).ext hw22).ext hx3).alloc (.cells gp.arr 30)
  have hb5 := (hb52.ext hx3).alloc (.cells gp.arr 30)
  have hb6 := (hb62.ext hx3).alloc (.cells gp.arr 30)
  have hb7 : Box (w3.alloc (.cells gp.arr 30)) w3.heap.size gp.arr 30 := Box.at rfl _ _
  have hT5 := Lib.hid (((((hg1 (fun b => b ≠ w.heap.size ∧ b ≠ w2.heap.size ∧ b ≠ w2.heap.size + 1 ∧ b ≠ w3.heap.size)).ext hx2).ext hw22).ext hx3).ext (ext_alloc (ext_refl w3) (.cells gp.arr 30)))
  have hT6 := Lib.hid ((((hg2 (fun b => b ≠ w.heap.size ∧ b ≠ w2.heap.size ∧ b ≠ w2.heap.size + 1 ∧ b ≠ w3.heap.size)).ext hw22).ext hx3).ext (ext_alloc (ext_refl w3) (.cells gp.arr 30)))
  have hg0 : foldG (ps.take 0) = (numT 0, numT 0) := rfl
  have hT7 := Lib.hid ((hTp.to (S' := (fun b => b ≠ w.heap.size ∧ b ≠ w2.heap.size ∧ b ≠ w2.heap.size + 1 ∧ b ≠ w3.heap.size)) (fun b hb hl => by
    simp only [World.size_alloc, false_or] at hb
    refine ⟨?_, ?_, ?_, ?_⟩ <;> omega)).ext (ext_alloc (ext_refl w3) (.cells gp.arr 30)))
  have hB3 : w2.heap.size + 2 ≤ w3.heap.size := by omega
  have hB1 : w.heap.size + 1 ≤ w2.heap.size := by omega
  have hs7 := hb7.lt
  clear hTp hs1 hs2 hs3 hg1 hg2 hb52 hb62 y0 y1 y2 y3 y4 y5 u0 u1 u2 u3 u4 u5 hPo
  generalize w3.alloc (.cells gp.arr 30) = w4 at hx3w hbR hb5 hb6 hb7 hT5 hT6 hT7 hs7 ⊢
  go_loopw [8] (fun i wr => Ext w wr ∧ w3.heap.size + 1 ≤ wr.heap.size ∧ Box wr w.heap.size (El.arr El0) 30 ∧ ∃ (j : Nat) (gl gn gq : El), j ≤ n ∧ i = .int .i64 j ∧ Box wr w2.heap.size gl.arr 30 ∧ Box wr (w2.heap.size + 1) gn.arr 30 ∧ Box wr w3.heap.size gq.arr 30 ∧ TreeAt (fun b => b ≠ w.heap.size ∧ b ≠ w2.heap.size ∧ b ≠ w2.heap.size + 1 ∧ b ≠ w3.heap.size) wr gl (foldG (ps.take j)).1 ∧ TreeAt (fun b => b ≠ w.heap.size ∧ b ≠ w2.heap.size ∧ b ≠ w2.heap.size + 1 ∧ b ≠ w3.heap.size) wr gn (foldG (ps.take j)).2 ∧ TreeAt (fun b => b ≠ w.heap.size ∧ b ≠ w2.heap.size ∧ b ≠ w2.heap.size + 1 ∧ b ≠ w3.heap.size) wr gq (pointT (foldG (ps.take j)))) (fun i _ => n - (intOf i).toNat)
  case atStart => exact ⟨hx3w, hs7, hbR, 0, g1, g2, gp, Nat.zero_le _, rfl, hb5, hb6, hb7, hT5.out, hT6.out, hT7.out⟩
  case round =>
    clear hbR hb5 hb6 hb7 hT5 hT6 hT7 hs7
    obtain ⟨hx, hsz, hbR, j, gl, gn, gq, hj, rfl, hb5, hb6, hb7, hT5, hT6, hT7⟩ := hrel
    have H5 := Lib.hid hT5
    have H6 := Lib.hid hT6
    have H7 := Lib.hid hT7
    clear hT5 hT6 hT7
    by_cases hlt : j < n
    case pos =>
      obtain ⟨p, hp⟩ := some_of_lt HL.out hlt
      obtain ⟨b, off, ⟨k, x, d, y, ka, kn, kc, ca, m, cc⟩, rfl, hSb, hc7, hT⟩ := HC.out j p hp
      have hc7 := Cells7.ext hx hc7
      have hTx := hT.ext hx
      have HT := Lib.hid (hTx.to (S' := (fun b => b ≠ w.heap.size ∧ b ≠ w2.heap.size ∧ b ≠ w2.heap.size + 1 ∧ b ≠ w3.heap.size)) (fun q hq _ => by refine ⟨?_, ?_, ?_, ?_⟩ <;> omega))
      have hbw : b < w.heap.size := hSb
      have HP0 := Lib.hid hp
      have hPr := HPP.out p (List.mem_of_getElem? hp)
      obtain ⟨z0, z1, z2, z3, z4, z5, z6⟩ := id hc7
      clear hp hT
      obtain ⟨o0, o1, o2, o3, o4, o5⟩ := hb5.six
      obtain ⟨q0, q1, q2, q3, q4, q5⟩ := hb6.six
      have f0 := hb5.free 0; have f1 := hb5.free 1; have f2 := hb5.free 2; have f3 := hb5.free 3; have f4 := hb5.free 4; have f5 := hb5.free 5
      have r0 := hb6.free 0; have r1 := hb6.free 1; have r2 := hb6.free 2; have r3 := hb6.free 3; have r4 := hb6.free 4; have r5 := hb6.free 5
      have hl5 := hb5.lt
      have hl6 := hb6.lt
      go_upto_block 2 with fail
      go_cut [] (fun wc => Ext w wc ∧ w3.heap.size + 1 ≤ wc.heap.size ∧ Box wc w.heap.size (El.arr El0) 30 ∧ Box wc w3.heap.size gq.arr 30 ∧ ∃ (gl gn : El), Box wc w2.heap.size gl.arr 30 ∧ Box wc (w2.heap.size + 1) gn.arr 30 ∧ TreeAt (fun b => b ≠ w.heap.size ∧ b ≠ w2.heap.size ∧ b ≠ w2.heap.size + 1 ∧ b ≠ w3.heap.size) wc gl (stepG (foldG (ps.take j)) p).1 ∧ TreeAt (fun b => b ≠ w.heap.size ∧ b ≠ w2.heap.size ∧ b ≠ w2.heap.size + 1 ∧ b ≠ w3.heap.size) wc gn (stepG (foldG (ps.take j)) p).2)
      case first =>
        cases he2 : p.1.toList == [112, 111, 105, 110, 116]
        · have e2 : seq p.1 s_point = false := by rw [seq, show s_point.toList = [112, 111, 105, 110, 116] by rw [Lib.toList_data]]; exact he2
          cases he3 : p.1.toList == [108, 97, 116]
          · have e3 : seq p.1 s_lat = false := by rw [seq, show s_lat.toList = [108, 97, 116] by rw [Lib.toList_data]]; exact he3
            cases he4 : p.1.toList == [108, 111, 110]
            · have e4 : seq p.1 s_lon = false := by rw [seq, show s_lon.toList = [108, 111, 110] by rw [Lib.toList_data]]; exact he4
              go_wp2_with fail
              go_meet
              case rel => exact ⟨hx, hsz, hbR, hb7, gl, gn, hb5, hb6, by rw [stepG_skip e2 e3 e4]; exact H5.out, by rw [stepG_skip e2 e3 e4]; exact H6.out⟩
            · have e4 : seq p.1 s_lon = true := by rw [seq, show s_lon.toList = [108, 111, 110] by rw [Lib.toList_data]]; exact he4
              go_wp2_with fail
              go_meet
              case rel =>
                have hkk : Keeps (fun b => b ≠ w.heap.size ∧ b ≠ w2.heap.size ∧ b ≠ w2.heap.size + 1 ∧ b ≠ w3.heap.size) wr (sto wr (w2.heap.size + 1) (⟨k, x, d, y, ka, kn, kc, ca, m, cc⟩ : El)) := keeps_sto wr (fun h => h.2.2.1 rfl) (⟨k, x, d, y, ka, kn, kc, ca, m, cc⟩ : El)
                exact ⟨ext_sto6 hx (by omega) _ _ _ _ _ _, Nat.le_trans hsz (grown_sto6 wr _ _ _ _ _ _ _).size, hbR.sto6' (by omega) _ _ _ _ _ _, hb7.sto6' (by omega) _ _ _ _ _ _, gl, (⟨k, x, d, y, ka, kn, kc, ca, m, cc⟩ : El), hb5.sto6' (by omega) _ _ _ _ _ _, hb6.sto (⟨k, x, d, y, ka, kn, kc, ca, m, cc⟩ : El), by rw [stepG_lon e4]; exact TreeAt.keep (fun _ h _ => h) hkk _ H5.out, by rw [stepG_lon e4]; exact TreeAt.keep (fun _ h _ => h) hkk _ HT.out⟩
          · have e3 : seq p.1 s_lat = true := by rw [seq, show s_lat.toList = [108, 97, 116] by rw [Lib.toList_data]]; exact he3
            go_wp2_with fail
            go_meet
            case rel =>
              have hkk : Keeps (fun b => b ≠ w.heap.size ∧ b ≠ w2.heap.size ∧ b ≠ w2.heap.size + 1 ∧ b ≠ w3.heap.size) wr (sto wr w2.heap.size (⟨k, x, d, y, ka, kn, kc, ca, m, cc⟩ : El)) := keeps_sto wr (fun h => h.2.1 rfl) (⟨k, x, d, y, ka, kn, kc, ca, m, cc⟩ : El)
              exact ⟨ext_sto6 hx (by omega) _ _ _ _ _ _, Nat.le_trans hsz (grown_sto6 wr _ _ _ _ _ _ _).size, hbR.sto6' (by omega) _ _ _ _ _ _, hb7.sto6' (by omega) _ _ _ _ _ _, (⟨k, x, d, y, ka, kn, kc, ca, m, cc⟩ : El), gn, hb5.sto (⟨k, x, d, y, ka, kn, kc, ca, m, cc⟩ : El), hb6.sto6' (by omega) _ _ _ _ _ _, by rw [stepG_lat e3]; exact TreeAt.keep (fun _ h _ => h) hkk _ HT.out, by rw [stepG_lat e3]; exact TreeAt.keep (fun _ h _ => h) hkk _ H6.out⟩
        · have e2 : seq p.1 s_point = true := by rw [seq, show s_point.toList = [112, 111, 105, 110, 116] by rw [Lib.toList_data]]; exact he2
          obtain ⟨-, -, pa, pb, hkids, -⟩ := hPr e2
          obtain ⟨-, -, -, -, -, hK⟩ := hTx.parts
          simp only at hK
          have hm2 : m = 2 := by rw [← hK.1, hkids]; rfl
          obtain ⟨kb, ko, ea, hca, hSk, c0, hTa⟩ := hK.get (show p.2.kids[0]? = some pa by rw [hkids]; rfl)
          obtain ⟨kb', ko', eb, hcb, -, c1, hTb⟩ := hK.get (show p.2.kids[1]? = some pb by rw [hkids]; rfl)
          subst hca
          cases hcb
          rw [Nat.zero_mul, Nat.add_zero] at c0
          rw [Nat.one_mul] at c1
          have hka : kidT p.2 0 = pa := by unfold kidT; rw [hkids]; rfl
          have hkb : kidT p.2 1 = pb := by unfold kidT; rw [hkids]; rfl
          have hkbw : kb < w.heap.size := hSk
          have HTa := Lib.hid (hTa.to (S' := (fun b => b ≠ w.heap.size ∧ b ≠ w2.heap.size ∧ b ≠ w2.heap.size + 1 ∧ b ≠ w3.heap.size)) (fun q hq _ => by refine ⟨?_, ?_, ?_, ?_⟩ <;> omega))
          have HTb := Lib.hid (hTb.to (S' := (fun b => b ≠ w.heap.size ∧ b ≠ w2.heap.size ∧ b ≠ w2.heap.size + 1 ∧ b ≠ w3.heap.size)) (fun q hq _ => by refine ⟨?_, ?_, ?_, ?_⟩ <;> omega))
          obtain ⟨ak, ax, ad, ay, aka, akn, akc, aca, am, acc⟩ := ea
          obtain ⟨bk, bx, bd, bby, bka, bkn, bkc, bca, bm, bcc⟩ := eb
          subst hm2
          clear hK hTa hTb hkids hTx
          go_upto_region 8 with fail
          refine wp_region_order (fun (w' : World) => w'.cell? ⟨b, off + j * 7 + 6, none⟩ = some (.slice (some ⟨kb, ko, none⟩) 2 cc) ∧ CellsAt w' kb ko (⟨ak, ax, ad, ay, aka, akn, akc, aca, am, acc⟩ : El) ∧ CellsAt w' kb (ko + 6) (⟨bk, bx, bd, bby, bka, bkn, bkc, bca, bm, bcc⟩ : El)) [0, 1, 2, 3, 4, 5, 6, 7, 8, 9, 10, 11, 12, 13, 14, 15] [0, 1, 2, 3, 4, 5, 6, 7, 8, 9, 10, 11, 12, 13, 14, 15, 16, 17] (by kernel_rfl) (by kernel_rfl) (fun d _ _ _ _ h => by cases d <;> exact h) (by kernel_rfl) ?_
          have hS : (fun (w' : World) => w'.cell? ⟨b, off + j * 7 + 6, none⟩ = some (.slice (some ⟨kb, ko, none⟩) 2 cc) ∧ CellsAt w' kb ko (⟨ak, ax, ad, ay, aka, akn, akc, aca, am, acc⟩ : El) ∧ CellsAt w' kb (ko + 6) (⟨bk, bx, bd, bby, bka, bkn, bkc, bca, bm, bcc⟩ : El)) _ := ⟨z6, c0, c1⟩
          (apply ord_held rfl rfl (by assumption) rfl; (focus ((intro w' hS'); go_simp; (try with_reducible rfl))); (try simp only [Act.put, List.setIfInBounds_toArray, List.set_cons_zero, List.set_cons_succ]))
          (apply ord_held rfl rfl (by assumption) rfl; (focus ((intro w' hS'); go_simp; (try with_reducible rfl))); (try simp only [Act.put, List.setIfInBounds_toArray, List.set_cons_zero, List.set_cons_succ]))
          (apply ord_held rfl rfl (by assumption) rfl; (focus ((intro w' hS'); go_simp; (try with_reducible rfl))); (try simp only [Act.put, List.setIfInBounds_toArray, List.set_cons_zero, List.set_cons_succ]))
          (apply ord_held rfl rfl (by assumption) rfl; (focus ((intro w' hS'); go_simp; (try with_reducible rfl))); (try simp only [Act.put, List.setIfInBounds_toArray, List.set_cons_zero, List.set_cons_succ]))
          (apply ord_held rfl rfl (by assumption) rfl; (focus ((intro w' hS'); go_simp; (try with_reducible rfl))); (try simp only [Act.put, List.setIfInBounds_toArray, List.set_cons_zero, List.set_cons_succ]))
          (apply ord_held rfl rfl (by assumption) rfl; (focus ((intro w' hS'); go_simp; (try with_reducible rfl))); (try simp only [Act.put, List.setIfInBounds_toArray, List.set_cons_zero, List.set_cons_succ]))
          (apply ord_held rfl rfl (by assumption) rfl; (focus ((intro w' hS'); go_simp; (try with_reducible rfl))); (try simp only [Act.put, List.setIfInBounds_toArray, List.set_cons_zero, List.set_cons_succ]))
          (apply ord_held rfl rfl (by assumption) rfl; (focus ((intro w' hS'); go_simp; (try with_reducible rfl))); (try simp only [Act.put, List.setIfInBounds_toArray, List.set_cons_zero, List.set_cons_succ]))
          (apply ord_held rfl rfl (by assumption) rfl; (focus ((intro w' hS'); go_simp; (try with_reducible rfl))); (try simp only [Act.put, List.setIfInBounds_toArray, List.set_cons_zero, List.set_cons_succ]))
          (apply ord_held rfl rfl (by assumption) rfl; (focus ((intro w' hS'); go_simp; (try with_reducible rfl))); (try simp only [Act.put, List.setIfInBounds_toArray, List.set_cons_zero, List.set_cons_succ]))
          (apply ord_held rfl rfl (by assumption) rfl; (focus ((intro w' hS'); go_simp; (try with_reducible rfl))); (try simp only [Act.put, List.setIfInBounds_toArray, List.set_cons_zero, List.set_cons_succ]))
          (apply ord_held rfl rfl (by assumption) rfl; (focus ((intro w' hS'); go_simp; (try with_reducible rfl))); (try simp only [Act.put, List.setIfInBounds_toArray, List.set_cons_zero, List.set_cons_succ]))
          (apply ord_held rfl rfl (by assumption) rfl; (focus ((intro w' hS'); go_simp; (try with_reducible rfl))); (try simp only [Act.put, List.setIfInBounds_toArray, List.set_cons_zero, List.set_cons_succ]))
          (apply ord_held rfl rfl (by assumption) rfl; (focus ((intro w' hS'); go_simp; (try with_reducible rfl))); (try simp only [Act.put, List.setIfInBounds_toArray, List.set_cons_zero, List.set_cons_succ]))
          (apply ord_held rfl rfl (by assumption) rfl; (focus ((intro w' hS'); go_simp; (try with_reducible rfl))); (try simp only [Act.put, List.setIfInBounds_toArray, List.set_cons_zero, List.set_cons_succ]))
          (apply ord_held rfl rfl (by assumption) rfl; (focus ((intro w' hS'); go_simp; (try with_reducible rfl))); (try simp only [Act.put, List.setIfInBounds_toArray, List.set_cons_zero, List.set_cons_succ]))
          (apply ord_loud rfl rfl rfl; intro K hK; go_simp)
          have hkS0 : Keeps (fun q => q ≠ w2.heap.size) wr (sto6 wr w2.heap.size (.int .i64 ak) (.string ax) (.float .f64 ad) (.bool ay) (.slice aka akn akc) (.slice aca am acc)) := keeps_sto wr (fun h => h rfl) (⟨ak, ax, ad, ay, aka, akn, akc, aca, am, acc⟩ : El)
          have hgS := (grown_sto6 wr w2.heap.size (.int .i64 ak) (.string ax) (.float .f64 ad) (.bool ay) (.slice aka akn akc) (.slice aca am acc)).size
          have hxS : Ext (sto6 wr w2.heap.size (.int .i64 ak) (.string ax) (.float .f64 ad) (.bool ay) (.slice aka akn akc) (.slice aca am acc)) (sto6 wr w2.heap.size (.int .i64 ak) (.string ax) (.float .f64 ad) (.bool ay) (.slice aka akn akc) (.slice aca am acc)).drew := ext_drew (ext_refl _)
          have hkS : Keeps (fun q => q ≠ w2.heap.size) wr (sto6 wr w2.heap.size (.int .i64 ak) (.string ax) (.float .f64 ad) (.bool ay) (.slice aka akn akc) (.slice aca am acc)).drew := fun q hq hl => (hxS.block q (Nat.lt_of_lt_of_le hl hgS)).trans (hkS0 q hq hl)
          have hS2 : (fun (w' : World) => w'.cell? ⟨b, off + j * 7 + 6, none⟩ = some (.slice (some ⟨kb, ko, none⟩) 2 cc) ∧ CellsAt w' kb ko (⟨ak, ax, ad, ay, aka, akn, akc, aca, am, acc⟩ : El) ∧ CellsAt w' kb (ko + 6) (⟨bk, bx, bd, bby, bka, bkn, bkc, bca, bm, bcc⟩ : El)) (sto6 wr w2.heap.size (.int .i64 ak) (.string ax) (.float .f64 ad) (.bool ay) (.slice aka akn akc) (.slice aca am acc)).drew := ⟨hkS.cell (show b ≠ w2.heap.size by omega) z6, CellsAt.keep hkS (by omega) c0, CellsAt.keep hkS (by omega) c1⟩
          have hb6s := (hb6.sto6' (b' := w2.heap.size) (by omega) (.int .i64 ak) (.string ax) (.float .f64 ad) (.bool ay) (.slice aka akn akc) (.slice aca am acc)).drew
          unfold sto6 at hS2 hb6s
          refine hK _ _ (fun _ => hS2) ?_
          clear hK K
          (try simp only [Act.put, List.setIfInBounds_toArray, List.set_cons_zero, List.set_cons_succ])
          have t0 := hb6s.free 0; have t1 := hb6s.free 1; have t2 := hb6s.free 2; have t3 := hb6s.free 3; have t4 := hb6s.free 4; have t5 := hb6s.free 5
          obtain ⟨tt0, tt1, tt2, tt3, tt4, tt5⟩ := hb6s.six
          have hlt6 := hb6s.lt
          (apply ord_last rfl rfl rfl (by kernel_rfl); intro K hK; go_simp; refine hK _ _ ?_; clear hK K; (try simp only [Act.put, List.setIfInBounds_toArray, List.set_cons_zero, List.set_cons_succ]))
          refine ord_end ?_
          go_wp2_with fail
          go_meet
          case rel =>
            have hk1 : Keeps (fun b => b ≠ w.heap.size ∧ b ≠ w2.heap.size ∧ b ≠ w2.heap.size + 1 ∧ b ≠ w3.heap.size) wr (sto wr w2.heap.size (⟨ak, ax, ad, ay, aka, akn, akc, aca, am, acc⟩ : El)) := keeps_sto wr (fun h => h.2.1 rfl) (⟨ak, ax, ad, ay, aka, akn, akc, aca, am, acc⟩ : El)
            have hk2 : Keeps (fun b => b ≠ w.heap.size ∧ b ≠ w2.heap.size ∧ b ≠ w2.heap.size + 1 ∧ b ≠ w3.heap.size) (sto wr w2.heap.size (⟨ak, ax, ad, ay, aka, akn, akc, aca, am, acc⟩ : El)) (sto (sto wr w2.heap.size (⟨ak, ax, ad, ay, aka, akn, akc, aca, am, acc⟩ : El)) (w2.heap.size + 1) (⟨bk, bx, bd, bby, bka, bkn, bkc, bca, bm, bcc⟩ : El)) := keeps_sto _ (fun h => h.2.2.1 rfl) (⟨bk, bx, bd, bby, bka, bkn, bkc, bca, bm, bcc⟩ : El)
            have hsz1 := (grown_sto6 wr w2.heap.size (.int .i64 ak) (.string ax) (.float .f64 ad) (.bool ay) (.slice aka akn akc) (.slice aca am acc)).size
            have hsz2 := (grown_sto6 (sto wr w2.heap.size (⟨ak, ax, ad, ay, aka, akn, akc, aca, am, acc⟩ : El)) (w2.heap.size + 1) (.int .i64 bk) (.string bx) (.float .f64 bd) (.bool bby) (.slice bka bkn bkc) (.slice bca bm bcc)).size
            have r1 : Ext w (sto (sto wr w2.heap.size (⟨ak, ax, ad, ay, aka, akn, akc, aca, am, acc⟩ : El)) (w2.heap.size + 1) (⟨bk, bx, bd, bby, bka, bkn, bkc, bca, bm, bcc⟩ : El)).drew := ext_drew (ext_sto6 (ext_sto6 hx (by omega) _ _ _ _ _ _) (by omega) _ _ _ _ _ _)
            have r2 : w3.heap.size + 1 ≤ (sto (sto wr w2.heap.size (⟨ak, ax, ad, ay, aka, akn, akc, aca, am, acc⟩ : El)) (w2.heap.size + 1) (⟨bk, bx, bd, bby, bka, bkn, bkc, bca, bm, bcc⟩ : El)).drew.heap.size := Nat.le_trans (Nat.le_trans (Nat.le_trans hsz hsz1) hsz2) (ext_drew (ext_refl (sto (sto wr w2.heap.size (⟨ak, ax, ad, ay, aka, akn, akc, aca, am, acc⟩ : El)) (w2.heap.size + 1) (⟨bk, bx, bd, bby, bka, bkn, bkc, bca, bm, bcc⟩ : El)))).sz
            have r3 := ((hbR.sto6' (b' := w2.heap.size) (by omega) (.int .i64 ak) (.string ax) (.float .f64 ad) (.bool ay) (.slice aka akn akc) (.slice aca am acc)).sto6' (b' := w2.heap.size + 1) (by omega) (.int .i64 bk) (.string bx) (.float .f64 bd) (.bool bby) (.slice bka bkn bkc) (.slice bca bm bcc)).drew
            have r4 := ((hb7.sto6' (b' := w2.heap.size) (by omega) (.int .i64 ak) (.string ax) (.float .f64 ad) (.bool ay) (.slice aka akn akc) (.slice aca am acc)).sto6' (b' := w2.heap.size + 1) (by omega) (.int .i64 bk) (.string bx) (.float .f64 bd) (.bool bby) (.slice bka bkn bkc) (.slice bca bm bcc)).drew
            have r5 := ((hb5.sto (⟨ak, ax, ad, ay, aka, akn, akc, aca, am, acc⟩ : El)).sto6' (b' := w2.heap.size + 1) (by omega) (.int .i64 bk) (.string bx) (.float .f64 bd) (.bool bby) (.slice bka bkn bkc) (.slice bca bm bcc)).drew
            have r6 := ((hb6.sto6' (b' := w2.heap.size) (by omega) (.int .i64 ak) (.string ax) (.float .f64 ad) (.bool ay) (.slice aka akn akc) (.slice aca am acc)).sto (⟨bk, bx, bd, bby, bka, bkn, bkc, bca, bm, bcc⟩ : El)).drew
            have hk3 : Keeps (fun b => b ≠ w.heap.size ∧ b ≠ w2.heap.size ∧ b ≠ w2.heap.size + 1 ∧ b ≠ w3.heap.size) wr (sto (sto wr w2.heap.size (⟨ak, ax, ad, ay, aka, akn, akc, aca, am, acc⟩ : El)) (w2.heap.size + 1) (⟨bk, bx, bd, bby, bka, bkn, bkc, bca, bm, bcc⟩ : El)).drew := fun q hq hl9 => ((ext_drew (ext_refl (sto (sto wr w2.heap.size (⟨ak, ax, ad, ay, aka, akn, akc, aca, am, acc⟩ : El)) (w2.heap.size + 1) (⟨bk, bx, bd, bby, bka, bkn, bkc, bca, bm, bcc⟩ : El)))).block q (Nat.lt_of_lt_of_le (Nat.lt_of_lt_of_le hl9 hsz1) hsz2)).trans ((hk2 q hq (Nat.lt_of_lt_of_le hl9 hsz1)).trans (hk1 q hq hl9))
            have r7 := TreeAt.keep (fun _ h _ => h) hk3 _ HTa.out
            have r8 := TreeAt.keep (fun _ h _ => h) hk3 _ HTb.out
            refine ⟨r1, r2, r3, r4, (⟨ak, ax, ad, ay, aka, akn, akc, aca, am, acc⟩ : El), (⟨bk, bx, bd, bby, bka, bkn, bkc, bca, bm, bcc⟩ : El), r5, r6, ?_, ?_⟩
            · rw [stepG_point e2]; dsimp only; rw [hka]; exact r7
            · rw [stepG_point e2]; dsimp only; rw [hkb]; exact r8
      case rest =>
        obtain ⟨hxc, hszc, hbRc, hb7c, hl, hr, hb5c, hb6c, hTl, hTr⟩ := hcut
        obtain ⟨o0, o1, o2, o3, o4, o5⟩ := hb5c.six
        obtain ⟨q0, q1, q2, q3, q4, q5⟩ := hb6c.six
        have HTl := Lib.hid hTl
        have HTr := Lib.hid hTr
        have hPo := Lib.hid (pointT_any (S := (fun b => b ≠ w.heap.size ∧ b ≠ w2.heap.size ∧ b ≠ w2.heap.size + 1 ∧ b ≠ w3.heap.size)) hl hr _ _ wc hTl hTr)
        clear hTl hTr
        go_wp2_with (first
          | (go_at_call 84; refine hPo.out.mono ?_; rintro r w9 ⟨g9, rfl, hT9, hx9⟩; simp only [El.val]
             have hb79 := hb7c.ext hx9
             obtain ⟨v0, v1, v2, v3, v4, v5⟩ := hb79.six
             have s0 := hb79.free 0; have s1 := hb79.free 1; have s2 := hb79.free 2; have s3 := hb79.free 3; have s4 := hb79.free 4; have s5 := hb79.free 5
             have hl79 := hb79.lt
             have H9 := Lib.hid (hT9.to (S' := (fun b => b ≠ w.heap.size ∧ b ≠ w2.heap.size ∧ b ≠ w2.heap.size + 1 ∧ b ≠ w3.heap.size)) (fun q hq hql => by
               rcases hq with hq | hq
               · exact hq
               · refine ⟨?_, ?_, ?_, ?_⟩ <;> omega))
             clear hT9)
          | fail)
        have hsz9 := hx9.sz
        go_roundw
        case rel =>
          have hkk : Keeps (fun b => b ≠ w.heap.size ∧ b ≠ w2.heap.size ∧ b ≠ w2.heap.size + 1 ∧ b ≠ w3.heap.size) w9 (sto w9 w3.heap.size g9) := keeps_sto w9 (fun h => h.2.2.2 rfl) g9
          exact ⟨ext_sto6 (ext_trans hxc hx9) (by omega) _ _ _ _ _ _, Nat.le_trans (Nat.le_trans hszc hsz9) (grown_sto6 w9 _ _ _ _ _ _ _).size, (hbRc.ext hx9).sto6' (by omega) _ _ _ _ _ _, j + 1, hl, hr, g9, by omega, by go_num, (hb5c.ext hx9).sto6' (by omega) _ _ _ _ _ _, (hb6c.ext hx9).sto6' (by omega) _ _ _ _ _ _, hb79.sto g9, by rw [foldG_step HP0.out]; exact TreeAt.keep (fun _ h _ => h) hkk _ (HTl.out.ext hx9), by rw [foldG_step HP0.out]; exact TreeAt.keep (fun _ h _ => h) hkk _ (HTr.out.ext hx9), by rw [foldG_step HP0.out]; exact TreeAt.keep (fun _ h _ => h) hkk _ H9.out⟩
        case measure => simp [intOf]; omega
    case neg =>
      have hjn : j = n := by omega
      have hfull : ps.take j = ps := List.take_of_length_le (by have := HL.out; omega)
      rw [hfull] at H5 H6 H7
      clear hjn
      cases hlo : lastOf ps s_hash with
      | none =>
        have e9 : ptT ps = pointT (foldG ps) := by unfold ptT; rw [hlo]
        go_upto_if 68 with (first
          | (go_at_call 59; refine (HLa.out _ hx).mono ?_; rintro r wl ⟨gh, rfl, hTh, hxl⟩; rw [hlo] at hTh ⊢; simp only [El.val, Option.isSome, Option.getD] at hTh ⊢
             have hb7l := (hb7.ext hxl).alloc (.cells gh.arr 30)
             have hbRl := (hbR.ext hxl).alloc (.cells gh.arr 30)
             have hbh : Box (wl.alloc (.cells gh.arr 30)) wl.heap.size gh.arr 30 := Box.at rfl _ _
             have hxla : Ext wr (wl.alloc (.cells gh.arr 30)) := ext_alloc hxl _
             have HTh := Lib.hid (hTh.ext (ext_alloc (ext_refl wl) (.cells gh.arr 30)))
             clear hTh)
          | fail)
        have E9 := Lib.hid e9
        clear e9
        go_cut [] (fun wc => Ext w wc ∧ w3.heap.size + 1 ≤ wc.heap.size ∧ Box wc w.heap.size (El.arr El0) 30 ∧ ∃ gq : El, Box wc w3.heap.size gq.arr 30 ∧ TreeAt (fun b => b ≠ w.heap.size ∧ b ≠ w2.heap.size ∧ b ≠ w2.heap.size + 1 ∧ b ≠ w3.heap.size) wc gq (ptT ps))
        case first =>
          have hszl := Nat.le_trans hsz hxla.sz
          obtain ⟨v0, v1, v2, v3, v4, v5⟩ := hb7l.six
          have s0 := hb7l.free 0; have s1 := hb7l.free 1; have s2 := hb7l.free 2; have s3 := hb7l.free 3; have s4 := hb7l.free 4; have s5 := hb7l.free 5
          obtain ⟨t0, t1, t2, t3, t4, t5⟩ := hbh.six
          have hl7 := hb7l.lt
          have hszl2 := hxl.sz
          go_wp2_with fail
          go_meet
          case rel =>
            exact ⟨ext_trans hx hxla, hszl, hbRl, gq, hb7l, by rw [E9.out]; exact H7.out.ext hxla⟩
        case rest =>
          obtain ⟨hxc, hszc, hbRc, gz, hb7c, hTz⟩ := hcut
          obtain ⟨v0, v1, v2, v3, v4, v5⟩ := hb7c.six
          have hTz2 := Lib.hid (hTz.to (S' := fun b => b ≠ w.heap.size ∧ b < wc.heap.size) (fun q hq hl => ⟨hq.1, hl⟩))
          clear hTz H5 H6 H7 HLa hbR hb5 hb6 hb7
          have tokB := trivial
          go_wp2_with (first
            | (go_at_call 55; refine (HP.out _ hxc).mono ?_; rintro r wp ⟨pv, es0, rfl, hO0, hPk0, hxp⟩
               have hxn : Ext wp (wp.alloc (.cells #[.string s_lat, .string s_lon, .string s_hash] 9)) := ext_alloc (ext_refl _) _
               have hbn : Box (wp.alloc (.cells #[.string s_lat, .string s_lon, .string s_hash] 9)) wp.heap.size #[.string s_lat, .string s_lon, .string s_hash] 9 := Box.at rfl _ _
               have hln : StrsAt (fun _ => True) (wp.alloc (.cells #[.string s_lat, .string s_lon, .string s_hash] 9)) (some ⟨wp.heap.size, 0, none⟩) 3 3 geoOut := ⟨rfl, Nat.le_refl _, by simp [maxLen], fun i s hs => by
                 match i, hs with
                 | 0, hs => simp [geoOut] at hs; subst hs; exact ⟨_, 0, rfl, trivial, hbn.cell 0 _ rfl⟩
                 | 1, hs => simp [geoOut] at hs; subst hs; exact ⟨_, 0, rfl, trivial, hbn.cell 1 _ rfl⟩
                 | 2, hs => simp [geoOut] at hs; subst hs; exact ⟨_, 0, rfl, trivial, hbn.cell 2 _ rfl⟩⟩
               obtain ⟨pa, pc, hpe, hPA⟩ := (hO0.ext hxn).pairs (S := fun _ => True) (ps := paramsL rGeoDistance ps) hPk0.1 (fun _ _ => trivial) (fun i e p he hp => ⟨(hPk0.2 i e p he hp).1, ((hPk0.2 i e p he hp).2.ext hxn).to (fun _ _ _ => trivial)⟩)
               have hpl0 : (paramsL rGeoDistance ps).length = es0.length := hPk0.1
               have hl0 : es0.length ≤ 7 := by have h2 := HPL.out; simp only [List.length_cons, List.length_nil] at h2; omega
               rw [hpl0] at hpe hPA
               subst hpe
               have HPi := Lib.hid (pick_any pa es0.length pc (paramsL rGeoDistance ps) (some ⟨wp.heap.size, 0, none⟩) 3 3 geoOut _ hPA hln (by omega))
               have hb7p := (hb7c.ext hxp).ext hxn
               clear hO0 hPk0 hPA hln hbn)
            | (go_at_call 85; refine HPi.out.mono ?_; rintro r wk ⟨kv, ks, rfl, hOk, hPkk, hxk⟩
               have hb7k := hb7p.ext hxk
               obtain ⟨v0, v1, v2, v3, v4, v5⟩ := hb7k.six
               have hl7k := hb7k.lt
               have hkl : ks.length ≤ 7 := by have h1 := hPkk.1; have h2 := List.length_filter_le (fun p : ByteArray × T => !hasS geoOut p.1) (paramsL rGeoDistance ps); omega
               have hsp := hxp.sz
               have hsk := hxk.sz
               simp only [World.size_alloc] at hsk hOk
               have hkb : ∀ q, kv.ownBlock = some q → wp.heap.size + 1 ≤ q ∧ q < wk.heap.size := fun q hq => World.ownsRow.lt hOk q hq
               have HPK := Lib.hid (pk_looseG (S' := fun b => b ≠ w.heap.size ∧ kv.ownBlock ≠ some b) hPkk (fun p hp => HSC.out p (List.mem_filter.1 hp).1))
               have HOK := Lib.hid hOk
               have x3 : Ext wk (wk.alloc (.cells #[.string f, .int .i64 gz.k, .string gz.x, .float .f64 gz.d, .bool gz.y, .slice gz.ka gz.n gz.kc, .slice gz.ca gz.m gz.cc] 86)) := ext_alloc (ext_refl _) _
               have hbp : Box (wk.alloc (.cells #[.string f, .int .i64 gz.k, .string gz.x, .float .f64 gz.d, .bool gz.y, .slice gz.ka gz.n gz.kc, .slice gz.ca gz.m gz.cc] 86)) wk.heap.size #[.string f, .int .i64 gz.k, .string gz.x, .float .f64 gz.d, .bool gz.y, .slice gz.ka gz.n gz.kc, .slice gz.ca gz.m gz.cc] 86 := Box.at rfl _ _
               have hxck : Ext wc wk := ext_trans (ext_trans hxp hxn) hxk
               have hTzk := ((hTz2.out.ext hxck).to (S' := fun b => b ≠ w.heap.size ∧ kv.ownBlock ≠ some b) (fun q hq _ => ⟨hq.1, fun e => by have := hkb q e; have := hq.2; omega⟩)).ext x3
               clear hOk hPkk)
            | (at_builtin; have _t := tokB; clear _t tokB; refine list_append_pairs _ rfl _ _ rfl (wp.heap.size + 1) kv ks rfl (HOK.out.ext x3) wk.heap.size 0 1 [(f, gz)] (by simp) rfl (fun i p hp => by
                 cases i with
                 | zero => simp at hp; subst hp; exact ⟨hbp.cell 0 _ rfl, hbp.cell 1 _ rfl, hbp.cell 2 _ rfl, hbp.cell 3 _ rfl, hbp.cell 4 _ rfl, hbp.cell 5 _ rfl, hbp.cell 6 _ rfl⟩
                 | succ i => simp at hp) (by simp; omega) (Nat.le_trans (by omega) x3.sz) ?_; intro g8 cap8 w8 hown hgrow hlies hglt
               have hPk8 := pk_plusG (g := g8) (cap := cap8) (n := ks.length + 1) (k := f) (HPK.out.ext x3) hTzk hgrow hlies
               have hx8 : Ext w w8 := ext_grown (ext_trans (ext_trans hxc hxck) x3) hgrow (fun k hk => by have := hkb k hk; omega)
               have hbR8 := ((hbRc.ext hxck).ext x3).grown hgrow (fun e => by have := hkb _ e.symm; omega)
               have hsz8 : w.heap.size + 1 ≤ w8.heap.size := Nat.le_trans (Nat.le_trans (by omega) x3.sz) hgrow.size
               obtain ⟨pa2, pc2, hpe2, hPA2⟩ := hown.pairs (S := fun b => b ≠ w.heap.size) hPk8.1 (fun b hb => by have h7 := (World.ownsRow.lt hown b hb).1; omega) (fun i e p he hp => ⟨(hPk8.2 i e p he hp).1, (hPk8.2 i e p he hp).2.to (fun b hb _ => hb.1)⟩)
               have hpl8 : ((paramsL rGeoDistance ps).filter (fun p => !hasS geoOut p.1) ++ [(f, ptT ps)]).length = ks.length + 1 := by rw [hPk8.1]; simp
               rw [hpl8] at hpe2 hPA2
               simp only [List.length_cons, List.length_nil, Nat.zero_add, Value.slice.injEq] at hpe2
               obtain ⟨rfl, -, rfl⟩ := hpe2
               have hB := Lib.hid (beside_any s_geo_distance _ _ _ _ w8 hPA2 (by omega))
               have hl8 := hbR8.lt
               clear hown hgrow hlies hPk8 hPA2)
            | (go_at_call 57; refine hB.out.mono ?_; rintro r w9 ⟨g2, rfl, hT9, hx9⟩; simp only [El.val]
               have hb9 := hbR8.ext hx9; obtain ⟨o0, o1, o2, o3, o4, o5⟩ := hb9.six; have f0 := hb9.free 0; have f1 := hb9.free 1; have f2 := hb9.free 2; have f3 := hb9.free 3; have f4 := hb9.free 4; have f5 := hb9.free 5)
            | fail)
          have hx9w := ext_trans hx8 hx9
          refine post_tree rfl rfl (hb9.sto g2) rfl ⟨g2, rfl, ?_, ext_sto6 hx9w (by omega) _ _ _ _ _ _⟩
          refine TreeAt.keep (S := fun b => b ≠ w.heap.size) (fun _ _ _ => trivial) (keeps_sto w9 (fun h => h rfl) g2) _ ?_
          exact hT9.to (S' := fun b => b ≠ w.heap.size) (fun q hq _ => by rcases hq with hq | hq; exact hq.1; omega)
      | some th =>
        have e9 : ptT ps = th := by unfold ptT; rw [hlo]
        go_upto_if 68 with (first
          | (go_at_call 59; refine (HLa.out _ hx).mono ?_; rintro r wl ⟨gh, rfl, hTh, hxl⟩; rw [hlo] at hTh ⊢; simp only [El.val, Option.isSome, Option.getD] at hTh ⊢
             have hb7l := (hb7.ext hxl).alloc (.cells gh.arr 30)
             have hbRl := (hbR.ext hxl).alloc (.cells gh.arr 30)
             have hbh : Box (wl.alloc (.cells gh.arr 30)) wl.heap.size gh.arr 30 := Box.at rfl _ _
             have hxla : Ext wr (wl.alloc (.cells gh.arr 30)) := ext_alloc hxl _
             have HTh := Lib.hid (hTh.ext (ext_alloc (ext_refl wl) (.cells gh.arr 30)))
             clear hTh)
          | fail)
        have E9 := Lib.hid e9
        clear e9
        go_cut [] (fun wc => Ext w wc ∧ w3.heap.size + 1 ≤ wc.heap.size ∧ Box wc w.heap.size (El.arr El0) 30 ∧ ∃ gq : El, Box wc w3.heap.size gq.arr 30 ∧ TreeAt (fun b => b ≠ w.heap.size ∧ b ≠ w2.heap.size ∧ b ≠ w2.heap.size + 1 ∧ b ≠ w3.heap.size) wc gq (ptT ps))
        case first =>
          have hszl := Nat.le_trans hsz hxla.sz
          obtain ⟨v0, v1, v2, v3, v4, v5⟩ := hb7l.six
          have s0 := hb7l.free 0; have s1 := hb7l.free 1; have s2 := hb7l.free 2; have s3 := hb7l.free 3; have s4 := hb7l.free 4; have s5 := hb7l.free 5
          obtain ⟨t0, t1, t2, t3, t4, t5⟩ := hbh.six
          have hl7 := hb7l.lt
          have hszl2 := hxl.sz
          go_wp2_with fail
          go_meet
          case rel =>
            have hkk : Keeps (fun b => b ≠ w.heap.size ∧ b ≠ w2.heap.size ∧ b ≠ w2.heap.size + 1 ∧ b ≠ w3.heap.size) (wl.alloc (.cells gh.arr 30)) (sto (wl.alloc (.cells gh.arr 30)) w3.heap.size gh) := keeps_sto _ (fun h => h.2.2.2 rfl) gh
            have hTt2 := TreeAt.keep (S := (fun b => b ≠ w.heap.size ∧ b ≠ w2.heap.size ∧ b ≠ w2.heap.size + 1 ∧ b ≠ w3.heap.size)) (fun _ h _ => h) hkk th (HTh.out.to (fun q hq _ => by refine ⟨?_, ?_, ?_, ?_⟩ <;> omega))
            exact ⟨ext_sto6 (ext_trans hx hxla) (by omega) _ _ _ _ _ _, Nat.le_trans hszl (grown_sto6 _ w3.heap.size (.int .i64 gh.k) (.string gh.x) (.float .f64 gh.d) (.bool gh.y) (.slice gh.ka gh.n gh.kc) (.slice gh.ca gh.m gh.cc)).size, hbRl.sto6' (by omega) _ _ _ _ _ _, gh, hb7l.sto gh, by rw [E9.out]; exact hTt2⟩
        case rest =>
          obtain ⟨hxc, hszc, hbRc, gz, hb7c, hTz⟩ := hcut
          obtain ⟨v0, v1, v2, v3, v4, v5⟩ := hb7c.six
          have hTz2 := Lib.hid (hTz.to (S' := fun b => b ≠ w.heap.size ∧ b < wc.heap.size) (fun q hq hl => ⟨hq.1, hl⟩))
          clear hTz H5 H6 H7 HLa hbR hb5 hb6 hb7
          have tokB := trivial
          go_wp2_with (first
            | (go_at_call 55; refine (HP.out _ hxc).mono ?_; rintro r wp ⟨pv, es0, rfl, hO0, hPk0, hxp⟩
               have hxn : Ext wp (wp.alloc (.cells #[.string s_lat, .string s_lon, .string s_hash] 9)) := ext_alloc (ext_refl _) _
               have hbn : Box (wp.alloc (.cells #[.string s_lat, .string s_lon, .string s_hash] 9)) wp.heap.size #[.string s_lat, .string s_lon, .string s_hash] 9 := Box.at rfl _ _
               have hln : StrsAt (fun _ => True) (wp.alloc (.cells #[.string s_lat, .string s_lon, .string s_hash] 9)) (some ⟨wp.heap.size, 0, none⟩) 3 3 geoOut := ⟨rfl, Nat.le_refl _, by simp [maxLen], fun i s hs => by
                 match i, hs with
                 | 0, hs => simp [geoOut] at hs; subst hs; exact ⟨_, 0, rfl, trivial, hbn.cell 0 _ rfl⟩
                 | 1, hs => simp [geoOut] at hs; subst hs; exact ⟨_, 0, rfl, trivial, hbn.cell 1 _ rfl⟩
                 | 2, hs => simp [geoOut] at hs; subst hs; exact ⟨_, 0, rfl, trivial, hbn.cell 2 _ rfl⟩⟩
               obtain ⟨pa, pc, hpe, hPA⟩ := (hO0.ext hxn).pairs (S := fun _ => True) (ps := paramsL rGeoDistance ps) hPk0.1 (fun _ _ => trivial) (fun i e p he hp => ⟨(hPk0.2 i e p he hp).1, ((hPk0.2 i e p he hp).2.ext hxn).to (fun _ _ _ => trivial)⟩)
               have hpl0 : (paramsL rGeoDistance ps).length = es0.length := hPk0.1
               have hl0 : es0.length ≤ 7 := by have h2 := HPL.out; simp only [List.length_cons, List.length_nil] at h2; omega
               rw [hpl0] at hpe hPA
               subst hpe
               have HPi := Lib.hid (pick_any pa es0.length pc (paramsL rGeoDistance ps) (some ⟨wp.heap.size, 0, none⟩) 3 3 geoOut _ hPA hln (by omega))
               have hb7p := (hb7c.ext hxp).ext hxn
               clear hO0 hPk0 hPA hln hbn)
            | (go_at_call 85; refine HPi.out.mono ?_; rintro r wk ⟨kv, ks, rfl, hOk, hPkk, hxk⟩
               have hb7k := hb7p.ext hxk
               obtain ⟨v0, v1, v2, v3, v4, v5⟩ := hb7k.six
               have hl7k := hb7k.lt
               have hkl : ks.length ≤ 7 := by have h1 := hPkk.1; have h2 := List.length_filter_le (fun p : ByteArray × T => !hasS geoOut p.1) (paramsL rGeoDistance ps); omega
               have hsp := hxp.sz
               have hsk := hxk.sz
               simp only [World.size_alloc] at hsk hOk
               have hkb : ∀ q, kv.ownBlock = some q → wp.heap.size + 1 ≤ q ∧ q < wk.heap.size := fun q hq => World.ownsRow.lt hOk q hq
               have HPK := Lib.hid (pk_looseG (S' := fun b => b ≠ w.heap.size ∧ kv.ownBlock ≠ some b) hPkk (fun p hp => HSC.out p (List.mem_filter.1 hp).1))
               have HOK := Lib.hid hOk
               have x3 : Ext wk (wk.alloc (.cells #[.string f, .int .i64 gz.k, .string gz.x, .float .f64 gz.d, .bool gz.y, .slice gz.ka gz.n gz.kc, .slice gz.ca gz.m gz.cc] 86)) := ext_alloc (ext_refl _) _
               have hbp : Box (wk.alloc (.cells #[.string f, .int .i64 gz.k, .string gz.x, .float .f64 gz.d, .bool gz.y, .slice gz.ka gz.n gz.kc, .slice gz.ca gz.m gz.cc] 86)) wk.heap.size #[.string f, .int .i64 gz.k, .string gz.x, .float .f64 gz.d, .bool gz.y, .slice gz.ka gz.n gz.kc, .slice gz.ca gz.m gz.cc] 86 := Box.at rfl _ _
               have hxck : Ext wc wk := ext_trans (ext_trans hxp hxn) hxk
               have hTzk := ((hTz2.out.ext hxck).to (S' := fun b => b ≠ w.heap.size ∧ kv.ownBlock ≠ some b) (fun q hq _ => ⟨hq.1, fun e => by have := hkb q e; have := hq.2; omega⟩)).ext x3
               clear hOk hPkk)
            | (at_builtin; have _t := tokB; clear _t tokB; refine list_append_pairs _ rfl _ _ rfl (wp.heap.size + 1) kv ks rfl (HOK.out.ext x3) wk.heap.size 0 1 [(f, gz)] (by simp) rfl (fun i p hp => by
                 cases i with
                 | zero => simp at hp; subst hp; exact ⟨hbp.cell 0 _ rfl, hbp.cell 1 _ rfl, hbp.cell 2 _ rfl, hbp.cell 3 _ rfl, hbp.cell 4 _ rfl, hbp.cell 5 _ rfl, hbp.cell 6 _ rfl⟩
                 | succ i => simp at hp) (by simp; omega) (Nat.le_trans (by omega) x3.sz) ?_; intro g8 cap8 w8 hown hgrow hlies hglt
               have hPk8 := pk_plusG (g := g8) (cap := cap8) (n := ks.length + 1) (k := f) (HPK.out.ext x3) hTzk hgrow hlies
               have hx8 : Ext w w8 := ext_grown (ext_trans (ext_trans hxc hxck) x3) hgrow (fun k hk => by have := hkb k hk; omega)
               have hbR8 := ((hbRc.ext hxck).ext x3).grown hgrow (fun e => by have := hkb _ e.symm; omega)
               have hsz8 : w.heap.size + 1 ≤ w8.heap.size := Nat.le_trans (Nat.le_trans (by omega) x3.sz) hgrow.size
               obtain ⟨pa2, pc2, hpe2, hPA2⟩ := hown.pairs (S := fun b => b ≠ w.heap.size) hPk8.1 (fun b hb => by have h7 := (World.ownsRow.lt hown b hb).1; omega) (fun i e p he hp => ⟨(hPk8.2 i e p he hp).1, (hPk8.2 i e p he hp).2.to (fun b hb _ => hb.1)⟩)
               have hpl8 : ((paramsL rGeoDistance ps).filter (fun p => !hasS geoOut p.1) ++ [(f, ptT ps)]).length = ks.length + 1 := by rw [hPk8.1]; simp
               rw [hpl8] at hpe2 hPA2
               simp only [List.length_cons, List.length_nil, Nat.zero_add, Value.slice.injEq] at hpe2
               obtain ⟨rfl, -, rfl⟩ := hpe2
               have hB := Lib.hid (beside_any s_geo_distance _ _ _ _ w8 hPA2 (by omega))
               have hl8 := hbR8.lt
               clear hown hgrow hlies hPk8 hPA2)
            | (go_at_call 57; refine hB.out.mono ?_; rintro r w9 ⟨g2, rfl, hT9, hx9⟩; simp only [El.val]
               have hb9 := hbR8.ext hx9; obtain ⟨o0, o1, o2, o3, o4, o5⟩ := hb9.six; have f0 := hb9.free 0; have f1 := hb9.free 1; have f2 := hb9.free 2; have f3 := hb9.free 3; have f4 := hb9.free 4; have f5 := hb9.free 5)
            | fail)
          have hx9w := ext_trans hx8 hx9
          refine post_tree rfl rfl (hb9.sto g2) rfl ⟨g2, rfl, ?_, ext_sto6 hx9w (by omega) _ _ _ _ _ _⟩
          refine TreeAt.keep (S := fun b => b ≠ w.heap.size) (fun _ _ _ => trivial) (keeps_sto w9 (fun h => h rfl) g2) _ ?_
          exact hT9.to (S' := fun b => b ≠ w.heap.size) (fun q hq _ => by rcases hq with hq | hq; exact hq.1; omega)
theorem mapT_plusG (l : List (ByteArray × T)) (k : ByteArray) (t : T) : mapT (l ++ [(k, t)]) = withT (mapT l) k t := by
  unfold mapT
  rw [List.foldl_append]
  rfl
set_option maxHeartbeats 1000000 in
theorem distanceFits_any {S : Nat → Prop} (a : Option Addr) (n c : Nat) (ps : List (ByteArray × T)) (w : World) (h : PairsAt S w a n c ps) : Calls Try.prog 21 #[.slice a n c] w (Yes True w) := by
  have hI := Lib.hid fun w' (x : Ext w w') (name : ByteArray) => is_any a n c ps name w' (h.ext x)
  clear h
  go_enter Try.func21, Try.ntmps21
  go_wp2_with (first
    | (go_at_call 17; refine (hI.out _ (by (repeat (first | exact ext_refl _ | assumption | refine ext_alloc ?_ _ | refine ext_drew ?_ | refine ext_set ?_ (by simp) _ | refine ext_trans ?_ (by assumption)))) _).mono ?_; rintro r wi ⟨rfl, hxi⟩; generalize (lastOf ps _).isSome = bi; cases bi)
    | fail)
  all_goals (go_ret; exact ⟨_, rfl, fun _ => trivial, by (repeat (first | exact ext_refl _ | assumption | refine ext_alloc ?_ _ | refine ext_drew ?_ | refine ext_set ?_ (by simp) _ | refine ext_trans ?_ (by assumption)))⟩)
set_option maxRecDepth 20000 in
set_option maxHeartbeats 4000000 in
theorem readDistance_any {S : Nat → Prop} (f : ByteArray) (qs : List (ByteArray × T)) (pt : T) (e : El) (w : World) (h : TreeAt S w e (mapT [(s_geo_distance, mapT qs)])) (hpt : lastOf qs f = some pt) (hk : pt.kind ≠ 4) (hlen : qs.length ≤ 65536) :
    Calls Try.prog 23 #[.string f, e.val] w fun r w' => ∃ g : El, r = .returned g.val ∧ TreeAt (fun _ => True) w' g (mapT [(s_geo_distance, mapT (qs ++ [(f, pt)]))]) ∧ Ext w w' := by
  have h := h.to (S' := fun b => b < w.heap.size) (fun _ _ h2 => h2)
  have HT := Lib.hid (fun (w' : World) (x : Ext w w') => TreeAt.ext x h)
  clear h
  have hWi := Lib.hid (fun (w' : World) (x : Ext w w') => within_one s_geo_distance qs e w' (HT.out w' x))
  have hb0 : Box ((w.alloc (.cells e.arr 30)).alloc (.cells (El.arr El0) 30)) w.heap.size e.arr 30 := (Box.at rfl _ _).alloc _
  have hbr : Box ((w.alloc (.cells e.arr 30)).alloc (.cells (El.arr El0) 30)) (w.heap.size + 1) (El.arr El0) 30 := Box.at (by simp) _ _
  have hx0 : Ext w ((w.alloc (.cells e.arr 30)).alloc (.cells (El.arr El0) 30)) := ext_alloc (ext_alloc (ext_refl _) _) _
  have hs0 : ((w.alloc (.cells e.arr 30)).alloc (.cells (El.arr El0) 30)).heap.size = w.heap.size + 1 + 1 := by simp
  simp only [El.val]
  go_enter Try.func23, Try.ntmps23
  go_upto_region 5 with (first
    | (go_at_call 51; refine (hWi.out _ hx0).mono ?_; rintro r w1 ⟨gx, rfl, hTx0, hx1⟩; simp only [El.val]
       have hTx : TreeAt (fun b => b ≠ w.heap.size + 1) w1 gx (mapT qs) := hTx0.to (fun b hb _ => by have := hb.1; omega)
       have x13 : Ext w1 (w1.alloc (.cells gx.arr 30)) := ext_alloc (ext_refl _) _
       have hbx : Box (w1.alloc (.cells gx.arr 30)) w1.heap.size gx.arr 30 := Box.at rfl _ _
       have hbr3 := (hbr.ext hx1).ext x13
       obtain ⟨y0, y1, y2, y3, y4, y5⟩ := hbx.six
       have hAt := Lib.hid (at_map qs gx f _ (hTx.ext x13)))
    | (go_at_call 71; refine hAt.out.mono ?_; rintro r w2 ⟨gd, rfl, hTd, hx2⟩; rw [hpt] at hTd ⊢; simp only [El.val, Option.isSome, Option.getD] at hTd ⊢)
    | fail)
  have hxd : Ext w2 (w2.alloc (.cells gd.arr 30)) := ext_alloc (ext_refl _) _
  have hbd : Box (w2.alloc (.cells gd.arr 30)) w2.heap.size gd.arr 30 := Box.at rfl _ _
  have hbx5 := (hbx.ext hx2).ext hxd
  have hbr5 := (hbr3.ext hx2).ext hxd
  have hTx5 := Lib.hid (((hTx.ext x13).ext hx2).ext hxd)
  have hTd5 := Lib.hid (hTd.ext hxd)
  have hx5 : Ext w (w2.alloc (.cells gd.arr 30)) := ext_trans (ext_trans (ext_trans (ext_trans hx0 hx1) x13) hx2) hxd
  have hs5 : w1.heap.size < w2.heap.size := by have := hx2.sz; simp at this; omega
  have hs15 := hx1.sz
  rw [hs0] at hs15
  clear hTx hTd
  generalize hww5 : (w2.alloc (.cells gd.arr 30)) = w5 at hbd hbx5 hbr5 hTx5 hTd5 hx5 ⊢
  have hszz := hbd.lt
  clear hww5 hxd
  refine wp_region_order (fun (w' : World) => Six w' w1.heap.size gx ∧ Six w' w2.heap.size gd) [0, 1, 2, 5] [0, 1, 2, 3, 4, 5, 6, 7, 8] (by kernel_rfl) (by kernel_rfl) (fun d _ _ _ _ h => by cases d <;> exact h) (by kernel_rfl) ?_
  have hS : (fun (w' : World) => Six w' w1.heap.size gx ∧ Six w' w2.heap.size gd) w5.drew := ⟨Six.ext (ext_drew (ext_refl w5)) hbx5.Six, Six.ext (ext_drew (ext_refl w5)) hbd.Six⟩
  (apply ord_held rfl rfl (by assumption) rfl; (focus ((intro w' hS'); go_simp; (try with_reducible rfl))); (try simp only [Act.put, List.setIfInBounds_toArray, List.set_cons_zero, List.set_cons_succ]))
  (apply ord_held rfl rfl (by assumption) rfl; (focus ((intro w' hS'); go_simp; (try with_reducible rfl))); (try simp only [Act.put, List.setIfInBounds_toArray, List.set_cons_zero, List.set_cons_succ]))
  (apply ord_held rfl rfl (by assumption) rfl; (focus ((intro w' hS'); go_simp; (try with_reducible rfl))); (try simp only [Act.put, List.setIfInBounds_toArray, List.set_cons_zero, List.set_cons_succ]))
  (apply ord_loud rfl rfl rfl; intro K hK; go_simp)
  refine (readPoint_id gd pt _ (hTd5.out.ext (ext_drew (ext_refl w5))) hk).mono ?_
  rintro r wa ⟨rfl, hxa⟩
  have hy1 : Ext w5 wa := ext_trans (ext_drew (ext_refl w5)) hxa
  have hS1 : (fun (w' : World) => Six w' w1.heap.size gx ∧ Six w' w2.heap.size gd) wa := ⟨Six.ext hy1 hbx5.Six, Six.ext hy1 hbd.Six⟩
  refine hK _ _ (fun _ => hS1) ?_
  clear hK K
  try simp only [El.val]
  (try simp only [Act.put, List.setIfInBounds_toArray, List.set_cons_zero, List.set_cons_succ])
  (apply ord_loud rfl rfl rfl; intro K hK; go_simp)
  have hml := mapT_len qs
  refine (with_any gx (mapT qs) f gd pt _ (hTx5.out.ext (hy1)) (hTd5.out.ext (hy1)) (by omega) (by omega) (by omega)).mono ?_
  rintro r wv ⟨gv, rfl, hTv, hxv⟩
  rw [← mapT_plusG] at hTv
  have hTv := hTv.to (S' := (fun b => b ≠ w.heap.size + 1)) (fun b hb _ => by have h9 := hy1.sz; rcases hb with hb | hb; exact hb; omega)
  have hy2 : Ext w5 wv := ext_trans (hy1) hxv
  have hS2 : (fun (w' : World) => Six w' w1.heap.size gx ∧ Six w' w2.heap.size gd) wv := ⟨Six.ext hy2 hbx5.Six, Six.ext hy2 hbd.Six⟩
  refine hK _ _ (fun _ => hS2) ?_
  clear hK K
  try simp only [El.val]
  (try simp only [Act.put, List.setIfInBounds_toArray, List.set_cons_zero, List.set_cons_succ])
  (apply ord_held rfl rfl (by assumption) rfl; (focus ((intro w' hS'); go_simp; (try with_reducible rfl))); (try simp only [Act.put, List.setIfInBounds_toArray, List.set_cons_zero, List.set_cons_succ]))
  (apply ord_loud rfl rfl rfl; intro K hK; go_simp)
  have hyv := hy2
  have hM := map_any (S := (fun b => b ≠ w.heap.size + 1)) (some ⟨wv.heap.size, 0, none⟩) 1 1 [(s_geo_distance, mapT (qs ++ [(f, pt)]))] (wv.alloc (.cells #[.string s_geo_distance, .int .i64 gv.k, .string gv.x, .float .f64 gv.d, .bool gv.y, .slice gv.ka gv.n gv.kc, .slice gv.ca gv.m gv.cc] 86)) (pairs_one (Box.at rfl _ _) (by have h9 := hyv.sz; omega) (hTv.ext (ext_alloc (ext_refl wv) _))) (by decide)
  have hy3 : Ext w5 (wv.alloc (.cells #[.string s_geo_distance, .int .i64 gv.k, .string gv.x, .float .f64 gv.d, .bool gv.y, .slice gv.ka gv.n gv.kc, .slice gv.ca gv.m gv.cc] 86)) := ext_alloc (hy2) _
  have hS3 : (fun (w' : World) => Six w' w1.heap.size gx ∧ Six w' w2.heap.size gd) (wv.alloc (.cells #[.string s_geo_distance, .int .i64 gv.k, .string gv.x, .float .f64 gv.d, .bool gv.y, .slice gv.ka gv.n gv.kc, .slice gv.ca gv.m gv.cc] 86)) := ⟨Six.ext hy3 hbx5.Six, Six.ext hy3 hbd.Six⟩
  refine hK _ _ (fun _ => hS3) ?_
  clear hK K
  try simp only [El.val]
  (try simp only [Act.put, List.setIfInBounds_toArray, List.set_cons_zero, List.set_cons_succ])
  (apply ord_loud rfl rfl rfl; intro K hK; go_simp)
  refine hM.mono ?_
  rintro r w9 ⟨g2, rfl, hT9, hx9⟩
  have hy4 : Ext w5 w9 := ext_trans (hy3) hx9
  have hS4 : (fun (w' : World) => Six w' w1.heap.size gx ∧ Six w' w2.heap.size gd) w9 := ⟨Six.ext hy4 hbx5.Six, Six.ext hy4 hbd.Six⟩
  refine hK _ _ (fun _ => hS4) ?_
  clear hK K
  try simp only [El.val]
  (try simp only [Act.put, List.setIfInBounds_toArray, List.set_cons_zero, List.set_cons_succ])
  have hb9 := hbr5.ext hy4; obtain ⟨o0, o1, o2, o3, o4, o5⟩ := hb9.six; have f0 := hb9.free 0; have f1 := hb9.free 1; have f2 := hb9.free 2; have f3 := hb9.free 3; have f4 := hb9.free 4; have f5 := hb9.free 5; have hl9 := hb9.lt
  (apply ord_last rfl rfl rfl (by kernel_rfl); intro K hK; go_simp; refine hK _ _ ?_; clear hK K; (try simp only [Act.put, List.setIfInBounds_toArray, List.set_cons_zero, List.set_cons_succ]))
  refine ord_end ?_
  go_wp2_with fail
  have hx9w : Ext w w9 := ext_trans hx5 hy4
  refine post_tree rfl rfl (hb9.sto g2) rfl ⟨g2, rfl, ?_, ext_sto6 hx9w (by omega) _ _ _ _ _ _⟩
  refine TreeAt.keep (S := fun b => b ≠ w.heap.size + 1) (fun _ _ _ => trivial) (keeps_sto w9 (fun h => h rfl) g2) _ ?_
  exact hT9.to (fun q hq _ => by
    rcases hq with hq | hq
    · exact hq.1
    · have h8 := hyv.sz
      simp at hq
      omega)
end Go.Proofs.Ytdjojnlejkljdaa
