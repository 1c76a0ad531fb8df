/-
  The settings of a builder that are one value, as they are set at last.
-/
import Derived.Test.YtfngaoicoecncaaGreatDoorP2
namespace Go.Proofs.YtfngaoicoecncaaGreatDoor
open Go.RowKit

/-- A list of two texts each. -/
def RowsAt (S : Nat → Prop) (w : World) (a : Option Addr) (n c : Nat) (rs : List (ByteArray × ByteArray)) : Prop :=
  rs.length = n ∧ n ≤ c ∧ c ≤ maxLen ∧ ∀ i r, rs[i]? = some r → ∃ b off, a = some ⟨b, off, none⟩ ∧ S b ∧ w.cell? ⟨b, off + i * 2, none⟩ = some (.string r.1) ∧ w.cell? ⟨b, off + i * 2 + 1, none⟩ = some (.string r.2)
theorem RowsAt.keep {S S' : Nat → Prop} {w w' : World} {a : Option Addr} {n c : Nat} {rs : List (ByteArray × ByteArray)} (hS : ∀ b, S b → b < w.heap.size → S' b) (k : Keeps S w w') (h : RowsAt S w a n c rs) : RowsAt S' w' a n c rs := by
  obtain ⟨h1, h2, h3, h4⟩ := h
  refine ⟨h1, h2, h3, fun i r hi => ?_⟩
  obtain ⟨b, off, ha, hb, hc, hd⟩ := h4 i r hi
  exact ⟨b, off, ha, hS b hb (lt_of_cell hc), k.cell hb hc, k.cell hb hd⟩
theorem RowsAt.ext {S : Nat → Prop} {w w' : World} (x : Ext w w') {a : Option Addr} {n c : Nat} {rs : List (ByteArray × ByteArray)} (h : RowsAt S w a n c rs) : RowsAt S w' a n c rs := h.keep (fun _ h _ => h) (x.keeps S)
theorem flat2_get : ∀ (rs : List (ByteArray × ByteArray)) (i : Nat) (r : ByteArray × ByteArray), rs[i]? = some r → (rs.flatMap fun r => [Value.string r.1, .string r.2])[i * 2]? = some (.string r.1) ∧ (rs.flatMap fun r => [Value.string r.1, .string r.2])[i * 2 + 1]? = some (.string r.2)
  | [], _, _, h => by cases h
  | r' :: l, 0, r, h => by simp at h; subst h; simp
  | r' :: l, i + 1, r, h => by
    have := flat2_get l i r (by simpa using h)
    rw [List.flatMap_cons, show (i + 1) * 2 = i * 2 + 2 by omega]
    exact ⟨by simpa using this.1, by simpa using this.2⟩
theorem Own2.rows {S : Nat → Prop} {w : World} {base : Nat} {v : Value} {rs : List (ByteArray × ByteArray)} (h : Own2 w base v rs) (hS : ∀ b, v.ownBlock = some b → S b) : ∃ a c, v = .slice a rs.length c ∧ RowsAt S w a rs.length c rs := by
  obtain ⟨h1, h2⟩ := id h
  rcases h2 with ⟨rfl, h0⟩ | ⟨g, cap, cur, rfl, hg, hh, h3, h4, h5, h6⟩
  · refine ⟨none, 0, by rw [h0], rfl, by omega, by simp [maxLen], fun i s hi => ?_⟩
    rw [List.length_eq_zero_iff.1 h0] at hi
    cases hi
  · refine ⟨_, _, rfl, rfl, h3, h4, fun i r hi => ⟨g, 0, rfl, hS g rfl, ?_, ?_⟩⟩
    · have := World.ownsRow.cells h (g := g) rfl (i * 2) (.string r.1) (flat2_get rs i r hi).1
      simpa [Addr.add_lit] using this
    · have := World.ownsRow.cells h (g := g) rfl (i * 2 + 1) (.string r.2) (flat2_get rs i r hi).2
      rw [Addr.add_lit] at this
      rw [show 0 + i * 2 + 1 = 0 + (i * 2 + 1) by omega]
      exact this

def plainK : List ByteArray := [⟨#[116]⟩, ⟨#[110]⟩, ⟨#[119]⟩, ⟨#[98]⟩, ⟨#[118]⟩]
def param (sets : List (ByteArray × T)) (r : ByteArray × ByteArray) : Option (ByteArray × T) := if hasS plainK r.2 then (lastOf sets r.1).map fun t => (r.1, t) else none
def paramsL (rs : List (ByteArray × ByteArray)) (sets : List (ByteArray × T)) : List (ByteArray × T) := rs.filterMap (param sets)
theorem params_snoc {rs : List (ByteArray × ByteArray)} {sets : List (ByteArray × T)} {j : Nat} {r : ByteArray × ByteArray} (h : rs[j]? = some r) : paramsL (rs.take (j + 1)) sets = paramsL (rs.take j) sets ++ (param sets r).toList := by
  unfold paramsL
  rw [take_snoc h, List.filterMap_append]
  simp [List.filterMap_cons]
  cases param sets r <;> rfl
theorem params_len (rs : List (ByteArray × ByteArray)) (sets : List (ByteArray × T)) : (paramsL rs sets).length ≤ rs.length := List.length_filterMap_le _ _

/-- Names with trees of which the trees lie elsewhere. -/
def Pk (S : Nat → Prop) (w : World) (es : List (ByteArray × El)) (ps : List (ByteArray × T)) : Prop := ps.length = es.length ∧ ∀ (i : Nat) (e : ByteArray × El) (p : ByteArray × T), es[i]? = some e → ps[i]? = some p → e.1 = p.1 ∧ TreeAt S w e.2 p.2
theorem Pk.keep {S S' : Nat → Prop} {w w' : World} {es : List (ByteArray × El)} {ps : List (ByteArray × T)} (hS : ∀ b, S b → b < w.heap.size → S' b) (k : Keeps S w w') (h : Pk S w es ps) : Pk S' w' es ps :=
  ⟨h.1, fun i e p h1 h2 => ⟨(h.2 i e p h1 h2).1, TreeAt.keep hS k _ (h.2 i e p h1 h2).2⟩⟩
theorem Pk.ext {S : Nat → Prop} {w w' : World} (x : Ext w w') {es : List (ByteArray × El)} {ps : List (ByteArray × T)} (h : Pk S w es ps) : Pk S w' es ps := h.keep (fun _ h _ => h) (x.keeps S)
theorem Pk.append {S : Nat → Prop} {w : World} {es fs : List (ByteArray × El)} {ps qs : List (ByteArray × T)} (h : Pk S w es ps) (k : Pk S w fs qs) : Pk S w (es ++ fs) (ps ++ qs) := by
  refine ⟨by simp [h.1, k.1], fun i e p h1 h2 => ?_⟩
  by_cases hi : i < es.length
  · rw [List.getElem?_append_left hi] at h1
    rw [List.getElem?_append_left (by rw [h.1]; exact hi)] at h2
    exact h.2 i e p h1 h2
  · rw [List.getElem?_append_right (by omega)] at h1
    rw [List.getElem?_append_right (by rw [h.1]; omega), h.1] at h2
    exact k.2 _ e p h1 h2
theorem Pk.one {S : Nat → Prop} {w : World} {k : ByteArray} {e : El} {t : T} (h : TreeAt S w e t) : Pk S w [(k, e)] [(k, t)] :=
  ⟨rfl, fun i e' p h1 h2 => by
    cases i with
    | zero => simp at h1 h2; subst h1; subst h2; exact ⟨rfl, h⟩
    | succ i => simp at h1⟩

theorem hasK (s : ByteArray) (w2 : World) (v : Nat) (hb : Box w2 v #[.string ⟨#[116]⟩, .string ⟨#[110]⟩, .string ⟨#[119]⟩, .string ⟨#[98]⟩, .string ⟨#[118]⟩] 9) :
    Calls Tryz.prog 25 #[.slice (some ⟨v, 0, none⟩) 5 5, .string s] w2 fun r w' => r = .returned (.bool (hasS plainK s)) ∧ w2 = w' :=
  has_any (S := fun _ => True) (some ⟨v, 0, none⟩) 5 5 plainK s w2 ⟨rfl, Nat.le_refl _, by simp [maxLen], fun i s hi => ⟨v, 0, rfl, trivial, by
    match i, hi with
    | 0, hi => simp [plainK] at hi; subst hi; exact hb.cell 0 _ rfl
    | 1, hi => simp [plainK] at hi; subst hi; exact hb.cell 1 _ rfl
    | 2, hi => simp [plainK] at hi; subst hi; exact hb.cell 2 _ rfl
    | 3, hi => simp [plainK] at hi; subst hi; exact hb.cell 3 _ rfl
    | 4, hi => simp [plainK] at hi; subst hi; exact hb.cell 4 _ rfl
    | i + 5, hi => simp [plainK] at hi⟩⟩

set_option maxHeartbeats 2000000 in
theorem params_any {S : Nat → Prop} (bd tb : ByteArray) (a : Option Addr) (n c : Nat) (ps : List (ByteArray × T)) (w : World) (hT : ∀ w, Calls Tryz.prog 93 #[.string bd] w fun r w' => r = .returned (.string tb) ∧ w' = w) (f : Nat) (hok : okL f tb.data.toList = true) (hsz : tb.size < 65536)
    (rs : List (ByteArray × ByteArray)) (hrs : ((rowsL f tb.data.toList).map fun r => (mkB r.1, mkB r.2)) = rs) (hrl : rs.length ≤ 65536) (h : PairsAt S w a n c ps) :
    Calls Tryz.prog 48 #[.string bd, .slice a n c] w fun r w' => ∃ v es, r = .returned v ∧ OwnPairs w' w.heap.size v es ∧ Pk (fun b => S b ∧ b < w.heap.size) w' es (paramsL rs ps) ∧ Ext w w' := by
  have h := h.keep (S' := fun b => S b ∧ b < w.heap.size) (fun b h1 h2 => ⟨h1, h2⟩) (fun _ _ _ => rfl)
  have HP := Lib.hid h
  have HR := fun w => rows_any bd tb w hT f hok hsz
  rw [hrs] at HR
  have HR := Lib.hid HR
  clear h hT hok hsz hrs
  go_enter Tryz.func48, Tryz.ntmps48
  go_wp2_with (go_at_call 73; refine (HR.out _).mono ?_; rintro r w1 ⟨rv, rfl, hrow, hx1⟩)
  obtain ⟨ra, rc, rfl, hrw⟩ := hrow.rows (S := fun b => w.heap.size + 1 ≤ b ∧ (Value.slice (some ⟨w.heap.size, 0, none⟩) 0 0).ownBlock ≠ some b) (fun b hb => by
    have := (World.ownsRow.lt hrow b hb).1
    simp at this
    exact ⟨this, fun e => by simp [Value.ownBlock] at e; omega⟩)
  have HRW := Lib.hid hrw
  have hx1' : Ext w w1 := ext_trans (ext_alloc (ext_refl _) _) hx1
  have hb0 : Box w1 w.heap.size #[] 72 := (Box.at rfl _ _).ext hx1
  have hw1 : w.heap.size + 1 ≤ w1.heap.size := by have := hx1.sz; simp at this; exact this
  clear hrow hrw hx1
  go_loopw [5, 7] (fun v i wr => Ext w wr ∧ w.heap.size + 1 ≤ wr.heap.size ∧ ∃ (j : Nat) (es : List (ByteArray × El)), j ≤ rs.length ∧ i = .int .i64 j ∧ RowsAt (fun b => w.heap.size + 1 ≤ b ∧ v.ownBlock ≠ some b) wr ra rs.length rc rs ∧
    OwnPairs wr w.heap.size v es ∧ Pk (fun b => S b ∧ b < w.heap.size) wr es (paramsL (rs.take j) ps)) (fun _ i _ => rs.length - (intOf i).toNat)
  case atStart =>
    exact ⟨hx1', hw1, 0, [], Nat.zero_le _, rfl, HRW.out, ⟨rfl, .inr ⟨w.heap.size, 0, #[], rfl, Nat.le_refl _, hb0, Nat.le_refl _, by simp [maxLen], rfl, rfl⟩⟩, ⟨rfl, fun _ _ _ h => by simp at h⟩⟩
  case round =>
    obtain ⟨hx, hwr, j, es, hj, rfl, hRA, hO, hP⟩ := hrel
    have HO := Lib.hid hO
    have HPk := Lib.hid hP
    have hel : es.length ≤ j := by rw [← hP.1]; exact Nat.le_trans (params_len _ _) (List.length_take_le _ _)
    have hvv := hO.1
    clear hO hP
    by_cases hlt : j < rs.length
    · obtain ⟨r, hr⟩ := some_of_lt (l := rs) rfl hlt
      obtain ⟨b, off, rfl, hSb, hc1, hc2⟩ := hRA.2.2.2 j r hr
      have hps : param ps r = if hasS plainK r.2 then (lastOf ps r.1).map fun t => (r.1, t) else none := rfl
      have HJ := Lib.hid (params_snoc (sets := ps) hr)
      have HRA := Lib.hid hRA
      have hrcl := hRA.2.1
      have hrcm := hRA.2.2.1
      unfold maxLen at hrcm
      clear hr hRA
      cases ho : lastOf ps r.1 with
      | none =>
        rw [ho] at hps
        have HPS := Lib.hid hps
        clear hps
        have hL := fun w2 (x : Ext wr w2) => last_any (S := fun b => S b ∧ b < w.heap.size) a n c ps r.1 w2 ((HP.out.ext hx).ext x)
        rw [ho] at hL
        have HL := Lib.hid hL
        clear hL
        go_wp2_with (go_at_call 49; refine (HL.out _ (ext_refl _)).mono ?_; rintro q w2 ⟨g, rfl, hgT, hx2⟩; simp only [El.val])
        have hx3 : Ext wr (w2.alloc (.cells (El.arr g) 26)) := ext_alloc hx2 _
        go_roundw
        case rel =>
          refine ⟨ext_trans hx hx3, Nat.le_trans hwr hx3.sz, j + 1, es, by omega, by go_num, HRA.out.ext hx3, HO.out.ext hx3, ?_⟩
          rw [HJ.out, HPS.out]
          simpa using HPk.out.ext hx3
        case measure => simp [intOf]; omega
      | some t =>
        have hL := fun w2 (x : Ext wr w2) => last_any (S := fun b => S b ∧ b < w.heap.size) a n c ps r.1 w2 ((HP.out.ext hx).ext x)
        rw [ho] at hL hps
        have HL := Lib.hid hL
        clear hL
        cases hk : hasS plainK r.2 with
        | false =>
          rw [hk] at hps
          have HPS := Lib.hid hps
          clear hps
          have hH := hasK r.2
          rw [hk] at hH
          have HH := Lib.hid hH
          clear hH
          go_wp2_with (first | (go_at_call 49; refine (HL.out _ (ext_refl _)).mono ?_; rintro q w2 ⟨g, rfl, hgT, hx2⟩; simp only [El.val]; have hc3 := hx2.cell hc2; have hb2 : b < w2.heap.size := lt_of_cell hc3) | (go_at_call 25; refine (HH.out _ _ (Box.at (by simp) _ _)).mono ?_; rintro q w3 ⟨rfl, rfl⟩))
          have hx3 : Ext wr ((w2.alloc (.cells (El.arr g) 26)).alloc (.cells #[.string ⟨#[116]⟩, .string ⟨#[110]⟩, .string ⟨#[119]⟩, .string ⟨#[98]⟩, .string ⟨#[118]⟩] 9)) := ext_alloc (ext_alloc hx2 _) _
          go_roundw
          case rel =>
            refine ⟨ext_trans hx hx3, Nat.le_trans hwr hx3.sz, j + 1, es, by omega, by go_num, HRA.out.ext hx3, HO.out.ext hx3, ?_⟩
            rw [HJ.out, HPS.out]
            simpa using HPk.out.ext hx3
          case measure => simp [intOf]; omega
        | true =>
          rw [hk] at hps
          have HPS := Lib.hid hps
          clear hps
          have hH := hasK r.2
          rw [hk] at hH
          have HH := Lib.hid hH
          clear hH
          go_upto_region 8 with (first | (go_at_call 49; refine (HL.out _ (ext_refl _)).mono ?_; rintro q w2 ⟨g, rfl, hgT, hx2⟩; simp only [El.val]; have hc3 := hx2.cell hc2; have hb2 : b < w2.heap.size := lt_of_cell hc3) | (go_at_call 25; refine (HH.out _ _ (Box.at (by simp) _ _)).mono ?_; rintro q w3 ⟨rfl, rfl⟩))
          have hx3 : Ext wr ((w2.alloc (.cells (El.arr g) 26)).alloc (.cells #[.string ⟨#[116]⟩, .string ⟨#[110]⟩, .string ⟨#[119]⟩, .string ⟨#[98]⟩, .string ⟨#[118]⟩] 9)) := ext_alloc (ext_alloc hx2 _) _
          have hbg : Box ((w2.alloc (.cells (El.arr g) 26)).alloc (.cells #[.string ⟨#[116]⟩, .string ⟨#[110]⟩, .string ⟨#[119]⟩, .string ⟨#[98]⟩, .string ⟨#[118]⟩] 9)) w2.heap.size g.arr 26 := (Box.at rfl _ _).alloc _
          have hgT3 := hgT.ext (ext_alloc (ext_alloc (ext_refl w2) (.cells (El.arr g) 26)) (.cells #[.string ⟨#[116]⟩, .string ⟨#[110]⟩, .string ⟨#[119]⟩, .string ⟨#[98]⟩, .string ⟨#[118]⟩] 9))
          generalize (w2.alloc (.cells (El.arr g) 26)).alloc (.cells #[.string ⟨#[116]⟩, .string ⟨#[110]⟩, .string ⟨#[119]⟩, .string ⟨#[98]⟩, .string ⟨#[118]⟩] 9) = w3 at hx3 hbg hgT3 ⊢
          have hc1' := hx3.cell hc1
          have hO3 := HO.out.ext hx3
          refine wp_region_order (fun w' => Six w' w2.heap.size g ∧ w'.cell? ⟨b, off + j * 2, none⟩ = some (.string r.1)) [0, 1, 2, 3, 4, 5, 6, 7] [0, 1, 2, 3, 4, 5, 6, 7, 8, 9, 10] (by kernel_rfl) (by kernel_rfl) (fun d _ _ _ _ h => by cases d <;> exact h) (by kernel_rfl) ?_
          have hS : Six w3.drew w2.heap.size g ∧ w3.drew.cell? ⟨b, off + j * 2, none⟩ = some (.string r.1) := ⟨hbg.Six, hc1'⟩
          iterate 8 (apply ord_held rfl rfl (by assumption) rfl; (focus ((intro w' hS'); go_simp; (try with_reducible rfl))); (try simp only [Act.put, List.setIfInBounds_toArray, List.set_cons_zero, List.set_cons_succ]))
          have hx4 : Ext w3 (w3.alloc (.cells #[.string r.1, .int .i64 g.k, .string g.x, .float .f64 g.d, .bool g.y, .slice g.ka g.n g.kc, .slice g.ca g.m g.cc] 72)).drew := ext_drew (ext_alloc (ext_refl _) _)
          have hbp : Box (w3.alloc (.cells #[.string r.1, .int .i64 g.k, .string g.x, .float .f64 g.d, .bool g.y, .slice g.ka g.n g.kc, .slice g.ca g.m g.cc] 72)).drew w3.heap.size #[.string r.1, .int .i64 g.k, .string g.x, .float .f64 g.d, .bool g.y, .slice g.ka g.n g.kc, .slice g.ca g.m g.cc] 72 := (Box.at rfl _ _).drew
          (apply ord_loud rfl rfl rfl; intro K hK; go_simp)
          refine hK _ _ (fun _ => ⟨Six.ext hx4 hbg.Six, hx4.cell hc1'⟩) ?_
          clear hK K
          apply ord_loud rfl rfl rfl
          intro K hK
          refine wp_append_pairs _ _ _ rfl w.heap.size _ es rfl (hO3.ext hx4) w3.heap.size 0 1 [(r.1, g)] (by simp) rfl (fun i f hi => ?_) (by simp; omega) (by have := hx3.sz; simp; omega) ?_
          · cases i with
            | zero => simp at hi; subst hi; exact ⟨hbp.cell 0 _ rfl, hbp.cell 1 _ rfl, hbp.cell 2 _ rfl, hbp.cell 3 _ rfl, hbp.cell 4 _ rfl, hbp.cell 5 _ rfl, hbp.cell 6 _ rfl⟩
            | succ i => simp at hi
          intro g1 cap1 w4 hown hgrow hlies hglt
          have hbk : ∀ q, u5.ownBlock = some q → w.heap.size ≤ q ∧ q < wr.heap.size := fun q hq => HO.out.block hq
          have hs2 := hx2.sz
          have hc5 := hgrow.cell (hx4.cell hc1') (fun e => hSb.2 e.symm)
          have hS4 : Six w4 w2.heap.size g := Six.keep (S := fun q => q = w2.heap.size) (keeps_grown hgrow (fun q hq e => by have := (hbk q e.symm).2; omega)) rfl (Six.ext hx4 hbg.Six)
          refine hK _ _ (fun _ => ⟨hS4, hc5⟩) ?_
          clear hK K
          (try simp only [Act.put, List.setIfInBounds_toArray, List.set_cons_zero, List.set_cons_succ])
          (apply ord_last rfl rfl rfl (by kernel_rfl); intro K hK; go_simp; refine hK _ _ ?_; clear hK K; (try simp only [Act.put, List.setIfInBounds_toArray, List.set_cons_zero, List.set_cons_succ]))
          refine ord_end ?_
          have hx5 : Ext w w4 := ext_grown (ext_trans hx (ext_trans hx3 hx4)) hgrow (fun k hk => (hbk k hk).1)
          have hRA5 := Lib.hid (RowsAt.keep (S' := fun q => w.heap.size + 1 ≤ q ∧ (Value.slice (some ⟨g1, 0, none⟩) (es.length + 1) cap1).ownBlock ≠ some q) (fun q hq hlt => ⟨hq.1, fun e => by
            simp only [Value.ownBlock, Option.some.injEq] at e
            rcases hlies with hl | hl
            · exact hq.2 (by rw [← e]; exact hl)
            · rw [hl] at e
              omega⟩) (keeps_grown hgrow (fun q hq e => hq.2 e.symm)) (HRA.out.ext (ext_trans hx3 hx4)))
          have hPk5 := Lib.hid (Pk.append (Pk.keep (S' := fun b => S b ∧ b < w.heap.size) (fun q hq _ => hq) (keeps_grown hgrow (fun q hq e => by have := (hbk q e.symm).1; have := hq.2; omega)) (HPk.out.ext (ext_trans hx3 hx4))) (Pk.one (k := r.1) (TreeAt.keep (S' := fun b => S b ∧ b < w.heap.size) (fun q hq _ => hq) (keeps_grown hgrow (fun q hq e => by have := (hbk q e.symm).1; have := hq.2; omega)) _ (hgT3.ext hx4))))
          have hO5 := Lib.hid hown
          have hw4 : w.heap.size + 1 ≤ w4.heap.size := Nat.le_trans hwr (Nat.le_trans (ext_trans hx3 hx4).sz hgrow.size)
          clear hown hgrow hlies hS4 hc5 hbp hbg hgT3 hgT hx4 hx3 hx2 hS hc3 hc1' hO3 hbk
          go_wp2_with fail
          go_roundw
          case rel =>
            refine ⟨hx5, hw4, j + 1, es ++ [(r.1, g)], by omega, by go_num, hRA5.out, by simpa using hO5.out, ?_⟩
            rw [HJ.out, HPS.out]
            simpa using hPk5.out
          case measure => simp [intOf]; omega
    · have hjr : j = rs.length := by omega
      subst hjr
      go_wp2_with fail
      go_ret
      have h1 := HPk.out
      rw [List.take_length] at h1
      exact ⟨u5, es, rfl, HO.out, h1, hx⟩
end Go.Proofs.YtfngaoicoecncaaGreatDoor
