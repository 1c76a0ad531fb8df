/-
  A proper tree that is handed over, and told, is the tree that it was.
-/
import Derived.Test.YtfngaoicoecncaaGreatDoorAny
import Derived.Test.YtfngaoicoecncaaGreatDoorQx
namespace Go.Proofs.YtfngaoicoecncaaGreatDoor
open Go.RowKit Go.Maps

mutual
/-- A tree as the plain value that is handed over. -/
def jFull : T → J
  | .mk k x d y keys kids => if k = 1 then .str x else if k = 2 then .num d else if k = 3 then .yes y else if k = 4 then .list (jFulls kids) else .map keys (jFulls kids)
def jFulls : List T → List J
  | [] => []
  | t :: r => jFull t :: jFulls r
end
theorem jFulls_eq : ∀ l : List T, jFulls l = l.map jFull
  | [] => rfl
  | t :: r => by rw [jFulls, jFulls_eq r]; rfl
mutual
/-- A tree that stands for a value, and that is not too wide. -/
def FullT : T → Prop
  | .mk k x d y keys kids => scalarT (.mk k x d y keys kids) = true ∨ (((k = 4 ∧ keys = []) ∨ (k = 5 ∧ keys.length = kids.length ∧ keys.Pairwise lt)) ∧ kids.length ≤ 2147483647 ∧ (∀ s ∈ keys, s.size ≤ maxLen) ∧ FullTs kids)
def FullTs : List T → Prop
  | [] => True
  | t :: r => FullT t ∧ FullTs r
end
/-- What a tree becomes as a value. -/
def Plained (t : T) : Prop := ∀ (S : Nat → Prop) (e : El) (w : World), TreeAt S w e t → Calls Tryz.prog 29 #[e.val] w fun r w' => ∃ ty x, r = .returned (.iface ty x) ∧ JAt (fun b => w.heap.size ≤ b) w' (.iface ty x) (jFull t) ∧ Ext w w'
theorem jFull_scalar {t : T} (h : t.kind = 1 ∨ t.kind = 2 ∨ t.kind = 3) : jFull t = jOf t := by
  cases t
  simp only [T.kind] at h
  rw [jFull, jOf]
  rcases h with h | h | h <;> subst h <;> simp [T.kind, T.text, T.num, T.yes]
theorem plained_scalar {t : T} (h : t.kind = 1 ∨ t.kind = 2 ∨ t.kind = 3) : Plained t := fun S e w hT => by
  refine (plain_kind e t w hT h).mono ?_
  rintro r w' ⟨ty, x, rfl, hJ, hx⟩
  exact ⟨ty, x, rfl, by rw [jFull_scalar h]; exact JAt.no hJ, hx⟩

set_option maxRecDepth 20000 in
set_option maxHeartbeats 2000000 in
theorem plains_full {S : Nat → Prop} (a : Option Addr) (n c : Nat) (ts : List T) (w : World) (h : KidsAt S w a n c ts) (hs : ∀ t ∈ ts, Plained t) (hb : n ≤ 2147483647) :
    Calls Tryz.prog 74 #[.slice a n c] w fun r w' => ∃ g cap, r = .returned (.slice (some ⟨g, 0, none⟩) n cap) ∧ JAt (fun b => w.heap.size ≤ b) w' (.iface 107 (.slice (some ⟨g, 0, none⟩) n cap)) (.list (jFulls ts)) ∧ Ext w w' := by
  have HK := Lib.hid h
  obtain ⟨hl, hn, hm, -⟩ := h
  unfold maxLen at hm
  have HL := Lib.hid hl
  have HS := Lib.hid hs
  clear hl hs
  go_enter Tryz.func74, Tryz.ntmps74
  go_wp2_with fail
  go_loopw [3, 9] (fun v i wr => Ext w wr ∧ ∃ (j : Nat) (vs : List Value) (g cap : Nat), j ≤ n ∧ i = .int .i64 j ∧ v = .slice (some ⟨g, 0, none⟩) j cap ∧ vs.length = j ∧ OwnAny wr w.heap.size (.slice (some ⟨g, 0, none⟩) j cap) vs ∧ (∀ u ∈ vs, u.oneCell' = true) ∧ JsAt (fun b => w.heap.size ≤ b ∧ b ≠ g) wr vs ((ts.take j).map jFull)) (fun _ i _ => n - (intOf i).toNat)
  case atStart =>
    exact ⟨by (repeat (first | exact ext_refl _ | assumption | refine ext_alloc ?_ _ | refine ext_drew ?_ | refine ext_set ?_ (by simp) _ | refine ext_trans ?_ (by assumption))), 0, [], w.heap.size, 0, Nat.zero_le _, rfl, rfl, rfl, ⟨rfl, .inr ⟨w.heap.size, 0, #[], rfl, Nat.le_refl _, Box.at rfl _ _, Nat.le_refl _, by simp [maxLen], rfl, rfl⟩⟩, fun u hu => by simp at hu, by simp [JsAt]⟩
  case round =>
    obtain ⟨hx, j, vs, g0, cap0, hj, rfl, rfl, hvl, hO, h1, hV⟩ := hrel
    have HO := Lib.hid hO
    have HV := Lib.hid hV
    have HVL := Lib.hid hvl
    have H1 := Lib.hid h1
    have hg0 : w.heap.size ≤ g0 ∧ g0 < wr.heap.size := World.ownsRow.lt hO g0 rfl
    clear hO hV hvl h1
    by_cases hlt : j < n
    · obtain ⟨t, ht⟩ := some_of_lt HL.out hlt
      obtain ⟨b, off, ⟨k, x, d, y, ka, kn, kc, ca, m, cc⟩, rfl, -, hcell, hT⟩ := (KidsAt.ext hx HK.out).get ht
      have hSc := Lib.hid (HS.out t (List.mem_of_getElem? ht))
      have HT := Lib.hid ht
      clear ht
      obtain ⟨c0, c1, c2, c3, c4, c5⟩ := hcell
      have hPL := Lib.hid (fun (w1 : World) (xx : Ext wr w1) => hSc.out _ _ w1 (hT.ext xx))
      clear hT
      have hsz := hx.sz
      have tokB := trivial
      go_wp2_with (first
        | (go_at_call 29; refine (hPL.out _ (by (repeat (first | exact ext_refl _ | assumption | refine ext_alloc ?_ _ | refine ext_drew ?_ | refine ext_set ?_ (by simp) _ | refine ext_trans ?_ (by assumption))))).mono ?_; rintro r w2 ⟨pty, px, rfl, hJ, hx2⟩
           have hx3 : Ext wr w2 := ext_trans (by (repeat (first | exact ext_refl _ | assumption | refine ext_alloc ?_ _ | refine ext_drew ?_ | refine ext_set ?_ (by simp) _ | refine ext_trans ?_ (by assumption)))) hx2
           have hJ := hJ.to (S' := fun b => wr.heap.size ≤ b) (fun b hb _ => by simp at hb; omega)
           have hxn : Ext w2 (w2.alloc (.cells #[.iface pty px] 20)) := ext_alloc (ext_refl _) _
           have hbn : Box (w2.alloc (.cells #[.iface pty px] 20)) w2.heap.size #[.iface pty px] 20 := Box.at rfl _ _
           have HJ := Lib.hid (hJ.ext hxn)
           clear hJ)
        | (at_builtin; have _t := tokB; clear _t tokB; refine list_append_any _ rfl _ _ rfl w.heap.size (.slice (some ⟨g0, 0, none⟩) j cap0) vs rfl (HO.out.ext (ext_trans hx3 hxn)) w2.heap.size 0 1 [.iface pty px] (by simp) (fun u hu => by simp at hu; subst hu; rfl) rfl (fun i f hf => by
             cases i with
             | zero => simp at hf; subst hf; exact hbn.cell 0 _ rfl
             | succ i => simp at hf) (by have := HVL.out; simp; omega) (by have := (ext_trans hx3 hxn).sz; omega) ?_; intro g cap w4 hown hgrow hlies hglt)
        | fail)
      have hx5 : Ext w w4 := ext_grown (ext_trans hx (ext_trans hx3 hxn)) hgrow (fun k hk => by simp only [Value.ownBlock, Option.some.injEq] at hk; omega)
      have hszn := (ext_trans hx3 hxn).sz
      have hne : ∀ b, (w.heap.size ≤ b ∧ b ≠ g0) → b < (w2.alloc (.cells #[.iface pty px] 20)).heap.size → w.heap.size ≤ b ∧ b ≠ g := fun b hb hl => ⟨hb.1, fun e => by
        subst e
        rcases hlies with hl2 | hl2
        · simp only [Value.ownBlock, Option.some.injEq] at hl2; exact hb.2 hl2.symm
        · omega⟩
      have hkp : Keeps (fun b => w.heap.size ≤ b ∧ b ≠ g0) (w2.alloc (.cells #[.iface pty px] 20)) w4 := keeps_grown hgrow (fun b hb e => by simp only [Value.ownBlock, Option.some.injEq] at e; exact hb.2 e)
      have hV5 := Lib.hid (JsAt.snoc (JsAt.keep hne hkp _ (HV.out.ext (ext_trans hx3 hxn))) (JAt.keep hne hkp _ (HJ.out.to (S' := fun b => w.heap.size ≤ b ∧ b ≠ g0) (fun b hb _ => by omega))))
      have hown2 := Lib.hid hown
      clear hown hgrow hlies hne hkp
      go_roundw
      case rel =>
        refine ⟨hx5, j + 1, vs ++ [.iface pty px], g, cap, by omega, by go_num, by have := HVL.out; simp [this], by simp [HVL.out], by have := HVL.out; simpa [this] using hown2.out, ?_, ?_⟩
        · intro u hu
          rcases List.mem_append.1 hu with hu | hu
          · exact H1.out u hu
          · simp at hu; subst hu; rfl
        · rw [take_snoc HT.out, List.map_append]
          exact hV5.out
      case measure => simp [intOf]; omega
    · have hjn : j = n := by omega
      subst hjn
      have hfull : ts.take j = ts := List.take_of_length_le (by have := HL.out; omega)
      have hV := HV.out
      rw [hfull, ← jFulls_eq] at hV
      go_wp2_with fail
      go_ret
      refine ⟨g0, cap0, rfl, ?_, hx⟩
      obtain ⟨a, c, he, q1, q2, q3⟩ := HO.out.cells (S := fun b => w.heap.size ≤ b) (fun b hb => by cases hb; exact hg0.1)
      cases he
      simp only [JAt]
      have hjl : (jFulls ts).length = vs.length := by rw [jFulls_eq, List.length_map, HL.out, HVL.out]
      exact ⟨_, _, _, vs, rfl, by rw [hjl, HVL.out]; omega, by rw [hjl, HVL.out], by have := HVL.out; omega, q2, q3, JsAt.keep (fun b hb _ => hb.1) (fun _ _ _ => rfl) _ hV⟩

set_option maxRecDepth 20000 in
set_option maxHeartbeats 2000000 in
theorem plained_list (x : ByteArray) (d : Nat) (y : Bool) (keys : List ByteArray) (kids : List T) (hb : kids.length ≤ 2147483647) (hs : ∀ t ∈ kids, Plained t) : Plained (.mk 4 x d y keys kids) := by
  rintro S ⟨k, x', d', y', ka, kn, kc, ca, m, cc⟩ w h
  obtain ⟨hk, -, -, -, -, hK⟩ := h.parts
  simp only [T.kind, T.kids] at hk hK
  have hKl := hK.1
  have hC := Lib.hid fun w' (xx : Ext w w') => plains_full ca m cc kids w' (hK.ext xx) hs (by omega)
  have hjf : jFull (.mk 4 x d y keys kids) = .list (jFulls kids) := by simp [jFull]
  rw [hjf]
  clear h hK hjf hs
  subst hk
  simp only [El.val]
  go_enter Tryz.func29, Tryz.ntmps29
  go_wp2_with (go_at_call 74; refine (hC.out _ (by (repeat (first | exact ext_refl _ | assumption | refine ext_alloc ?_ _ | refine ext_drew ?_ | refine ext_set ?_ (by simp) _ | refine ext_trans ?_ (by assumption))))).mono ?_; rintro r w2 ⟨g, cap, rfl, hJ, hx2⟩)
  go_ret
  exact ⟨_, _, rfl, hJ.to (fun b hb _ => by simp at hb; omega), ext_trans (by (repeat (first | exact ext_refl _ | assumption | refine ext_alloc ?_ _ | refine ext_drew ?_ | refine ext_set ?_ (by simp) _ | refine ext_trans ?_ (by assumption)))) hx2⟩

theorem zip_snoc {ks : List ByteArray} {vs : List Value} {j : Nat} {k : ByteArray} {u : Value} (hk : ks[j]? = some k) (hl : vs.length = j) : (ks.take (j + 1)).zip (vs ++ [u]) = (ks.take j).zip vs ++ [(k, u)] := by
  rw [take_snoc hk, List.zip_append]
  · rfl
  · have := (List.getElem?_eq_some_iff.1 hk).1
    rw [List.length_take, hl]
    omega
set_option maxRecDepth 20000 in
set_option maxHeartbeats 4000000 in
theorem plained_map (x : ByteArray) (d : Nat) (y : Bool) (keys : List ByteArray) (kids : List T) (hl : keys.length = kids.length) (hb : kids.length ≤ 2147483647) (hz : ∀ s ∈ keys, s.size ≤ maxLen) (hs : ∀ t ∈ kids, Plained t) : Plained (.mk 5 x d y keys kids) := by
  rintro S ⟨k, x', d', y', ka, kn, kc, ca, m, cc⟩ w h
  obtain ⟨hk, -, -, -, hS, hK⟩ := h.parts
  simp only [T.kind, T.kids, T.keys] at hk hK hS
  have hKl := hK.1
  have hSl := hS.1
  have hjf : jFull (.mk 5 x d y keys kids) = .map keys (jFulls kids) := by simp [jFull]
  rw [hjf]
  have HK := Lib.hid hK
  have HS := Lib.hid hS
  have hmm : m = kn := by omega
  have hmb : m ≤ 2147483647 := by omega
  have HKL := Lib.hid hKl
  have HSL := Lib.hid hSl
  have HPL := Lib.hid hs
  have HZ := Lib.hid hz
  have hcb := hK.2.1
  have hkb := hS.2.1
  have hcm := hK.2.2.1
  have hkm := hS.2.2.1
  unfold maxLen at hcm hkm
  clear h hK hS hjf hs hl hKl hSl hz
  subst hk
  subst hmm
  simp only [El.val]
  have hb0o : Box (w.alloc (.cells (El.arr ⟨5, x', d', y', ka, m, kc, ca, m, cc⟩) 26)) w.heap.size (El.arr ⟨5, x', d', y', ka, m, kc, ca, m, cc⟩) 26 := Box.at rfl _ _
  go_enter Tryz.func29, Tryz.ntmps29
  go_wp2_with fail
  go_loopw [35] (fun i wr => Ext w wr ∧ Box wr w.heap.size (El.arr ⟨5, x', d', y', ka, m, kc, ca, m, cc⟩) 26 ∧ ∃ (j : Nat) (vs : List Value), j ≤ m ∧ i = .int .i64 j ∧ vs.length = j ∧ MapAt wr (w.heap.size + 1) ((keys.take j).zip vs) ∧ JsAt (fun b => w.heap.size + 2 ≤ b) wr vs ((kids.take j).map jFull)) (fun i _ => m - (intOf i).toNat)
  case atStart =>
    exact ⟨by (repeat (first | exact ext_refl _ | assumption | refine ext_alloc ?_ _ | refine ext_drew ?_ | refine ext_set ?_ (by simp) _ | refine ext_trans ?_ (by assumption))), hb0o.alloc _, 0, [], Nat.zero_le _, rfl, rfl, by simpa using MapAt.at (by simp), by simp [JsAt]⟩
  case round =>
    obtain ⟨hx, hbx, j, vs, hj, rfl, hvl, hM, hV⟩ := hrel
    have hMl := hM.lt
    have HM := Lib.hid hM
    have HV := Lib.hid hV
    have HVL := Lib.hid hvl
    clear hM hV hvl
    by_cases hlt : j < m
    · obtain ⟨t, ht⟩ := some_of_lt HKL.out hlt
      obtain ⟨s, hsk⟩ := some_of_lt HSL.out hlt
      obtain ⟨b, off, ⟨ek, ex, ed, ey, eka, ekn, ekc, eca, em, ecc⟩, rfl, -, hcell, hT⟩ := (KidsAt.ext hx HK.out).get ht
      obtain ⟨b2, off2, rfl, -, hkc⟩ := (HS.out.ext hx).2.2.2 j s hsk
      have hSc := Lib.hid (HPL.out t (List.mem_of_getElem? ht))
      have hsz := Lib.hid (HZ.out s (List.mem_of_getElem? hsk))
      have HT := Lib.hid ht
      have HSK := Lib.hid hsk
      clear ht hsk
      obtain ⟨c0, c1, c2, c3, c4, c5⟩ := hcell
      have hPL := Lib.hid (fun (w1 : World) (xx : Ext wr w1) => hSc.out _ _ w1 (hT.ext xx))
      clear hT
      obtain ⟨o0, o1, o2, o3, o4, o5⟩ := hbx.six
      go_wp2_with (first
        | (go_at_call 29; refine (hPL.out _ (ext_refl _)).mono ?_; rintro r w2 ⟨pty, px, rfl, hJ, hx2⟩
           have hJ := Lib.hid hJ)
        | (at_mapUpdate; refine wp_put _ rfl _ _ _ 109 rfl 20 Tryz.underlying109 (w.heap.size + 1) _ rfl (HM.out.ext hx2) (by have := HVL.out; simp [maxLen]; omega) s rfl hsz.out _ rfl ?_; intro w4 hm hg)
        | fail)
      have hx5 := ext_put (ext_trans hx hx2) hg (by omega)
      have hb5 := (hbx.ext hx2).grown hg (someNe (by omega))
      have hs2 := hx2.sz
      have hkp : Keeps (fun b => w.heap.size + 2 ≤ b) w2 w4 := keeps_grown hg (fun b hb e => by simp only [Option.some.injEq] at e; omega)
      have hV5 := Lib.hid (JsAt.snoc (JsAt.keep (S' := fun b => w.heap.size + 2 ≤ b) (fun b hb _ => hb) hkp _ (HV.out.ext hx2)) (JAt.keep (S' := fun b => w.heap.size + 2 ≤ b) (fun b hb _ => hb) hkp _ (hJ.out.to (S' := fun b => w.heap.size + 2 ≤ b) (fun b hb _ => by omega))))
      have hM5 := Lib.hid hm
      clear hm hg hkp
      go_roundw
      case rel =>
        refine ⟨hx5, hb5, j + 1, vs ++ [.iface pty px], by omega, by go_num, by simp [HVL.out], ?_, ?_⟩
        · rw [zip_snoc HSK.out HVL.out]
          exact hM5.out
        · rw [take_snoc HT.out, List.map_append]
          exact hV5.out
      case measure => simp [intOf]; omega
    · have hjn : j = m := by omega
      subst hjn
      have hfull : kids.take j = kids := List.take_of_length_le (by have := HKL.out; omega)
      have hfull2 : keys.take j = keys := List.take_of_length_le (by have := HSL.out; omega)
      have hV := HV.out
      have hM := HM.out
      rw [hfull, ← jFulls_eq] at hV
      rw [hfull2] at hM
      go_wp2_with fail
      go_ret
      refine ⟨_, _, rfl, ?_, hx⟩
      simp only [JAt]
      exact ⟨_, vs, rfl, by omega, by have := HSL.out; omega, by rw [jFulls_eq, List.length_map, HSL.out, HKL.out], hM, JsAt.keep (fun b hb _ => by omega) (fun _ _ _ => rfl) _ hV⟩

mutual
theorem plained : ∀ t : T, FullT t → Plained t
  | .mk k x d y keys kids, h => by
    rw [FullT] at h
    rcases h with h | ⟨⟨rfl, -⟩ | ⟨rfl, hl, -⟩, hb, hz, hk⟩
    · exact plained_scalar (scalar_kind h)
    · exact plained_list x d y keys kids hb (plaineds kids hk)
    · exact plained_map x d y keys kids hl hb hz (plaineds kids hk)
theorem plaineds : ∀ (l : List T), FullTs l → ∀ t ∈ l, Plained t
  | [], _, _, h => by cases h
  | t :: r, hf, q, h => by
    rw [FullTs] at hf
    rcases List.mem_cons.1 h with e | h
    · rw [e]; exact plained t hf.1
    · exact plaineds r hf.2 q h
end
end Go.Proofs.YtfngaoicoecncaaGreatDoor

namespace Go.Proofs.YtfngaoicoecncaaGreatDoor
open Go.RowKit Go.Maps

theorem keys_zip {ks : List ByteArray} {ts : List T} (h : ks.length = ts.length) : (ks.zip ts).map Prod.fst = ks ∧ (ks.zip ts).map Prod.snd = ts :=
  ⟨List.map_fst_zip (by omega), List.map_snd_zip (by omega)⟩
theorem rising_zip {ks : List ByteArray} {ts : List T} (h : ks.length = ts.length) (hr : ks.Pairwise lt) : Rising (ks.zip ts) := by
  have h1 : ((ks.zip ts).map Prod.fst).Pairwise lt := by rw [(keys_zip h).1]; exact hr
  exact List.pairwise_map.1 h1
theorem mapT_zip {ks : List ByteArray} {ts : List T} (h : ks.length = ts.length) (hr : ks.Pairwise lt) : mapT (ks.zip ts) = .mk 5 emptyS 0 false ks ts := by
  rw [mapT_of (rising_zip h hr) fun _ => rfl]
  unfold mapOf
  rw [(keys_zip h).1, (keys_zip h).2]
mutual
theorem jFull_same : ∀ t : T, FullT t → sameT (treeJ (jFull t)) t = true
  | .mk k x d y keys kids, h => by
    rw [FullT] at h
    rcases h with h | ⟨⟨rfl, rfl⟩ | ⟨rfl, hl, hr⟩, -, -, hk⟩
    · rw [jFull_scalar (scalar_kind h)]
      exact jOf_same h
    · have hj : jFull (.mk 4 x d y [] kids) = .list (jFulls kids) := by simp [jFull]
      have hs := jFulls_same kids hk
      have hlen : (treesJ (jFulls kids)).length = kids.length := by rw [treesJ_len, jFulls_eq, List.length_map]
      rw [hj]
      simp [treeJ, listT, sameT, hlen, hs, seqs]
    · have hj : jFull (.mk 5 x d y keys kids) = .map keys (jFulls kids) := by simp [jFull]
      have hs := jFulls_same kids hk
      have hlen : (treesJ (jFulls kids)).length = kids.length := by rw [treesJ_len, jFulls_eq, List.length_map]
      rw [hj, treeJ, mapT_zip (by rw [hlen]; exact hl) hr]
      simp [sameT, hlen, hs, seqs_self]
theorem jFulls_same : ∀ l : List T, FullTs l → samesT (treesJ (jFulls l)) l = true
  | [], _ => by simp [jFulls, treesJ, samesT]
  | t :: r, h => by
    rw [FullTs] at h
    rw [jFulls, treesJ, samesT, jFull_same t h.1, jFulls_same r h.2]
    rfl
end
theorem jFull_kind {t : T} (h : t.kind = 5) : (treeJ (jFull t)).kind = 5 := by
  obtain ⟨k, x, d, y, keys, kids⟩ := t
  simp only [T.kind] at h
  subst h
  have hj : jFull (.mk 5 x d y keys kids) = .map keys (jFulls kids) := by simp [jFull]
  rw [hj, treeJ, mapT_kind]
mutual
/-- A tree that stands for a value. -/
def ProperT : T → Prop
  | .mk k x d y keys kids => scalarT (.mk k x d y keys kids) = true ∨ (((k = 4 ∧ keys = []) ∨ (k = 5 ∧ keys.length = kids.length ∧ keys.Pairwise lt)) ∧ ProperTs kids)
def ProperTs : List T → Prop
  | [] => True
  | t :: r => ProperT t ∧ ProperTs r
end
theorem properTs_iff : ∀ l : List T, ProperTs l ↔ ∀ t ∈ l, ProperT t
  | [] => by simp [ProperTs]
  | t :: r => by simp [ProperTs, properTs_iff r]
mutual
/-- No part of a tree is larger. -/
def SmallT (N : Nat) : T → Prop
  | .mk _ x _ _ keys kids => x.size ≤ N ∧ keys.length ≤ N ∧ (∀ s ∈ keys, s.size ≤ N) ∧ kids.length ≤ N ∧ SmallTs N kids
def SmallTs (N : Nat) : List T → Prop
  | [] => True
  | t :: r => SmallT N t ∧ SmallTs N r
end
theorem smallTs_iff (N : Nat) : ∀ l : List T, SmallTs N l ↔ ∀ t ∈ l, SmallT N t
  | [] => by simp [SmallTs]
  | t :: r => by simp [SmallTs, smallTs_iff N r]
mutual
theorem SmallT.mono {N M : Nat} (hNM : N ≤ M) : ∀ {t : T}, SmallT N t → SmallT M t
  | .mk _ _ _ _ _ kids, h => by
    rw [SmallT] at h ⊢
    exact ⟨Nat.le_trans h.1 hNM, Nat.le_trans h.2.1 hNM, fun s hs => Nat.le_trans (h.2.2.1 s hs) hNM, Nat.le_trans h.2.2.2.1 hNM, SmallTs.mono hNM h.2.2.2.2⟩
theorem SmallTs.mono {N M : Nat} (hNM : N ≤ M) : ∀ {l : List T}, SmallTs N l → SmallTs M l
  | [], _ => by rw [SmallTs]; trivial
  | t :: r, h => by
    rw [SmallTs] at h ⊢
    exact ⟨SmallT.mono hNM h.1, SmallTs.mono hNM h.2⟩
end
mutual
theorem FullT.of {N : Nat} (hN : N ≤ 2147483647) : ∀ {t : T}, ProperT t → SmallT N t → FullT t
  | .mk k x d y keys kids, h, h2 => by
    rw [ProperT] at h
    rw [SmallT] at h2
    rw [FullT]
    rcases h with h | ⟨h, hk⟩
    · exact .inl h
    · exact .inr ⟨h, by omega, fun s hs => Nat.le_trans (h2.2.2.1 s hs) (by unfold maxLen; omega), FullTs.of hN hk h2.2.2.2.2⟩
theorem FullTs.of {N : Nat} (hN : N ≤ 2147483647) : ∀ {l : List T}, ProperTs l → SmallTs N l → FullTs l
  | [], _, _ => by rw [FullTs]; trivial
  | t :: r, h, h2 => by
    rw [ProperTs] at h
    rw [SmallTs] at h2
    rw [FullTs]
    exact ⟨FullT.of hN h.1 h2.1, FullTs.of hN h.2 h2.2⟩
end
end Go.Proofs.YtfngaoicoecncaaGreatDoor

