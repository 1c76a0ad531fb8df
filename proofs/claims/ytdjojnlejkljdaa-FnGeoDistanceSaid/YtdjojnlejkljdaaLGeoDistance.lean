/-
  The law of a geo_distance query: what the builder gives is what is told.
-/
import Derived.Test.YtdjojnlejkljdaaIGeoDistance
import Derived.Test.YtdjojnlejkljdaaGdS
import Derived.Test.YtdjojnlejkljdaaLx
import Derived.Test.YtdjojnlejkljdaaQx
namespace Go.Proofs.Ytdjojnlejkljdaa
open Go.RowKit

theorem hasS_dec (l : List ByteArray) (k : ByteArray) : hasS l k = l.any fun a => decide (a = k) := by
  unfold hasS
  simp only [seq_dec]
def FitsX (rs : List (ByteArray × ByteArray)) (ps : List (ByteArray × T)) : Prop := ∀ (i : Nat) (p : ByteArray × T), ps[i]? = some p → FitX (kindL rs p.1) p.2
theorem fitsX_mem {rs : List (ByteArray × ByteArray)} {ps : List (ByteArray × T)} (h : FitsX rs ps) {p : ByteArray × T} (hp : p ∈ ps) : FitX (kindL rs p.1) p.2 := by
  obtain ⟨i, hi⟩ := List.getElem?_of_mem hp
  exact h i _ hi
theorem fitX_plain {kind : ByteArray} {t : T} (h : FitX kind t) (h1 : kind ≠ ⟨#[117]⟩) (h2 : kind ≠ ⟨#[112]⟩) : FitP kind t := by
  rcases h with h | h | h
  · exact h
  · exact absurd h.1 h1
  · exact absurd h.1 h2
theorem fitX_pair {t : T} (h : FitX ⟨#[112]⟩ t) : PairP t := by
  rcases h with h | h | h
  · obtain ⟨-, h | h | h | h | h⟩ := h
    · exact absurd h.1 (by decide)
    · exact absurd h.1 (by decide)
    · exact absurd h.1 (by decide)
    · exact absurd h.1 (by decide)
    · exact absurd h (by decide)
  · exact absurd h.1 (by decide)
  · exact h.2
theorem geo_text {ps : List (ByteArray × T)} (hF : FitsX rGeoDistance ps) {k : ByteArray} (hk : kindL rGeoDistance k = ⟨#[116]⟩) {t : T} (ho : lastOf ps k = some t) : FitP ⟨#[116]⟩ t := by
  have h := fitsX_mem hF (lastOf_mem ho)
  rw [hk] at h
  exact fitX_plain h (by decide) (by decide)
theorem jT_sameG {ps : List (ByteArray × T)} (hF : FitsX rGeoDistance ps) {k : ByteArray} (hk : kindL rGeoDistance k = ⟨#[116]⟩) : SameL (jTree (jT k (lastOf ps k))) (param ps (k, ⟨#[116]⟩)).toList := by
  have hp : hasS plainK (⟨#[116]⟩ : ByteArray) = true := by simp [plainK, hasS, seq_self]
  cases ho : lastOf ps k with
  | none => simpa [param, ho, jT, fT] using SameL.nil
  | some t =>
    obtain ⟨hs, h | h | h | h | h⟩ := geo_text hF hk ho
    · obtain ⟨hsame, hne⟩ := same_text h.2 hs
      have h2 : jT k (some t) = [(k, .str t.text)] := by simp [jT, fT, hne]
      rw [h2]
      simpa [param, ho, hp, treeJ] using SameL.one k hsame
    · exact absurd h.1 (by decide)
    · exact absurd h.1 (by decide)
    · exact absurd h.1 (by decide)
    · exact absurd h (by decide)
/-- What is set of a point are numbers. -/
theorem foldG_nums {ps : List (ByteArray × T)} (hF : FitsX rGeoDistance ps) : ((foldG ps).1.kind = 2 ∧ scalarT (foldG ps).1 = true) ∧ (foldG ps).2.kind = 2 ∧ scalarT (foldG ps).2 = true := by
  have step : ∀ (l : List (ByteArray × T)) (acc : T × T), (∀ p ∈ l, FitX (kindL rGeoDistance p.1) p.2) → ((acc.1.kind = 2 ∧ scalarT acc.1 = true) ∧ acc.2.kind = 2 ∧ scalarT acc.2 = true) → (((l.foldl stepG acc).1.kind = 2 ∧ scalarT (l.foldl stepG acc).1 = true) ∧ (l.foldl stepG acc).2.kind = 2 ∧ scalarT (l.foldl stepG acc).2 = true) := by
    intro l
    induction l with
    | nil => intro acc _ h; exact h
    | cons p r ih =>
      intro acc hl h
      rw [List.foldl_cons]
      refine ih _ (fun q hq => hl q (by simp [hq])) ?_
      have hp := hl p (by simp)
      cases e1 : seq p.1 s_point with
      | true =>
        rw [stepG_point e1]
        rw [seq_iff.1 e1, show kindL rGeoDistance s_point = ⟨#[112]⟩ by rw [kindL_dec]; decide] at hp
        obtain ⟨-, -, pa, pb, hk, k1, k2, k3, k4⟩ := fitX_pair hp
        have ha : kidT p.2 0 = pa := by unfold kidT; rw [hk]; rfl
        have hb : kidT p.2 1 = pb := by unfold kidT; rw [hk]; rfl
        rw [ha, hb]
        exact ⟨⟨k1, k3⟩, k2, k4⟩
      | false =>
        have num : ∀ k, seq p.1 k = true → kindL rGeoDistance k = ⟨#[110]⟩ → p.2.kind = 2 ∧ scalarT p.2 = true := fun k e hk => by
          rw [seq_iff.1 e, hk] at hp
          obtain ⟨hs, h | h | h | h | h⟩ := fitX_plain hp (by decide) (by decide)
          · exact absurd h.1 (by decide)
          · exact ⟨h.2, hs⟩
          · exact absurd h.1 (by decide)
          · exact absurd h.1 (by decide)
          · exact absurd h (by decide)
        cases e2 : seq p.1 s_lat with
        | true =>
          rw [stepG_lat e2]
          exact ⟨num _ e2 (by rw [kindL_dec]; decide), h.2⟩
        | false =>
          cases e3 : seq p.1 s_lon with
          | true =>
            rw [stepG_lon e3]
            exact ⟨h.1, num _ e3 (by rw [kindL_dec]; decide)⟩
          | false =>
            rw [stepG_skip e1 e2 e3]
            exact h
  have h0 : (numT 0).kind = 2 ∧ scalarT (numT 0) = true := ⟨rfl, by decide⟩
  exact step ps (numT 0, numT 0) (fun p hp => fitsX_mem hF hp) ⟨h0, h0⟩
abbrev jGeo (ps : List (ByteArray × T)) : J := if (fT (lastOf ps s_hash)).toList.isEmpty then jMap [(s_lat, .num (foldG ps).1.num), (s_lon, .num (foldG ps).2.num)] else .str (fT (lastOf ps s_hash))
theorem jPt_geo (f : ByteArray) (ps : List (ByteArray × T)) : jPt f (fT (lastOf ps s_hash)) (foldG ps).1.num (foldG ps).2.num = [(f, jGeo ps)] := by
  unfold jPt jGeo
  split <;> rfl
theorem geo_place {ps : List (ByteArray × T)} (hF : FitsX rGeoDistance ps) : sameT (treeJ (jGeo ps)) (ptT ps) = true := by
  unfold jGeo ptT
  cases ho : lastOf ps s_hash with
  | some t =>
    obtain ⟨hs, h | h | h | h | h⟩ := geo_text hF (k := s_hash) (by rw [kindL_dec]; decide) ho
    · obtain ⟨hsame, hne⟩ := same_text h.2 hs
      have he : (fT (some t)).toList.isEmpty = false := by
        show t.text.toList.isEmpty = false
        rw [Lib.toList_data]
        cases hd : t.text.data.toList with
        | nil =>
          exact absurd (by
            have h8 : t.text.data = #[] := by rw [← Array.toList_eq_nil_iff]; exact hd
            show t.text = ⟨#[]⟩
            exact ByteArray.ext h8) hne
        | cons _ _ => rfl
      rw [he]
      simpa [treeJ, fT] using hsame
    · exact absurd h.1 (by decide)
    · exact absurd h.1 (by decide)
    · exact absurd h.1 (by decide)
    · exact absurd h (by decide)
  | none =>
    have he : (fT none).toList.isEmpty = true := by rw [show fT none = emptyS from rfl, Lib.toList_data]; rfl
    rw [he]
    simp only [if_true]
    obtain ⟨⟨h1, h2⟩, h3, h4⟩ := foldG_nums hF
    rw [treeJ_jMap]
    unfold pointT
    refine sameT_map (show SameL _ _ from ?_)
    exact SameL.append (SameL.one s_lat (same_num h1 h2)) (SameL.one s_lon (same_num h3 h4))
theorem lastOf_again {qs : List (ByteArray × T)} {f : ByteArray} {t : T} (h : lastOf qs f = some t) (k : ByteArray) : lastOf (qs ++ [(f, t)]) k = lastOf qs k := by
  rw [lastOf_snoc]
  dsimp only
  split
  · rename_i e
    rw [← seq_iff.1 e, h]
  · rfl
theorem keep_param {ps : List (ByteArray × T)} {k kd : ByteArray} (h : hasS geoOut k = false) : (param ps (k, kd)).toList.filter (fun p => !hasS geoOut p.1) = (param ps (k, kd)).toList := by
  rw [List.filter_eq_self]
  intro p hp
  have hk := keys_param ps (k, kd) p hp
  simp only [List.mem_singleton] at hk
  rw [hk, h]
  rfl
theorem drop_param {ps : List (ByteArray × T)} {k kd : ByteArray} (h : hasS geoOut k = true) : (param ps (k, kd)).toList.filter (fun p => !hasS geoOut p.1) = [] := by
  rw [List.filter_eq_nil_iff]
  intro p hp
  have hk := keys_param ps (k, kd) p hp
  simp only [List.mem_singleton] at hk
  rw [hk, h]
  decide
theorem geo_params (ps : List (ByteArray × T)) : (paramsL rGeoDistance ps).filter (fun p => !hasS geoOut p.1) = (param ps (s_distance, ⟨#[116]⟩)).toList ++ (param ps (s_distance_type, ⟨#[116]⟩)).toList ++ (param ps (s_name, ⟨#[116]⟩)).toList := by
  have hp : param ps (s_point, ⟨#[112]⟩) = none := by
    have : hasS plainK (⟨#[112]⟩ : ByteArray) = false := by rw [hasS_dec]; decide
    simp [param, this]
  rw [params_cons, params_cons, params_cons, params_cons, params_cons, params_cons, params_cons, params_nil]
  rw [List.filter_append, List.filter_append, List.filter_append, List.filter_append, List.filter_append, List.filter_append, List.filter_append]
  rw [keep_param (k := s_distance) (by rw [hasS_dec]; decide), keep_param (k := s_distance_type) (by rw [hasS_dec]; decide), hp, drop_param (k := s_lat) (by rw [hasS_dec]; decide), drop_param (k := s_lon) (by rw [hasS_dec]; decide), drop_param (k := s_hash) (by rw [hasS_dec]; decide), keep_param (k := s_name) (by rw [hasS_dec]; decide)]
  simp
theorem fieldG_distance {f : ByteArray} (h : FieldP f) : f ≠ s_distance := fun e => by
  have h2 := h.2
  rw [e, hasS_dec] at h2
  exact absurd h2 (by decide)
theorem fieldG_type {f : ByteArray} (h : FieldP f) : f ≠ s_distance_type := fun e => by
  have h2 := h.2
  rw [e, hasS_dec] at h2
  exact absurd h2 (by decide)
theorem fieldG_name {f : ByteArray} (h : FieldP f) : f ≠ s_name := fun e => by
  have h1 := h.1
  rw [e] at h1
  exact h1 95 rfl rfl
abbrev geoJ (f : ByteArray) (ps : List (ByteArray × T)) : List (ByteArray × J) := jPt f (fT (lastOf ps s_hash)) (foldG ps).1.num (foldG ps).2.num ++ jT s_distance (lastOf ps s_distance) ++ jT s_distance_type (lastOf ps s_distance_type) ++ jT s_name (lastOf ps s_name)
theorem geo_parts (f : ByteArray) (ps : List (ByteArray × T)) : jTree (geoJ f ps) = [(f, treeJ (jGeo ps))] ++ jTree (jT s_distance (lastOf ps s_distance)) ++ jTree (jT s_distance_type (lastOf ps s_distance_type)) ++ jTree (jT s_name (lastOf ps s_name)) := by
  unfold geoJ
  rw [jPt_geo]
  unfold jTree
  simp only [List.map_append, List.map_cons, List.map_nil]
theorem geo_last {f : ByteArray} (hf : FieldP f) (ps : List (ByteArray × T)) : lastOf (jTree (geoJ f ps)) f = some (treeJ (jGeo ps)) := by
  rw [geo_parts, lastOf_append, lastOf_append, lastOf_append]
  rw [(keys_T s_name (lastOf ps s_name)).none (x := f) (by rw [List.mem_singleton]; exact fieldG_name hf), (keys_T s_distance_type (lastOf ps s_distance_type)).none (x := f) (by rw [List.mem_singleton]; exact fieldG_type hf), (keys_T s_distance (lastOf ps s_distance)).none (x := f) (by rw [List.mem_singleton]; exact fieldG_distance hf)]
  simp [lastOf_cons, lastOf_nil, seq_self]
theorem geo_same {f : ByteArray} (hf : FieldP f) {ps : List (ByteArray × T)} (hF : FitsX rGeoDistance ps) : sameT (mapT [(s_geo_distance, mapT (jTree (geoJ f ps) ++ [(f, treeJ (jGeo ps))]))]) (mapT [(s_geo_distance, mapT (((paramsL rGeoDistance ps).filter fun p => !hasS geoOut p.1) ++ [(f, ptT ps)]))]) = true := by
  refine same_one _ (sameT_map ?_)
  let chs : Nat → Ch := fun i => match i with
    | 0 => (f, [(f, ptT ps)])
    | 1 => (s_distance, (param ps (s_distance, ⟨#[116]⟩)).toList)
    | 2 => (s_distance_type, (param ps (s_distance_type, ⟨#[116]⟩)).toList)
    | 3 => (s_name, (param ps (s_name, ⟨#[116]⟩)).toList)
    | _ => (emptyS, [])
  have h0 : SameL (jTree (geoJ f ps)) ([(f, ptT ps)] ++ (param ps (s_distance, ⟨#[116]⟩)).toList ++ (param ps (s_distance_type, ⟨#[116]⟩)).toList ++ (param ps (s_name, ⟨#[116]⟩)).toList) := by
    rw [geo_parts]
    exact SameL.append (SameL.append (SameL.append (SameL.one f (geo_place hF)) (jT_sameG hF (by rw [kindL_dec]; decide))) (jT_sameG hF (by rw [kindL_dec]; decide))) (jT_sameG hF (by rw [kindL_dec]; decide))
  have hn : [f, s_distance, s_distance_type, s_name].Nodup := by
    simp only [List.nodup_cons, List.mem_cons, List.not_mem_nil, or_false, not_or]
    exact ⟨⟨fieldG_distance hf, fieldG_type hf, fieldG_name hf⟩, by decide, by decide, by simp, by simp⟩
  have h1 := SameL.reorder (f := chs) [0, 1, 2, 3] [1, 2, 3, 0] (by decide) hn (by intro c hc; simp only [List.map_cons, List.map_nil, List.mem_cons, List.not_mem_nil, or_false] at hc; rcases hc with rfl | rfl | rfl | rfl <;> first | exact keys_param _ _ | exact keys_one _ _) (by simpa only [chs, flatC, List.map_cons, List.map_nil, List.flatMap_cons, List.flatMap_nil, List.append_nil, List.append_assoc] using h0)
  have h2 : SameL (jTree (geoJ f ps)) (((paramsL rGeoDistance ps).filter fun p => !hasS geoOut p.1) ++ [(f, ptT ps)]) := by
    rw [geo_params]
    simpa only [chs, flatC, List.map_cons, List.map_nil, List.flatMap_cons, List.flatMap_nil, List.append_nil, List.append_assoc, List.cons_append, List.nil_append] using h1
  intro k
  rw [lastOf_again (geo_last hf ps) k]
  exact h2 k
theorem geo_kind (ps : List (ByteArray × T)) : (treeJ (jGeo ps)).kind ≠ 4 := by
  unfold jGeo
  split
  · rw [treeJ_jMap]
    obtain ⟨m, h1, -⟩ := mapT_told ([(s_lat, J.num (foldG ps).1.num), (s_lon, J.num (foldG ps).2.num)].map fun p => (p.1, treeJ p.2))
    rw [h1]
    simp [mapOf, T.kind]
  · simp [treeJ, textT, T.kind]
theorem geo_len (f : ByteArray) (ps : List (ByteArray × T)) : (jTree (geoJ f ps)).length ≤ 65536 := by
  have h1 := jT_len s_distance (lastOf ps s_distance)
  have h2 := jT_len s_distance_type (lastOf ps s_distance_type)
  have h3 := jT_len s_name (lastOf ps s_name)
  unfold geoJ
  rw [jPt_geo]
  simp only [jTree, List.length_map, List.length_append, List.length_cons, List.length_nil]
  omega
theorem geo_scalars {ps : List (ByteArray × T)} (hF : FitsX rGeoDistance ps) : ∀ p ∈ paramsL rGeoDistance ps, scalarT p.2 = true := fun p hp => by
  unfold paramsL at hp
  obtain ⟨r, hr0, hr⟩ := List.mem_filterMap.1 hp
  unfold param at hr
  split at hr
  · rename_i hpl
    cases hl : lastOf ps r.1 with
    | none => rw [hl] at hr; cases hr
    | some t =>
      rw [hl] at hr
      cases hr
      have h := fitsX_mem hF (lastOf_mem hl)
      have hk : kindL rGeoDistance r.1 = r.2 := by
        simp only [List.mem_cons, List.not_mem_nil, or_false] at hr0
        rcases hr0 with rfl | rfl | rfl | rfl | rfl | rfl | rfl <;> (rw [kindL_dec]; decide)
      dsimp only at h
      rw [hk] at h
      refine (fitX_plain h (fun e => ?_) (fun e => ?_)).1
      · rw [e, hasS_dec] at hpl
        exact absurd hpl (by decide)
      · rw [e, hasS_dec] at hpl
        exact absurd hpl (by decide)
  · cases hr
set_option maxHeartbeats 4000000 in
theorem geoDistance_law {S : Nat → Prop} (f : ByteArray) (a : Option Addr) (n c : Nat) (ps : List (ByteArray × T)) (w : World) (h : PairsAt S w a n c ps) : Calls Try.prog 5 #[.string f, .slice a n c] w fun r w' => r = .returned (.bool true) ∧ Ext w w' := by
  have hPs := Lib.hid fun w' (x : Ext w w') => (h.keep (S' := fun _ => True) (fun _ _ _ => trivial) (fun _ _ _ => rfl)).ext x
  have hF := Lib.hid fun w' (x : Ext w w') => fits_gen FitX sGeoDistance rGeoDistance a n c ps w' rows_geoDistance (fun name e t w h => fit_atX _ e t w (kindL_memX (by simp [plainK]) name) h) (h.ext x)
  have hD := Lib.hid fun w' (x : Ext w w') => distanceFits_any a n c ps w' (h.ext x)
  have hQ := Lib.hid fun w' (x : Ext w w') (hf : f.size ≤ maxLen) => geoDistance_any a n c ps w' f hf (h.ext x)
  clear h
  go_enter Try.func5, Try.ntmps5
  by_cases hsz0 : 2147483647 < f.size
  · go_wp2_with fail
    all_goals (go_ret; exact ⟨rfl, by (repeat (first | exact ext_refl _ | assumption | refine ext_alloc ?_ _ | refine ext_drew ?_ | refine ext_set ?_ (by simp) _ | refine ext_trans ?_ (by assumption)))⟩)
  by_cases hsz1 : 2147483647 < n
  · go_wp2_with fail
    all_goals (go_ret; exact ⟨rfl, by (repeat (first | exact ext_refl _ | assumption | refine ext_alloc ?_ _ | refine ext_drew ?_ | refine ext_set ?_ (by simp) _ | refine ext_trans ?_ (by assumption)))⟩)
  go_wp2_with (first
    | (go_at_call 21; refine (hD.out _ (by (repeat (first | exact ext_refl _ | assumption | refine ext_alloc ?_ _ | refine ext_drew ?_ | refine ext_set ?_ (by simp) _ | refine ext_trans ?_ (by assumption))))).mono ?_; rintro r wds ⟨bds, rfl, hds, hxds⟩; clear hds; cases bds)
    | (go_at_call 10; refine (field_any f (by omega) _).mono ?_; rintro r wfd ⟨bfd, rfl, hfd, hxfd⟩; have Hfd := Lib.hid hfd; clear hfd; cases bfd)
    | (go_at_call 11; refine (hF.out _ (by (repeat (first | exact ext_refl _ | assumption | refine ext_alloc ?_ _ | refine ext_drew ?_ | refine ext_set ?_ (by simp) _ | refine ext_trans ?_ (by assumption))))).mono ?_; rintro r wff ⟨bff, rfl, hff, hxff⟩; have Hff := Lib.hid hff; clear hff; cases bff)
    | fail)
  all_goals (try (go_ret; exact ⟨rfl, by (repeat (first | exact ext_refl _ | assumption | refine ext_alloc ?_ _ | refine ext_drew ?_ | refine ext_set ?_ (by simp) _ | refine ext_trans ?_ (by assumption)))⟩))
  have hff : FitsX rGeoDistance ps := Hff.out (by trivial)
  have hfd := Hfd.out (by trivial)
  have hfit := Lib.hid (geo_same hfd hff)
  have hPP := Lib.hid (fun p (hp : p ∈ ps) (e : seq p.1 s_point = true) => fitX_pair (by
    have h9 := fitsX_mem hff hp
    rw [seq_iff.1 e, show kindL rGeoDistance s_point = ⟨#[112]⟩ by rw [kindL_dec]; decide] at h9
    exact h9))
  have HSC := Lib.hid (geo_scalars hff)
  have hx1 : Ext w wff := by (repeat (first | exact ext_refl _ | assumption | refine ext_alloc ?_ _ | refine ext_drew ?_ | refine ext_set ?_ (by simp) _ | refine ext_trans ?_ (by assumption)))
  refine (hQ.out wff hx1 (by unfold maxLen; omega)).mono ?_
  rintro r w3 ⟨e, rfl, hT, hx3⟩
  simp only [El.val]
  rw [jMap_tree] at hT
  have hb3 : Box (w3.alloc (.cells e.arr 30)) w3.heap.size e.arr 30 := Box.at rfl _ _
  obtain ⟨o0, o1, o2, o3, o4, o5⟩ := hb3.six
  have hx4 : Ext w (w3.alloc (.cells e.arr 30)) := ext_alloc (ext_trans hx1 hx3) _
  have hRP := Lib.hid (readDistance_any (S := fun _ => True) f (jTree (geoJ f ps)) (treeJ (jGeo ps)) e _ ((hT.ext (ext_alloc (ext_refl w3) (.cells e.arr 30))).any) (geo_last hfd ps) (geo_kind ps) (geo_len f ps))
  clear hQ hT hF hD hff hfd
  go_wp2_with (first
    | (go_at_call 23; refine hRP.out.mono ?_; rintro r w4 ⟨g4, rfl, hT4, hx5⟩; simp only [El.val]; have hx6 := ext_trans hx4 hx5; clear hRP)
    | (go_at_call 24; refine (geoS_any (S := fun _ => True) f a n c ps _ (hPs.out _ hx6) hPP.out HSC.out).mono ?_; rintro r w5 ⟨g5, rfl, hT5, hx7⟩; simp only [El.val]; have hSm := Lib.hid (same_any (S := fun _ => True) _ _ g4 g5 _ ((hT4.ext hx7).any) hT5.any))
    | (go_at_call 13; refine hSm.out.mono ?_; rintro r w8 ⟨rfl, hx12⟩; rw [hfit.out])
    | fail)
  go_ret
  exact ⟨rfl, ext_trans (ext_trans hx6 hx7) hx12⟩
end Go.Proofs.Ytdjojnlejkljdaa
