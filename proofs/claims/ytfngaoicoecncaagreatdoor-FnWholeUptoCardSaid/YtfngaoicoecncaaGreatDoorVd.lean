/-
  Trees with small letters under operators, as plain functions; queries of a field.
-/
import Derived.Test.YtfngaoicoecncaaGreatDoorLx
import Derived.Test.YtfngaoicoecncaaGreatDoorZz
import Derived.Lib.Strings
namespace Go.Proofs.YtfngaoicoecncaaGreatDoor
open Go.RowKit

/-- A key under which letters are made small. -/
def opKey (k : ByteArray) : Bool := Lib.hasSuffix k.data.toList [111, 112, 101, 114, 97, 116, 111, 114] || seq k ⟨#[109, 111, 100, 105, 102, 105, 101, 114]⟩
def lowT (lw : ByteArray → ByteArray) (k : ByteArray) (t : T) : T := if opKey k = true ∧ t.kind = 1 then textT (lw t.text) else t
mutual
def foldT (lw : ByteArray → ByteArray) : T → T
  | .mk k x d y ks xs => if k = 5 then mapT (foldK lw xs ks) else .mk k x d y ks xs
def foldK (lw : ByteArray → ByteArray) : List T → List ByteArray → List (ByteArray × T)
  | [], _ => []
  | _ :: _, [] => []
  | t :: ts, k :: ks => (k, lowT lw k (foldT lw t)) :: foldK lw ts ks
end
mutual
/-- The texts that are made small. -/
def opTexts : T → List ByteArray
  | .mk k _ _ _ ks xs => if k = 5 then opTextss xs ks else []
def opTextss : List T → List ByteArray → List ByteArray
  | [], _ => []
  | _ :: _, [] => []
  | t :: ts, k :: ks => (if opKey k = true ∧ t.kind = 1 then [t.text] else []) ++ opTexts t ++ opTextss ts ks
end
mutual
/-- Maps of at most 65536 keys. -/
def okF : T → Prop
  | .mk k _ _ _ ks xs => k = 5 → ks.length ≤ 65536 ∧ ks.length = xs.length ∧ (∀ s ∈ ks, s.size ≤ 2147483647) ∧ okFs xs
def okFs : List T → Prop
  | [] => True
  | t :: ts => okF t ∧ okFs ts
end
theorem okFs_all : ∀ (l : List T), okFs l ↔ ∀ t ∈ l, okF t
  | [] => by simp [okFs]
  | t :: ts => by simp [okFs, okFs_all ts]
theorem foldT_id (lw : ByteArray → ByteArray) {t : T} (h : t.kind ≠ 5) : foldT lw t = t := by
  obtain ⟨k, x, d, y, ks, xs⟩ := t
  simp only [T.kind] at h
  simp only [foldT, if_neg h]
theorem foldT_kind (lw : ByteArray → ByteArray) (t : T) : (foldT lw t).kind = t.kind := by
  obtain ⟨k, x, d, y, ks, xs⟩ := t
  by_cases h : k = 5
  · subst h
    simp only [foldT, if_pos]
    exact mapT_kind _
  · simp only [foldT, if_neg h]
theorem okF_id {t : T} (h : t.kind ≠ 5) : okF t := by
  obtain ⟨k, x, d, y, ks, xs⟩ := t
  simp only [T.kind] at h
  simp only [okF]
  exact fun e => absurd e h
theorem opTexts_id {t : T} (h : t.kind ≠ 5) : opTexts t = [] := by
  obtain ⟨k, x, d, y, ks, xs⟩ := t
  simp only [T.kind] at h
  simp [opTexts, h]
abbrev foldP (lw : ByteArray → ByteArray) (p : ByteArray × T) : ByteArray × T := (p.1, lowT lw p.1 (foldT lw p.2))
theorem foldK_map (lw : ByteArray → ByteArray) : ∀ l : List (ByteArray × T), foldK lw (l.map Prod.snd) (l.map Prod.fst) = l.map (foldP lw)
  | [] => rfl
  | p :: r => by simp [foldK, foldK_map lw r]
theorem opTextss_map : ∀ l : List (ByteArray × T), opTextss (l.map Prod.snd) (l.map Prod.fst) = l.flatMap fun p => (if opKey p.1 = true ∧ p.2.kind = 1 then [p.2.text] else []) ++ opTexts p.2
  | [] => rfl
  | p :: r => by simp [opTextss, opTextss_map r]
theorem opTextss_get {s : ByteArray} : ∀ (xs : List T) (ks : List ByteArray) (j : Nat) (t : T) (k : ByteArray), xs[j]? = some t → ks[j]? = some k → ((opKey k = true ∧ t.kind = 1 ∧ s = t.text) ∨ s ∈ opTexts t) → s ∈ opTextss xs ks
  | [], _, _, _, _, h, _, _ => by simp at h
  | _ :: _, [], _, _, _, _, h, _ => by simp at h
  | t :: ts, k :: ks, 0, t', k', h, h', hs => by
    simp at h h'
    subst h h'
    simp only [opTextss, List.mem_append]
    rcases hs with ⟨h1, h2, rfl⟩ | hs
    · exact .inl (.inl (by rw [if_pos ⟨h1, h2⟩]; simp))
    · exact .inl (.inr hs)
  | t :: ts, k :: ks, j + 1, t', k', h, h', hs => by
    simp only [opTextss, List.mem_append]
    exact .inr (opTextss_get ts ks j t' k' (by simpa using h) (by simpa using h') hs)
theorem foldK_get (lw : ByteArray → ByteArray) : ∀ (xs : List T) (ks : List ByteArray) (j : Nat) (t : T) (k : ByteArray), xs[j]? = some t → ks[j]? = some k → (foldK lw xs ks)[j]? = some (k, lowT lw k (foldT lw t))
  | [], _, _, _, _, h, _ => by simp at h
  | _ :: _, [], _, _, _, _, h => by simp at h
  | t :: ts, k :: ks, 0, t', k', h, h' => by
    simp at h h'
    subst h h'
    simp [foldK]
  | t :: ts, k :: ks, j + 1, t', k', h, h' => by
    simp only [foldK, List.getElem?_cons_succ]
    exact foldK_get lw ts ks j t' k' (by simpa using h) (by simpa using h')
theorem foldK_len (lw : ByteArray → ByteArray) : ∀ (xs : List T) (ks : List ByteArray), ks.length = xs.length → (foldK lw xs ks).length = ks.length
  | [], [], _ => rfl
  | [], _ :: _, h => by simp at h
  | _ :: _, [], h => by simp at h
  | t :: ts, k :: ks, h => by simp [foldK, foldK_len lw ts ks (by simpa using h)]
theorem lastOf_mapk {α β : Type} (f : ByteArray → α → β) (ps : List (ByteArray × α)) (k : ByteArray) : lastOf (ps.map fun p => (p.1, f p.1 p.2)) k = (lastOf ps k).map (f k) := by
  induction ps with
  | nil => rfl
  | cons p r ih =>
    rw [List.map_cons, lastOf_cons, lastOf_cons, ih]
    cases hs : seq p.1 k
    · cases lastOf r k <;> simp
    · have := seq_iff.1 hs
      subst this
      cases lastOf r p.1 <;> simp
theorem foldT_map (lw : ByteArray → ByteArray) (ps : List (ByteArray × T)) : foldT lw (mapT ps) = mapT (ps.map (foldP lw)) := by
  obtain ⟨l, h1, h2, h3⟩ := mapT_told ps
  rw [h1]
  unfold mapOf
  simp only [foldT, if_pos]
  rw [foldK_map]
  exact mapT_congr fun k => by rw [lastOf_mapk (fun k t => lowT lw k (foldT lw t)), lastOf_mapk (fun k t => lowT lw k (foldT lw t)), h3]
theorem mem_told {ps l : List (ByteArray × T)} (h2 : Rising l) (h3 : ∀ k, lastOf l k = lastOf ps k) {p : ByteArray × T} (hp : p ∈ l) : p ∈ ps := by
  have := (rising_mem h2).1 (show (p.1, p.2) ∈ l from hp)
  rw [h3] at this
  exact lastOf_mem this
theorem opTexts_map {ps : List (ByteArray × T)} {s : ByteArray} (h : s ∈ opTexts (mapT ps)) : ∃ p ∈ ps, (opKey p.1 = true ∧ p.2.kind = 1 ∧ s = p.2.text) ∨ s ∈ opTexts p.2 := by
  obtain ⟨l, h1, h2, h3⟩ := mapT_told ps
  rw [h1] at h
  unfold mapOf at h
  simp only [opTexts, if_pos] at h
  rw [opTextss_map, List.mem_flatMap] at h
  obtain ⟨p, hp, hs⟩ := h
  refine ⟨p, mem_told h2 h3 hp, ?_⟩
  rcases List.mem_append.1 hs with hs | hs
  · by_cases hc : opKey p.1 = true ∧ p.2.kind = 1
    · rw [if_pos hc] at hs
      exact .inl ⟨hc.1, hc.2, by simpa using hs⟩
    · rw [if_neg hc] at hs
      simp at hs
  · exact .inr hs
theorem okF_map {ps : List (ByteArray × T)} (h : ∀ p ∈ ps, p.1.size ≤ 2147483647 ∧ okF p.2) (hl : ps.length ≤ 65536) : okF (mapT ps) := by
  have hle := mapT_len ps
  obtain ⟨l, h1, h2, h3⟩ := mapT_told ps
  rw [h1] at hle ⊢
  unfold mapOf at hle ⊢
  simp only [T.keys, T.kids] at hle
  simp only [okF]
  refine fun _ => ⟨by omega, by omega, fun s hs => ?_, (okFs_all _).2 fun t ht => ?_⟩
  · obtain ⟨p, hp, rfl⟩ := List.mem_map.1 hs
    exact (h p (mem_told h2 h3 hp)).1
  · obtain ⟨p, hp, rfl⟩ := List.mem_map.1 ht
    exact (h p (mem_told h2 h3 hp)).2
/-- A list of pairs in which nothing is made small and nothing is a map. -/
def Flat (ps : List (ByteArray × T)) : Prop := ∀ p ∈ ps, opKey p.1 = false ∧ p.2.kind ≠ 5
theorem foldP_flat (lw : ByteArray → ByteArray) {ps : List (ByteArray × T)} (h : Flat ps) : ps.map (foldP lw) = ps := by
  induction ps with
  | nil => rfl
  | cons p r ih =>
    obtain ⟨h1, h2⟩ := h p (by simp)
    rw [List.map_cons, ih fun q hq => h q (by simp [hq])]
    congr 1
    obtain ⟨k, t⟩ := p
    simp only [foldP] at h1 h2 ⊢
    rw [foldT_id lw h2]
    unfold lowT
    rw [h1]
    simp
/-- What is read of a query of a field. -/
def readV (lw : ByteArray → ByteArray) (kind field : ByteArray) (ps : List (ByteArray × T)) : T := foldT lw (mapT [(kind, mapT [(field, mapT ps)])])
theorem low_map (lw : ByteArray → ByteArray) (k : ByteArray) (ps : List (ByteArray × T)) : lowT lw k (mapT ps) = mapT ps := by
  unfold lowT
  rw [mapT_kind]
  simp
theorem readV_eq (lw : ByteArray → ByteArray) (kind field : ByteArray) (ps : List (ByteArray × T)) : readV lw kind field ps = mapT [(kind, mapT [(field, mapT (ps.map (foldP lw)))])] := by
  unfold readV
  rw [foldT_map]
  simp only [List.map_cons, List.map_nil, foldP]
  rw [foldT_map, low_map]
  simp only [List.map_cons, List.map_nil, foldP]
  rw [foldT_map, low_map]
theorem readV_okF (kind field : ByteArray) (hk : kind.size ≤ 2147483647) (hf : field.size ≤ 2147483647) {ps : List (ByteArray × T)} (h : ∀ p ∈ ps, p.1.size ≤ 2147483647 ∧ okF p.2) (hl : ps.length ≤ 65536) : okF (mapT [(kind, mapT [(field, mapT ps)])]) :=
  okF_map (fun p hp => by
    simp at hp
    subst hp
    exact ⟨hk, okF_map (fun p hp => by
      simp at hp
      subst hp
      exact ⟨hf, okF_map (fun p hp => h p hp) hl⟩) (by simp)⟩) (by simp)
theorem readV_ok (kind field : ByteArray) (hk : kind.size ≤ 2147483647) (hf : field.size ≤ 2147483647) {ps : List (ByteArray × T)} (h : ∀ p ∈ ps, p.1.size ≤ 2147483647 ∧ p.2.kind ≠ 5) (hl : ps.length ≤ 65536) : okF (mapT [(kind, mapT [(field, mapT ps)])]) :=
  readV_okF kind field hk hf (fun p hp => ⟨(h p hp).1, okF_id (h p hp).2⟩) hl
theorem readV_textsF (kind field : ByteArray) {ps : List (ByteArray × T)} (h : ∀ p ∈ ps, opTexts p.2 = []) {s : ByteArray} (hs : s ∈ opTexts (mapT [(kind, mapT [(field, mapT ps)])])) : ∃ p ∈ ps, opKey p.1 = true ∧ p.2.kind = 1 ∧ s = p.2.text := by
  obtain ⟨p, hp, hs⟩ := opTexts_map hs
  simp at hp
  subst hp
  rcases hs with ⟨-, h1, -⟩ | hs
  · simp [mapT_kind] at h1
  obtain ⟨p, hp, hs⟩ := opTexts_map hs
  simp at hp
  subst hp
  rcases hs with ⟨-, h1, -⟩ | hs
  · simp [mapT_kind] at h1
  obtain ⟨p, hp, hs⟩ := opTexts_map hs
  rcases hs with hs | hs
  · exact ⟨p, hp, hs⟩
  · rw [h p hp] at hs
    simp at hs
theorem readV_texts (kind field : ByteArray) {ps : List (ByteArray × T)} (h : ∀ p ∈ ps, p.2.kind ≠ 5) {s : ByteArray} (hs : s ∈ opTexts (mapT [(kind, mapT [(field, mapT ps)])])) : ∃ p ∈ ps, opKey p.1 = true ∧ p.2.kind = 1 ∧ s = p.2.text :=
  readV_textsF kind field (fun p hp => opTexts_id (h p hp)) hs
theorem readV_no (kind field : ByteArray) {ps : List (ByteArray × T)} (h : Flat ps) : ∀ s ∈ opTexts (mapT [(kind, mapT [(field, mapT ps)])]), False := fun s hs => by
  obtain ⟨p, hp, h1, -⟩ := readV_texts kind field (fun p hp => (h p hp).2) hs
  rw [(h p hp).1] at h1
  cases h1
theorem kind_same {a b : T} (h : sameT a b = true) : a.kind = b.kind := by
  obtain ⟨k, x, d, y, ks, xs⟩ := a
  obtain ⟨k', x', d', y', ks', xs'⟩ := b
  unfold sameT at h
  split at h
  · assumption
  · cases h
theorem SameL.fold (lw : ByteArray → ByteArray) {a b : List (ByteArray × T)} (h : SameL a b) (ha : ∀ p ∈ a, p.2.kind ≠ 5) : SameL (a.map (foldP lw)) (b.map (foldP lw)) := fun x => by
  have hx := h x
  rw [lastOf_mapk (fun k t => lowT lw k (foldT lw t)), lastOf_mapk (fun k t => lowT lw k (foldT lw t))]
  cases hu : lastOf a x with
  | none => cases hv : lastOf b x with
    | none => simp [OptSame]
    | some v => rw [hu, hv] at hx; simp [OptSame] at hx
  | some u => cases hv : lastOf b x with
    | none => rw [hu, hv] at hx; simp [OptSame] at hx
    | some v =>
      rw [hu, hv] at hx
      have hs : sameT u v = true := hx
      have hk := kind_same hs
      have hu5 : u.kind ≠ 5 := ha _ (lastOf_mem hu)
      have hv5 : v.kind ≠ 5 := by rw [← hk]; exact hu5
      show sameT (lowT lw x (foldT lw u)) (lowT lw x (foldT lw v)) = true
      rw [foldT_id lw hu5, foldT_id lw hv5]
      unfold lowT
      by_cases hc : opKey x = true ∧ u.kind = 1
      · rw [if_pos hc, if_pos ⟨hc.1, hk ▸ hc.2⟩]
        obtain ⟨k, t, d, y, ks, xs⟩ := u
        obtain ⟨k', t', d', y', ks', xs'⟩ := v
        simp only [T.kind] at hc hk
        obtain ⟨-, hc⟩ := hc
        subst hc
        subst hk
        have ht : seq t t' = true := by
          unfold sameT at hs
          simp only [if_true] at hs
          split at hs
          · split at hs
            · exact hs
            · cases hs
          · cases hs
        rw [seq_iff.1 ht]
        simp [textT, sameT, T.text, seq_self]
      · rw [if_neg hc, if_neg (by rw [← hk]; exact hc)]
        exact hs
theorem SameL.foldF (lw : ByteArray → ByteArray) {a b : List (ByteArray × T)} (h : SameL a b) (ha : ∀ p ∈ a, foldT lw p.2 = p.2) (hb : ∀ p ∈ b, foldT lw p.2 = p.2) : SameL (a.map (foldP lw)) (b.map (foldP lw)) := fun x => by
  have hx := h x
  rw [lastOf_mapk (fun k t => lowT lw k (foldT lw t)), lastOf_mapk (fun k t => lowT lw k (foldT lw t))]
  cases hu : lastOf a x with
  | none => cases hv : lastOf b x with
    | none => simp [OptSame]
    | some v => rw [hu, hv] at hx; simp [OptSame] at hx
  | some u => cases hv : lastOf b x with
    | none => rw [hu, hv] at hx; simp [OptSame] at hx
    | some v =>
      rw [hu, hv] at hx
      have hs : sameT u v = true := hx
      have hk := kind_same hs
      have hu5 : foldT lw u = u := ha _ (lastOf_mem hu)
      have hv5 : foldT lw v = v := hb _ (lastOf_mem hv)
      show sameT (lowT lw x (foldT lw u)) (lowT lw x (foldT lw v)) = true
      rw [hu5, hv5]
      unfold lowT
      by_cases hc : opKey x = true ∧ u.kind = 1
      · rw [if_pos hc, if_pos ⟨hc.1, hk ▸ hc.2⟩]
        obtain ⟨k, t, d, y, ks, xs⟩ := u
        obtain ⟨k', t', d', y', ks', xs'⟩ := v
        simp only [T.kind] at hc hk
        obtain ⟨-, hc⟩ := hc
        subst hc
        subst hk
        have ht : seq t t' = true := by
          unfold sameT at hs
          simp only [if_true] at hs
          split at hs
          · split at hs
            · exact hs
            · cases hs
          · cases hs
        rw [seq_iff.1 ht]
        simp [textT, sameT, T.text, seq_self]
      · rw [if_neg hc, if_neg (by rw [← hk]; exact hc)]
        exact hs
theorem readV_same (lw : ByteArray → ByteArray) (kind field : ByteArray) {a b : List (ByteArray × T)} (h : SameL (a.map (foldP lw)) (b.map (foldP lw))) : sameT (readV lw kind field a) (readV lw kind field b) = true := by
  rw [readV_eq, readV_eq]
  exact same_one _ (same_one _ (sameT_map h))
theorem readV_flat (lw : ByteArray → ByteArray) (kind field : ByteArray) {a b : List (ByteArray × T)} (hf : Flat a) (h : SameL a b) : sameT (readV lw kind field a) (mapT [(kind, mapT [(field, mapT b)])]) = true := by
  rw [readV_eq, foldP_flat lw hf]
  exact same_one _ (same_one _ (sameT_map h))
theorem Flat.append {a b : List (ByteArray × T)} (h : Flat a) (k : Flat b) : Flat (a ++ b) := fun p hp => by
  rcases List.mem_append.1 hp with hp | hp
  · exact h p hp
  · exact k p hp
/-- No map among the values. -/
def NoMap (l : List (ByteArray × J)) : Prop := ∀ p ∈ jTree l, p.2.kind ≠ 5
theorem NoMap.append {a b : List (ByteArray × J)} (h : NoMap a) (k : NoMap b) : NoMap (a ++ b) := fun p hp => by
  unfold jTree at hp
  rw [List.map_append] at hp
  rcases List.mem_append.1 hp with hp | hp
  · exact h p hp
  · exact k p hp
theorem jOf_flat (t : T) : (treeJ (jOf t)).kind ≠ 5 := by
  unfold jOf
  split
  · simp [treeJ, textT, T.kind]
  · split <;> simp [treeJ, numT, yesT, T.kind]
theorem noMap_T (k : ByteArray) (o : Option T) : NoMap (jT k o) := fun p hp => by
  unfold jT at hp
  split at hp
  · simp at hp
  · simp at hp; subst hp; simp [treeJ, textT, T.kind]
theorem noMap_N (k : ByteArray) (o : Option T) : NoMap (jN k o) := fun p hp => by
  cases o with
  | none => simp [jN] at hp
  | some t => simp [jN, treeJ, numT] at hp; subst hp; simp [T.kind]
theorem noMap_Y (k : ByteArray) (o : Option T) : NoMap (jY k o) := fun p hp => by
  cases o with
  | none => simp [jY] at hp
  | some t => simp [jY, treeJ, yesT] at hp; subst hp; simp [T.kind]
theorem noMap_W (k : ByteArray) (o : Option T) : NoMap (jW k o) := fun p hp => by
  cases o with
  | none => simp [jW] at hp
  | some t =>
    unfold jW at hp
    dsimp only at hp
    split at hp
    · simp [treeJ, numT] at hp; subst hp; simp [T.kind]
    · simp at hp
theorem noMap_V (k : ByteArray) (o : Option T) : NoMap (jV k o) := fun p hp => by
  cases o with
  | none => simp [jV] at hp
  | some t => simp [jV] at hp; subst hp; exact jOf_flat t
theorem noMap_J (k : ByteArray) (j : J) (h : (treeJ j).kind ≠ 5) : NoMap [(k, j)] := fun p hp => by simp at hp; subst hp; exact h
theorem noMap_str (k s : ByteArray) : NoMap [(k, .str s)] := noMap_J k _ (by simp [treeJ, textT, T.kind])
theorem scalar_flat {t : T} (h : scalarT t = true) : t.kind ≠ 5 := by
  rcases scalar_kind h with h | h | h <;> omega
theorem params_flat {rs : List (ByteArray × ByteArray)} {ps : List (ByteArray × T)} (hF : FitsP rs ps) : ∀ p ∈ paramsL rs ps, p.2.kind ≠ 5 := fun p hp => by
  unfold paramsL at hp
  rw [List.mem_filterMap] at hp
  obtain ⟨r, -, hr⟩ := hp
  unfold param at hr
  split at hr
  · cases ho : lastOf ps r.1 with
    | none => rw [ho] at hr; cases hr
    | some t =>
      rw [ho] at hr
      simp at hr
      subst hr
      exact scalar_flat (fits_last hF ho).1
  · cases hr
def opKeyB (k : ByteArray) : Bool := List.isSuffixOf [111, 112, 101, 114, 97, 116, 111, 114] k.data.toList || decide (k = ⟨#[109, 111, 100, 105, 102, 105, 101, 114]⟩)
theorem opKey_eq (k : ByteArray) : opKey k = opKeyB k := by
  unfold opKey opKeyB
  congr 1
  by_cases h : k = ⟨#[109, 111, 100, 105, 102, 105, 101, 114]⟩
  · rw [seq_iff.2 h, decide_eq_true h]
  · rw [seq_false.2 h, decide_eq_false h]
theorem flat_of {l : List (ByteArray × T)} {L : List ByteArray} (hn : ∀ p ∈ l, p.2.kind ≠ 5) (hk : KeysIn l L) (ho : (L.all fun k => !opKeyB k) = true) : Flat l := fun p hp =>
  ⟨by
    have := List.all_eq_true.1 ho _ (hk p hp)
    rw [opKey_eq]
    simpa using this, hn p hp⟩
theorem KeysIn.no {α : Type} {l : List (ByteArray × α)} {L : List ByteArray} (h : KeysIn l L) {x : ByteArray} (hx : (L.all fun y => !decide (y = x)) = true) : lastOf l x = Option.none := h.none fun hm => by
  have := List.all_eq_true.1 hx x hm
  simp at this
theorem keys_size {l : List (ByteArray × T)} {L : List ByteArray} (hk : KeysIn l L) (ho : (L.all fun k => decide (k.size ≤ 2147483647)) = true) : ∀ p ∈ l, p.1.size ≤ 2147483647 := fun p hp => of_decide_eq_true (List.all_eq_true.1 ho _ (hk p hp))
theorem params_keys (rs : List (ByteArray × ByteArray)) (ps : List (ByteArray × T)) : KeysIn (paramsL rs ps) (rs.map Prod.fst) := fun p hp => by
  unfold paramsL at hp
  rw [List.mem_filterMap] at hp
  obtain ⟨r, hm, hr⟩ := hp
  unfold param at hr
  split at hr
  · cases ho : lastOf ps r.1 with
    | none => rw [ho] at hr; cases hr
    | some t =>
      rw [ho] at hr
      simp at hr
      subst hr
      exact List.mem_map.2 ⟨r, hm, rfl⟩
  · cases hr
theorem jT_nil (k : ByteArray) : jT k none = [] := by simp [jT, fT]
theorem fits_none {rs : List (ByteArray × ByteArray)} {ps : List (ByteArray × T)} (hF : FitsP rs ps) {k : ByteArray} (hk : kindL rs k = emptyS) : lastOf ps k = none := by
  cases ho : lastOf ps k with
  | none => rfl
  | some t =>
    have hf := fits_last hF ho
    rw [hk] at hf
    obtain ⟨-, h | h | h | h | h⟩ := hf <;> first | exact absurd h.1 (by decide) | exact absurd h (by decide)
theorem jMap_treeV (k f : ByteArray) (v : J) : treeJ (jMap [(k, jMap [(f, v)])]) = mapT [(k, mapT [(f, treeJ v)])] := by
  rw [treeJ_jMap, List.map_cons, List.map_nil, treeJ_jMap, List.map_cons, List.map_nil]
/-- What stands in a field: a single value under the main name, or pairs. -/
def FieldOwn (main : ByteArray) (o : T) (A : List (ByteArray × T)) : Prop := (o.kind ≠ 5 ∧ A = [(main, o)]) ∨ o = mapT A
theorem short_own {main : ByteArray} {v : J} {opts : List (ByteArray × J)} (hv : (treeJ v).kind ≠ 5) : FieldOwn main (treeJ (jShort v [(main, v)] opts)) (jTree ([(main, v)] ++ opts)) := by
  by_cases h : opts = []
  · subst h
    exact .inl ⟨by simpa [jShort] using hv, by simp [jShort]⟩
  · rw [jShort_some h]
    exact .inr (treeJ_jMap _)
theorem map_own (main : ByteArray) (l : List (ByteArray × J)) : FieldOwn main (treeJ (jMap l)) (jTree l) := .inr (treeJ_jMap _)
theorem field_ne {f k : ByteArray} (h : FieldP f) (hk : (decide (k.data.toList[0]? = some 95) || (fieldNames.any fun y => decide (y = k))) = true) : f ≠ k := fun e => by
  subst e
  rw [Bool.or_eq_true] at hk
  rcases hk with hk | hk
  · have := h.1 95 (of_decide_eq_true hk)
    exact this rfl
  · obtain ⟨y, hy, hk⟩ := List.any_eq_true.1 hk
    have h1 := of_decide_eq_true hk
    subst h1
    have h2 := h.2
    unfold hasS at h2
    rw [List.any_eq_false] at h2
    exact h2 _ hy (seq_self _)
end Go.Proofs.YtfngaoicoecncaaGreatDoor
