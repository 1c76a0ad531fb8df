/-
  More on the fields of builders: values of any kind, whole numbers, lists.
-/
import Derived.Test.YtdjojnlejkljdaaGreatP4
import Derived.Test.YtdjojnlejkljdaaGreatW4
import Derived.Test.YtdjojnlejkljdaaGreatQ
import Derived.Laws.AppendOwnNone
namespace Go.Proofs.YtdjojnlejkljdaaGreat
open Go.RowKit

mutual
def okT : T → Bool
  | .mk k _ d _ _ xs => decide (k ≠ 6) && (!decide (k = 2) || finiteB d) && okTs xs
def okTs : List T → Bool
  | [] => true
  | t :: r => okT t && okTs r
end
theorem okTs_iff : ∀ l : List T, okTs l = true ↔ ∀ t ∈ l, okT t = true
  | [] => by simp [okTs]
  | t :: r => by simp [okTs, okTs_iff r]
theorem seqs_self : ∀ l : List ByteArray, seqs l l = true
  | [] => rfl
  | a :: r => by
    have := seqs_self r
    unfold seqs at this ⊢
    simp only [List.zip_cons_cons, List.all_cons, seq_self, Bool.true_and]
    exact this
mutual
theorem sameT_self : ∀ t : T, okT t = true → sameT t t = true
  | .mk k x d y ks xs, h => by
    simp only [okT, Bool.and_eq_true, Bool.or_eq_true, decide_eq_true_eq, Bool.not_eq_true', decide_eq_false_iff_not] at h
    obtain ⟨⟨h1, h2⟩, h3⟩ := h
    unfold sameT
    simp only [if_true]
    split
    · exact seq_self x
    · split
      · rcases h2 with h2 | h2
        · contradiction
        · simp [orderB2, order_self h2]
      · split
        · simp
        · simp [seqs_self, samesT_self xs h3]
theorem samesT_self : ∀ l : List T, okTs l = true → samesT l l = true
  | [], _ => by simp [samesT]
  | t :: r, h => by
    simp only [okTs, Bool.and_eq_true] at h
    simp [samesT, sameT_self t h.1, samesT_self r h.2]
end
theorem okT_map {ps : List (ByteArray × T)} (h : ∀ p ∈ ps, okT p.2 = true) : okT (mapT ps) = true := by
  obtain ⟨l, h1, h2, h3⟩ := mapT_told ps
  rw [h1]
  unfold mapOf
  simp only [okT, Bool.and_eq_true, Bool.or_eq_true, decide_eq_true_eq, Bool.not_eq_true', decide_eq_false_iff_not]
  refine ⟨⟨by decide, .inl (by decide)⟩, (okTs_iff _).2 fun t ht => ?_⟩
  obtain ⟨p, hp, rfl⟩ := List.mem_map.1 ht
  exact h _ (lastOf_mem (by rw [← h3]; exact (rising_mem h2).1 hp))
theorem okT_text (s : ByteArray) : okT (textT s) = true := by simp [textT, okT, okTs]
theorem okT_yes (b : Bool) : okT (yesT b) = true := by simp [yesT, okT, okTs]
theorem okT_num {x : Nat} (h : finiteB x = true) : okT (numT x) = true := by simp [numT, okT, okTs, h]
theorem okT_list {l : List T} (h : ∀ t ∈ l, okT t = true) : okT (listT l) = true := by
  simp only [listT, okT, Bool.and_eq_true, Bool.or_eq_true, decide_eq_true_eq, Bool.not_eq_true', decide_eq_false_iff_not]
  exact ⟨⟨by decide, .inl (by decide)⟩, (okTs_iff l).2 h⟩
end Go.Proofs.YtdjojnlejkljdaaGreat

namespace Go.Proofs.YtdjojnlejkljdaaGreat
open Go.RowKit

def OptSame : Option T → Option T → Prop
  | none, none => True
  | some a, some b => sameT a b = true
  | _, _ => False
theorem sameT_map {ps qs : List (ByteArray × T)} (h : ∀ k, OptSame (lastOf ps k) (lastOf qs k)) : sameT (mapT ps) (mapT qs) = true := by
  obtain ⟨l, h1, h2, h3⟩ := mapT_told ps
  obtain ⟨m, k1, k2, k3⟩ := mapT_told qs
  have hu : l.map (fun p => (p.1, ())) = m.map fun p => (p.1, ()) := by
    refine rising_eq (List.pairwise_map.2 h2) (List.pairwise_map.2 k2) fun x => ?_
    have e1 := lastOf_map (fun _ : T => ()) l x
    have e2 := lastOf_map (fun _ : T => ()) m x
    rw [e1, e2, h3, k3]
    have := h x
    cases hp : lastOf ps x <;> cases hq : lastOf qs x <;> rw [hp, hq] at this <;> simp [OptSame] at this ⊢
  have hlen : l.length = m.length := by simpa using congrArg List.length hu
  have hkey : ∀ (i : Nat) (p q : ByteArray × T), l[i]? = some p → m[i]? = some q → p.1 = q.1 := fun i p q hp hq => by
    have := congrArg (fun L => L[i]?) hu
    simp only [List.getElem?_map, hp, hq, Option.map_some, Option.some.injEq, Prod.mk.injEq, and_true] at this
    exact this
  have hks : l.map Prod.fst = m.map Prod.fst := by
    have := congrArg (List.map Prod.fst) hu
    simpa [List.map_map, Function.comp_def] using this
  rw [h1, k1]
  unfold mapOf sameT
  simp only [if_true, List.length_map, hlen, hks, seqs_self, Bool.true_and]
  rw [if_neg (by decide), if_neg (by decide), if_neg (by decide), if_neg (by decide), samesT_eq, List.all_eq_true]
  intro z hz
  obtain ⟨i, hi⟩ := List.getElem?_of_mem hz
  rw [List.getElem?_zip_eq_some] at hi
  obtain ⟨hi1, hi2⟩ := hi
  rw [List.getElem?_map] at hi1 hi2
  cases hp : l[i]? with
  | none => rw [hp] at hi1; cases hi1
  | some p =>
    cases hq : m[i]? with
    | none => rw [hq] at hi2; cases hi2
    | some q =>
      rw [hp] at hi1
      rw [hq] at hi2
      simp at hi1 hi2
      have := h p.1
      rw [← h3, ← k3, rising_lookup h2 hp] at this
      rw [hkey i p q hp hq, rising_lookup k2 hq] at this
      rw [← hi1, ← hi2]
      exact this

/-- What is handed over for a setting is what was set. -/
theorem same_text {t : T} (h1 : t.kind = 1) (h2 : scalarT t = true) : sameT (textT t.text) t = true ∧ t.text ≠ emptyS := by
  obtain ⟨k, x, d, y, ks, xs⟩ := t
  simp only [T.kind] at h1
  subst h1
  simp only [scalarT, scalarF, T.kind, T.text, T.num, T.keys, T.kids] at h2
  have hk : ks = [] := by
    cases ks with
    | nil => rfl
    | cons => simp at h2
  subst hk
  have hx : xs = [] := by
    cases xs with
    | nil => rfl
    | cons => simp at h2
  subst hx
  refine ⟨by simp [textT, sameT, T.text, seq_self], fun e => ?_⟩
  simp only [T.text] at e
  rw [e, emptyS_list] at h2
  simp at h2
theorem same_num {t : T} (h1 : t.kind = 2) (h2 : scalarT t = true) : sameT (numT t.num) t = true := by
  obtain ⟨k, x, d, y, ks, xs⟩ := t
  simp only [T.kind] at h1
  subst h1
  simp only [scalarT, scalarF, T.kind, T.text, T.num, T.keys, T.kids] at h2
  have hk : ks = [] := by
    cases ks with
    | nil => rfl
    | cons => simp at h2
  subst hk
  have hx : xs = [] := by
    cases xs with
    | nil => rfl
    | cons => simp at h2
  subst hx
  have hf : finiteB d = true := by simpa using h2
  simp [numT, sameT, T.num, orderB2, order_self hf]
theorem same_yes {t : T} (h1 : t.kind = 3) (h2 : scalarT t = true) : sameT (yesT t.yes) t = true := by
  obtain ⟨k, x, d, y, ks, xs⟩ := t
  simp only [T.kind] at h1
  subst h1
  simp only [scalarT, scalarF, T.kind, T.text, T.num, T.keys, T.kids] at h2
  have hk : ks = [] := by
    cases ks with
    | nil => rfl
    | cons => simp at h2
  subst hk
  have hx : xs = [] := by
    cases xs with
    | nil => rfl
    | cons => simp at h2
  subst hx
  simp [yesT, sameT, T.yes]
end Go.Proofs.YtdjojnlejkljdaaGreat

namespace Go.Proofs.YtdjojnlejkljdaaGreat
open Go.RowKit

end Go.Proofs.YtdjojnlejkljdaaGreat

namespace Go.Proofs.YtdjojnlejkljdaaGreat
open Go.RowKit

theorem same_one (k : ByteArray) {a b : T} (h : sameT a b = true) : sameT (mapT [(k, a)]) (mapT [(k, b)]) = true := sameT_map fun x => by
  rw [lastOf_cons, lastOf_cons]
  simp only [lastOf_nil, Option.none_or]
  cases seq k x <;> simp [OptSame, h]
theorem fits_last {rs : List (ByteArray × ByteArray)} {ps : List (ByteArray × T)} (h : FitsP rs ps) {k : ByteArray} {t : T} (hl : lastOf ps k = some t) : FitP (kindL rs k) t := by
  obtain ⟨i, hi⟩ := List.getElem?_of_mem (lastOf_mem hl)
  exact h i _ hi
theorem seq_dec (a b : ByteArray) : seq a b = decide (a = b) := by
  by_cases h : a = b
  · rw [seq_iff.2 h, decide_eq_true h]
  · rw [seq_false.2 h, decide_eq_false h]
theorem kindL_dec (rs : List (ByteArray × ByteArray)) (k : ByteArray) : kindL rs k = ((rs.find? fun r => decide (r.1 = k)).map Prod.snd).getD emptyS := by
  unfold kindL
  simp only [seq_dec]
/-- Two lists that say the same under each key. -/
def SameL (a b : List (ByteArray × T)) : Prop := ∀ x, OptSame (lastOf a x) (lastOf b x)
theorem SameL.nil : SameL [] [] := fun x => by simp [lastOf, OptSame]
theorem SameL.append {a b c d : List (ByteArray × T)} (h : SameL a b) (k : SameL c d) : SameL (a ++ c) (b ++ d) := fun x => by
  rw [lastOf_append, lastOf_append]
  have h1 := h x
  have k1 := k x
  cases ha : lastOf a x <;> cases hb : lastOf b x <;> cases hc : lastOf c x <;> cases hd : lastOf d x <;> rw [ha, hb] at h1 <;> rw [hc, hd] at k1 <;> simp [OptSame] at h1 k1 ⊢ <;> assumption
theorem SameL.one (k : ByteArray) {a b : T} (h : sameT a b = true) : SameL [(k, a)] [(k, b)] := fun x => by
  rw [lastOf_cons, lastOf_cons]
  simp only [lastOf_nil, Option.none_or]
  cases seq k x <;> simp [OptSame, h]
abbrev jTree (l : List (ByteArray × J)) : List (ByteArray × T) := l.map fun p => (p.1, treeJ p.2)
theorem params_cons (r : ByteArray × ByteArray) (rs : List (ByteArray × ByteArray)) (ps : List (ByteArray × T)) : paramsL (r :: rs) ps = (param ps r).toList ++ paramsL rs ps := by
  unfold paramsL
  rw [List.filterMap_cons]
  cases param ps r <;> rfl
theorem params_nil (ps : List (ByteArray × T)) : paramsL [] ps = [] := rfl
theorem jT_same {rs : List (ByteArray × ByteArray)} {ps : List (ByteArray × T)} (hF : FitsP rs ps) {k : ByteArray} (hk : kindL rs k = ⟨#[116]⟩) : SameL (jTree (jT k (lastOf ps k))) (param ps (k, ⟨#[116]⟩)).toList := by
  have hp : hasS plainK (⟨#[116]⟩ : ByteArray) = true := by simp [plainK, hasS, seq_self]
  cases ho : lastOf ps k with
  | none => simpa [param, ho, jT, fT] using SameL.nil
  | some t =>
    have hf := fits_last hF ho
    rw [hk] at hf
    obtain ⟨hs, h | h | h | h | h⟩ := hf
    · obtain ⟨hsame, hne⟩ := same_text h.2 hs
      have h2 : jT k (some t) = [(k, .str t.text)] := by simp [jT, fT, hne]
      rw [h2]
      simpa [param, ho, hp, treeJ] using SameL.one k hsame
    · exact absurd h.1 (by decide)
    · exact absurd h.1 (by decide)
    · exact absurd h.1 (by decide)
    · exact absurd h (by decide)
theorem jN_same {rs : List (ByteArray × ByteArray)} {ps : List (ByteArray × T)} (hF : FitsP rs ps) {k : ByteArray} (hk : kindL rs k = ⟨#[110]⟩) : SameL (jTree (jN k (lastOf ps k))) (param ps (k, ⟨#[110]⟩)).toList := by
  have hp : hasS plainK (⟨#[110]⟩ : ByteArray) = true := by simp [plainK, hasS, seq_self]
  cases ho : lastOf ps k with
  | none => simpa [param, ho, jN] using SameL.nil
  | some t =>
    have hf := fits_last hF ho
    rw [hk] at hf
    obtain ⟨hs, h | h | h | h | h⟩ := hf
    · exact absurd h.1 (by decide)
    · simpa [param, ho, hp, jN, treeJ] using SameL.one k (same_num h.2 hs)
    · exact absurd h.1 (by decide)
    · exact absurd h.1 (by decide)
    · exact absurd h (by decide)
theorem jY_same {rs : List (ByteArray × ByteArray)} {ps : List (ByteArray × T)} (hF : FitsP rs ps) {k : ByteArray} (hk : kindL rs k = ⟨#[98]⟩) : SameL (jTree (jY k (lastOf ps k))) (param ps (k, ⟨#[98]⟩)).toList := by
  have hp : hasS plainK (⟨#[98]⟩ : ByteArray) = true := by simp [plainK, hasS, seq_self]
  cases ho : lastOf ps k with
  | none => simpa [param, ho, jY] using SameL.nil
  | some t =>
    have hf := fits_last hF ho
    rw [hk] at hf
    obtain ⟨hs, h | h | h | h | h⟩ := hf
    · exact absurd h.1 (by decide)
    · exact absurd h.1 (by decide)
    · exact absurd h.1 (by decide)
    · simpa [param, ho, hp, jY, treeJ] using SameL.one k (same_yes h.2 hs)
    · exact absurd h (by decide)
/-- No value of these is null. -/
def NoNull (l : List (ByteArray × J)) : Prop := ∀ p ∈ jTree l, p.2.kind ≠ 0
theorem NoNull.append {a b : List (ByteArray × J)} (h : NoNull a) (k : NoNull b) : NoNull (a ++ b) := fun p hp => by
  unfold jTree at hp
  rw [List.map_append, List.mem_append] at hp
  exact hp.elim (h p) (k p)
theorem noNull_T (k : ByteArray) (o : Option T) : NoNull (jT k o) := fun p hp => by
  unfold jT at hp
  split at hp
  · simp at hp
  · simp [treeJ, textT] at hp; subst hp; simp [T.kind]
theorem noNull_N (k : ByteArray) (o : Option T) : NoNull (jN k o) := fun p hp => by
  cases o with
  | none => simp [jN] at hp
  | some t => simp [jN, treeJ, numT] at hp; subst hp; simp [T.kind]
theorem noNull_Y (k : ByteArray) (o : Option T) : NoNull (jY k o) := fun p hp => by
  cases o with
  | none => simp [jY] at hp
  | some t => simp [jY, treeJ, yesT] at hp; subst hp; simp [T.kind]
theorem noNull_str (k s : ByteArray) : NoNull [(k, .str s)] := fun p hp => by simp [treeJ, textT] at hp; subst hp; simp [T.kind]
theorem jMap_tree (k : ByteArray) (l : List (ByteArray × J)) : treeJ (jMap [(k, jMap l)]) = mapT [(k, mapT (jTree l))] := by
  rw [treeJ_jMap, List.map_cons, List.map_nil, treeJ_jMap]
/-- All keys of a list are among these. -/
def KeysIn {α : Type} (l : List (ByteArray × α)) (L : List ByteArray) : Prop := ∀ p ∈ l, p.1 ∈ L
theorem KeysIn.none {α : Type} {l : List (ByteArray × α)} {L : List ByteArray} (h : KeysIn l L) {x : ByteArray} (hx : x ∉ L) : lastOf l x = none := lastOf_none fun _ p hp e => hx (e ▸ h p (List.mem_of_getElem? hp))
theorem KeysIn.append {α : Type} {a b : List (ByteArray × α)} {L M : List ByteArray} (h : KeysIn a L) (k : KeysIn b M) : KeysIn (a ++ b) (L ++ M) := fun p hp => by
  rcases List.mem_append.1 hp with hp | hp
  · exact List.mem_append.2 (.inl (h p hp))
  · exact List.mem_append.2 (.inr (k p hp))
theorem keys_one {α : Type} (k : ByteArray) (v : α) : KeysIn [(k, v)] [k] := fun p hp => by simp at hp; subst hp; simp
theorem keys_T (k : ByteArray) (o : Option T) : KeysIn (jTree (jT k o)) [k] := fun p hp => by
  unfold jT at hp
  split at hp
  · simp at hp
  · simp at hp; subst hp; simp
theorem keys_N (k : ByteArray) (o : Option T) : KeysIn (jTree (jN k o)) [k] := fun p hp => by
  cases o with
  | none => simp [jN] at hp
  | some t => simp [jN] at hp; subst hp; simp
theorem keys_Y (k : ByteArray) (o : Option T) : KeysIn (jTree (jY k o)) [k] := fun p hp => by
  cases o with
  | none => simp [jY] at hp
  | some t => simp [jY] at hp; subst hp; simp
theorem lastOf_swap {α : Type} {a b : List (ByteArray × α)} {L M : List ByteArray} (h : KeysIn a L) (k : KeysIn b M) (hd : (L.all fun x => M.all fun y => !decide (x = y)) = true) (x : ByteArray) : lastOf (a ++ b) x = lastOf (b ++ a) x := by
  have hd : ∀ x ∈ L, x ∉ M := fun x hx hm => by
    have := List.all_eq_true.1 (List.all_eq_true.1 hd x hx) x hm
    simp at this
  rw [lastOf_append, lastOf_append]
  by_cases hx : x ∈ L
  · rw [k.none (hd x hx)]
    cases lastOf a x <;> rfl
  · rw [h.none hx]
    cases lastOf b x <;> rfl
theorem SameL.of {a a' b : List (ByteArray × T)} (h : SameL a b) (e : ∀ x, lastOf a' x = lastOf a x) : SameL a' b := fun x => by rw [e]; exact h x
end Go.Proofs.YtdjojnlejkljdaaGreat

namespace Go.Proofs.YtdjojnlejkljdaaGreat
open Go.RowKit

theorem someNe {a b : Nat} (h : a ≠ b) : some a ≠ some b := fun e => h (Option.some.inj e)
theorem PJ.moveB {w W W' : World} {rp : List (ByteArray × Value)} {pj : List (ByteArray × J)} (h : PJ (fun b => b < w.heap.size) W rp pj) (x : Ext w W) (x' : Ext w W') : PJ (fun b => b < w.heap.size) W' rp pj :=
  h.keep (fun _ h _ => h) fun b hb _ => (x'.block b hb).trans (x.block b hb).symm
theorem PJ.wide {S : Nat → Prop} {w : World} {rp : List (ByteArray × Value)} {pj : List (ByteArray × J)} (h : PJ S w rp pj) : PJ (fun _ => True) w rp pj := h.keep (fun _ _ _ => trivial) (fun _ _ _ => rfl)
theorem JAt.no {S : Nat → Prop} {w w' : World} {j : J} {v : Value} (h : JAt (fun _ => False) w v j) : JAt S w' v j := JAt.keep (fun _ h _ => h.elim) (fun _ h => h.elim) j h
theorem op_put {o : Oper} {a : Act} {Q : Exit → Act → World → Prop} {K : Act → World → Prop} (w : World) (m x v : Operand) (t : TypeId) (hop : o.op = Op.mapUpdate t m x v) (e : TypeId) (ht : Tryz.prog.underlying t = some (.map 9 e)) (b : Nat) (ps : List (ByteArray × Value)) (hm : a.eval m = .map (some b)) (hM : MapAt w b ps) (hn : ps.length < maxLen)
    (key : ByteArray) (hx : a.eval x = .string key) (hk : key.size ≤ maxLen) (val : Value) (hv : a.eval v = val)
    (hK : ∀ w', MapAt w' b (ps ++ [(key, val)]) → w.grownBy w' (some b) → K (a.put o.dst undef) w') : o.wp Tryz.prog a w K Q := by
  obtain ⟨w', hrun, r1, r2⟩ := hM.update ht hn hk val
  unfold Oper.wp
  simp [execOp, hop, hm, hx, hv, hrun, Result.andThen]
  exact hK w' r1 r2
/-- A value alone where nothing is set, else a map with it and with what is set. -/
def jShort (v : J) (fix opts : List (ByteArray × J)) : J := if opts.isEmpty then v else jMap (fix ++ opts)
theorem jShort_some {v : J} {fix opts : List (ByteArray × J)} (h : opts ≠ []) : jShort v fix opts = jMap (fix ++ opts) := by
  unfold jShort
  rw [if_neg (by simpa using h)]
/-- The plain value of a scalar. -/
def jOf (t : T) : J := if t.kind = 1 then .str t.text else if t.kind = 2 then .num t.num else .yes t.yes
/-- A field that holds a value of any kind: nothing if it is not set. -/
def FV (v : Value) : Option T → Prop
  | none => v = .nilIface
  | some t => ∃ ty x, v = .iface ty x ∧ ∀ w, JAt (fun _ => False) w v (jOf t)
def jV (k : ByteArray) : Option T → List (ByteArray × J)
  | none => []
  | some t => [(k, jOf t)]
theorem jV_len (k : ByteArray) (o : Option T) : (jV k o).length ≤ 1 := by cases o <;> simp [jV]
theorem jW_len (k : ByteArray) (o : Option T) : (jW k o).length ≤ 1 := by
  cases o with
  | none => simp [jW]
  | some t => unfold jW; dsimp only; split <;> simp
theorem keys_W (k : ByteArray) (o : Option T) : KeysIn (jTree (jW k o)) [k] := fun p hp => by
  cases o with
  | none => simp [jW] at hp
  | some t =>
    unfold jW at hp
    dsimp only at hp
    split at hp
    · simp at hp; subst hp; simp
    · simp at hp
theorem keys_V (k : ByteArray) (o : Option T) : KeysIn (jTree (jV k o)) [k] := fun p hp => by
  cases o with
  | none => simp [jV] at hp
  | some t => simp [jV] at hp; subst hp; simp
theorem noNull_W (k : ByteArray) (o : Option T) : NoNull (jW k o) := fun p hp => by
  cases o with
  | none => simp [jW] at hp
  | some t =>
    unfold jW at hp
    dsimp only at hp
    split at hp
    · simp [treeJ, numT] at hp; subst hp; simp [T.kind]
    · simp at hp
theorem jOf_kind (t : T) : (treeJ (jOf t)).kind ≠ 0 := by
  unfold jOf
  split
  · simp [treeJ, textT, T.kind]
  · split <;> simp [treeJ, numT, yesT, T.kind]
theorem noNull_V (k : ByteArray) (o : Option T) : NoNull (jV k o) := fun p hp => by
  cases o with
  | none => simp [jV] at hp
  | some t => simp [jV] at hp; subst hp; exact jOf_kind t
theorem noNull_J (k : ByteArray) (j : J) (h : (treeJ j).kind ≠ 0) : NoNull [(k, j)] := fun p hp => by simp at hp; subst hp; exact h
theorem scalar_kind {t : T} (h : scalarT t = true) : t.kind = 1 ∨ t.kind = 2 ∨ t.kind = 3 := by
  unfold scalarT scalarF at h
  by_cases h1 : t.kind = 1
  · exact .inl h1
  · by_cases h2 : t.kind = 2
    · exact .inr (.inl h2)
    · refine .inr (.inr ?_)
      simp_all
theorem jOf_same {t : T} (h : scalarT t = true) : sameT (treeJ (jOf t)) t = true := by
  unfold jOf
  rcases scalar_kind h with hk | hk | hk
  · rw [if_pos hk]; exact (same_text hk h).1
  · rw [if_neg (by omega), if_pos hk]; exact same_num hk h
  · rw [if_neg (by omega), if_neg (by omega)]; exact same_yes hk h
theorem jV_same {rs : List (ByteArray × ByteArray)} {ps : List (ByteArray × T)} (hF : FitsP rs ps) (k : ByteArray) : SameL (jTree (jV k (lastOf ps k))) (param ps (k, ⟨#[118]⟩)).toList := by
  have hp : hasS plainK (⟨#[118]⟩ : ByteArray) = true := by simp [plainK, hasS, seq_self]
  cases ho : lastOf ps k with
  | none => simpa [param, ho, jV] using SameL.nil
  | some t => simpa [param, ho, hp, jV] using SameL.one k (jOf_same (fits_last hF ho).1)
theorem same_num2 {t : T} {a : Nat} (h1 : t.kind = 2) (h2 : scalarT t = true) (hq : orderB2 a t.num = true) : sameT (numT a) t = true := by
  obtain ⟨k, x, d, y, ks, xs⟩ := t
  simp only [T.kind] at h1
  subst h1
  simp only [scalarT, scalarF, T.kind, T.text, T.num, T.keys, T.kids] at h2
  have hk : ks = [] := by
    cases ks with
    | nil => rfl
    | cons => simp at h2
  subst hk
  have hx : xs = [] := by
    cases xs with
    | nil => rfl
    | cons => simp at h2
  subst hx
  simp only [T.num] at hq
  simp [numT, sameT, hq]
theorem jW_same {rs : List (ByteArray × ByteArray)} {ps : List (ByteArray × T)} (hF : FitsP rs ps) {k : ByteArray} (hk : kindL rs k = ⟨#[119]⟩) : SameL (jTree (jW k (lastOf ps k))) (param ps (k, ⟨#[119]⟩)).toList := by
  have hp : hasS plainK (⟨#[119]⟩ : ByteArray) = true := by simp [plainK, hasS, seq_self]
  cases ho : lastOf ps k with
  | none => simpa [param, ho, jW] using SameL.nil
  | some t =>
    have hf := fits_last hF ho
    rw [hk] at hf
    obtain ⟨hs, h | h | h | h | h⟩ := hf
    · exact absurd h.1 (by decide)
    · exact absurd h.1 (by decide)
    · obtain ⟨-, h2, z, hz, hq⟩ := h
      rw [jW_some hz]
      have := same_num2 h2 hs hq
      simpa [param, ho, hp, treeJ] using SameL.one k this
    · exact absurd h.1 (by decide)
    · exact absurd h (by decide)
/-- All settings of a name are whole numbers. -/
def WholeAt (ps : List (ByteArray × T)) (k : ByteArray) : Prop := ∀ p ∈ ps, seq p.1 k = true → wholeP p.2.num
theorem whole_of {rs : List (ByteArray × ByteArray)} {ps : List (ByteArray × T)} (hF : FitsP rs ps) {k : ByteArray} (hk : kindL rs k = ⟨#[119]⟩) : WholeAt ps k := fun p hp hs => by
  obtain ⟨i, hi⟩ := List.getElem?_of_mem hp
  have hf := hF i p hi
  rw [seq_iff.1 hs, hk] at hf
  obtain ⟨-, h | h | h | h | h⟩ := hf
  · exact absurd h.1 (by decide)
  · exact absurd h.1 (by decide)
  · exact h.2.2
  · exact absurd h.1 (by decide)
  · exact absurd h (by decide)
/-- All settings of a name are scalars. -/
def ScalarAt (ps : List (ByteArray × T)) (k : ByteArray) : Prop := ∀ p ∈ ps, seq p.1 k = true → scalarT p.2 = true
theorem scalar_of {rs : List (ByteArray × ByteArray)} {ps : List (ByteArray × T)} (hF : FitsP rs ps) (k : ByteArray) : ScalarAt ps k := fun p hp _ => by
  obtain ⟨i, hi⟩ := List.getElem?_of_mem hp
  exact (hF i p hi).1
end Go.Proofs.YtdjojnlejkljdaaGreat

