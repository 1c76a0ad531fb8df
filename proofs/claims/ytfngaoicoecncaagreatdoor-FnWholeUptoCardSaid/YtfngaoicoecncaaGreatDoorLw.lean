/-
  What the laws of builders with settings share.
-/
import Derived.Test.YtfngaoicoecncaaGreatDoorSm
import Derived.Test.YtfngaoicoecncaaGreatDoorP5
namespace Go.Proofs.YtfngaoicoecncaaGreatDoor
open Go.RowKit

theorem same_one (k : ByteArray) {a b : T} (h : sameT a b = true) : sameT (mapT [(k, a)]) (mapT [(k, b)]) = true := sameT_map fun x => by
  rw [lastOf_cons, lastOf_cons]
  simp only [lastOf_nil, Option.none_or]
  cases seq k x <;> simp [OptSame, h]
theorem fits_last {rs : List (ByteArray × ByteArray)} {ps : List (ByteArray × T)} (h : FitsP rs ps) {k : ByteArray} {t : T} (hl : lastOf ps k = some t) : FitP (kindL rs k) t := by
  obtain ⟨i, hi⟩ := List.getElem?_of_mem (lastOf_mem hl)
  exact h i _ hi
theorem seq_dec (a b : ByteArray) : seq a b = decide (a = b) := by
  by_cases h : a = b
  · rw [seq_iff.2 h, decide_eq_true h]
  · rw [seq_false.2 h, decide_eq_false h]
theorem kindL_dec (rs : List (ByteArray × ByteArray)) (k : ByteArray) : kindL rs k = ((rs.find? fun r => decide (r.1 = k)).map Prod.snd).getD emptyS := by
  unfold kindL
  simp only [seq_dec]
/-- Two lists that say the same under each key. -/
def SameL (a b : List (ByteArray × T)) : Prop := ∀ x, OptSame (lastOf a x) (lastOf b x)
theorem SameL.nil : SameL [] [] := fun x => by simp [lastOf, OptSame]
theorem SameL.append {a b c d : List (ByteArray × T)} (h : SameL a b) (k : SameL c d) : SameL (a ++ c) (b ++ d) := fun x => by
  rw [lastOf_append, lastOf_append]
  have h1 := h x
  have k1 := k x
  cases ha : lastOf a x <;> cases hb : lastOf b x <;> cases hc : lastOf c x <;> cases hd : lastOf d x <;> rw [ha, hb] at h1 <;> rw [hc, hd] at k1 <;> simp [OptSame] at h1 k1 ⊢ <;> assumption
theorem SameL.one (k : ByteArray) {a b : T} (h : sameT a b = true) : SameL [(k, a)] [(k, b)] := fun x => by
  rw [lastOf_cons, lastOf_cons]
  simp only [lastOf_nil, Option.none_or]
  cases seq k x <;> simp [OptSame, h]
abbrev jTree (l : List (ByteArray × J)) : List (ByteArray × T) := l.map fun p => (p.1, treeJ p.2)
theorem params_cons (r : ByteArray × ByteArray) (rs : List (ByteArray × ByteArray)) (ps : List (ByteArray × T)) : paramsL (r :: rs) ps = (param ps r).toList ++ paramsL rs ps := by
  unfold paramsL
  rw [List.filterMap_cons]
  cases param ps r <;> rfl
theorem params_nil (ps : List (ByteArray × T)) : paramsL [] ps = [] := rfl
theorem jT_same {rs : List (ByteArray × ByteArray)} {ps : List (ByteArray × T)} (hF : FitsP rs ps) {k : ByteArray} (hk : kindL rs k = ⟨#[116]⟩) : SameL (jTree (jT k (lastOf ps k))) (param ps (k, ⟨#[116]⟩)).toList := by
  have hp : hasS plainK (⟨#[116]⟩ : ByteArray) = true := by simp [plainK, hasS, seq_self]
  cases ho : lastOf ps k with
  | none => simpa [param, ho, jT, fT] using SameL.nil
  | some t =>
    have hf := fits_last hF ho
    rw [hk] at hf
    obtain ⟨hs, h | h | h | h | h⟩ := hf
    · obtain ⟨hsame, hne⟩ := same_text h.2 hs
      have h2 : jT k (some t) = [(k, .str t.text)] := by simp [jT, fT, hne]
      rw [h2]
      simpa [param, ho, hp, treeJ] using SameL.one k hsame
    · exact absurd h.1 (by decide)
    · exact absurd h.1 (by decide)
    · exact absurd h.1 (by decide)
    · exact absurd h (by decide)
theorem jN_same {rs : List (ByteArray × ByteArray)} {ps : List (ByteArray × T)} (hF : FitsP rs ps) {k : ByteArray} (hk : kindL rs k = ⟨#[110]⟩) : SameL (jTree (jN k (lastOf ps k))) (param ps (k, ⟨#[110]⟩)).toList := by
  have hp : hasS plainK (⟨#[110]⟩ : ByteArray) = true := by simp [plainK, hasS, seq_self]
  cases ho : lastOf ps k with
  | none => simpa [param, ho, jN] using SameL.nil
  | some t =>
    have hf := fits_last hF ho
    rw [hk] at hf
    obtain ⟨hs, h | h | h | h | h⟩ := hf
    · exact absurd h.1 (by decide)
    · simpa [param, ho, hp, jN, treeJ] using SameL.one k (same_num h.2 hs)
    · exact absurd h.1 (by decide)
    · exact absurd h.1 (by decide)
    · exact absurd h (by decide)
theorem jY_same {rs : List (ByteArray × ByteArray)} {ps : List (ByteArray × T)} (hF : FitsP rs ps) {k : ByteArray} (hk : kindL rs k = ⟨#[98]⟩) : SameL (jTree (jY k (lastOf ps k))) (param ps (k, ⟨#[98]⟩)).toList := by
  have hp : hasS plainK (⟨#[98]⟩ : ByteArray) = true := by simp [plainK, hasS, seq_self]
  cases ho : lastOf ps k with
  | none => simpa [param, ho, jY] using SameL.nil
  | some t =>
    have hf := fits_last hF ho
    rw [hk] at hf
    obtain ⟨hs, h | h | h | h | h⟩ := hf
    · exact absurd h.1 (by decide)
    · exact absurd h.1 (by decide)
    · exact absurd h.1 (by decide)
    · simpa [param, ho, hp, jY, treeJ] using SameL.one k (same_yes h.2 hs)
    · exact absurd h (by decide)
/-- No value of these is null. -/
def NoNull (l : List (ByteArray × J)) : Prop := ∀ p ∈ jTree l, p.2.kind ≠ 0
theorem NoNull.append {a b : List (ByteArray × J)} (h : NoNull a) (k : NoNull b) : NoNull (a ++ b) := fun p hp => by
  unfold jTree at hp
  rw [List.map_append, List.mem_append] at hp
  exact hp.elim (h p) (k p)
theorem noNull_T (k : ByteArray) (o : Option T) : NoNull (jT k o) := fun p hp => by
  unfold jT at hp
  split at hp
  · simp at hp
  · simp [treeJ, textT] at hp; subst hp; simp [T.kind]
theorem noNull_N (k : ByteArray) (o : Option T) : NoNull (jN k o) := fun p hp => by
  cases o with
  | none => simp [jN] at hp
  | some t => simp [jN, treeJ, numT] at hp; subst hp; simp [T.kind]
theorem noNull_Y (k : ByteArray) (o : Option T) : NoNull (jY k o) := fun p hp => by
  cases o with
  | none => simp [jY] at hp
  | some t => simp [jY, treeJ, yesT] at hp; subst hp; simp [T.kind]
theorem noNull_str (k s : ByteArray) : NoNull [(k, .str s)] := fun p hp => by simp [treeJ, textT] at hp; subst hp; simp [T.kind]
theorem jMap_tree (k : ByteArray) (l : List (ByteArray × J)) : treeJ (jMap [(k, jMap l)]) = mapT [(k, mapT (jTree l))] := by
  rw [treeJ_jMap, List.map_cons, List.map_nil, treeJ_jMap]
/-- All keys of a list are among these. -/
def KeysIn {α : Type} (l : List (ByteArray × α)) (L : List ByteArray) : Prop := ∀ p ∈ l, p.1 ∈ L
theorem KeysIn.none {α : Type} {l : List (ByteArray × α)} {L : List ByteArray} (h : KeysIn l L) {x : ByteArray} (hx : x ∉ L) : lastOf l x = none := lastOf_none fun _ p hp e => hx (e ▸ h p (List.mem_of_getElem? hp))
theorem KeysIn.append {α : Type} {a b : List (ByteArray × α)} {L M : List ByteArray} (h : KeysIn a L) (k : KeysIn b M) : KeysIn (a ++ b) (L ++ M) := fun p hp => by
  rcases List.mem_append.1 hp with hp | hp
  · exact List.mem_append.2 (.inl (h p hp))
  · exact List.mem_append.2 (.inr (k p hp))
theorem keys_one {α : Type} (k : ByteArray) (v : α) : KeysIn [(k, v)] [k] := fun p hp => by simp at hp; subst hp; simp
theorem keys_T (k : ByteArray) (o : Option T) : KeysIn (jTree (jT k o)) [k] := fun p hp => by
  unfold jT at hp
  split at hp
  · simp at hp
  · simp at hp; subst hp; simp
theorem keys_N (k : ByteArray) (o : Option T) : KeysIn (jTree (jN k o)) [k] := fun p hp => by
  cases o with
  | none => simp [jN] at hp
  | some t => simp [jN] at hp; subst hp; simp
theorem keys_Y (k : ByteArray) (o : Option T) : KeysIn (jTree (jY k o)) [k] := fun p hp => by
  cases o with
  | none => simp [jY] at hp
  | some t => simp [jY] at hp; subst hp; simp
theorem lastOf_swap {α : Type} {a b : List (ByteArray × α)} {L M : List ByteArray} (h : KeysIn a L) (k : KeysIn b M) (hd : (L.all fun x => M.all fun y => !decide (x = y)) = true) (x : ByteArray) : lastOf (a ++ b) x = lastOf (b ++ a) x := by
  have hd : ∀ x ∈ L, x ∉ M := fun x hx hm => by
    have := List.all_eq_true.1 (List.all_eq_true.1 hd x hx) x hm
    simp at this
  rw [lastOf_append, lastOf_append]
  by_cases hx : x ∈ L
  · rw [k.none (hd x hx)]
    cases lastOf a x <;> rfl
  · rw [h.none hx]
    cases lastOf b x <;> rfl
theorem SameL.of {a a' b : List (ByteArray × T)} (h : SameL a b) (e : ∀ x, lastOf a' x = lastOf a x) : SameL a' b := fun x => by rw [e]; exact h x
end Go.Proofs.YtfngaoicoecncaaGreatDoor
