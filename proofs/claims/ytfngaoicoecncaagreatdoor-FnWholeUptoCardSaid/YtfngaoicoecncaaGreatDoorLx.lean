/-
  Chunks of pairs in another order; several pairs beside settings.
-/
import Derived.Test.YtfngaoicoecncaaGreatDoorNm2
namespace Go.Proofs.YtfngaoicoecncaaGreatDoor
open Go.RowKit

abbrev Ch := ByteArray × List (ByteArray × T)
abbrev flatC (l : List Ch) : List (ByteArray × T) := l.flatMap Prod.snd
theorem flat_last : ∀ (l : List Ch) (_ : ∀ c ∈ l, KeysIn c.2 [c.1]) (_ : (l.map Prod.fst).Nodup) (x : ByteArray), lastOf (flatC l) x = (lastOf l x).bind fun c => lastOf c x
  | [], _, _, x => rfl
  | c :: r, h, hn, x => by
    have ih := flat_last r (fun c hc => h c (by simp [hc])) (by simp at hn; exact hn.2) x
    have : flatC (c :: r) = c.2 ++ flatC r := rfl
    rw [this, lastOf_append, ih, lastOf_cons]
    by_cases hx : c.1 = x
    · have hr : lastOf r x = none := lastOf_none fun i p hp e => by
        simp only [List.map_cons, List.nodup_cons] at hn
        exact hn.1 (List.mem_map.2 ⟨p, List.mem_of_getElem? hp, e.trans hx.symm⟩)
      rw [hr, seq_iff.2 hx]
      simp
    · rw [seq_false.2 hx, (h c (by simp)).none (x := x) (by simp; exact fun e => hx e.symm)]
      simp
theorem last_perm {a b : List Ch} (hp : a.Perm b) (hn : (a.map Prod.fst).Nodup) (x : ByteArray) : lastOf a x = lastOf b x := by
  have hnb : (b.map Prod.fst).Nodup := (hp.map _).nodup_iff.1 hn
  have key : ∀ {l : List Ch}, (l.map Prod.fst).Nodup → ∀ {v}, (x, v) ∈ l → lastOf l x = some v := by
    intro l
    induction l with
    | nil => intro _ v hv; simp at hv
    | cons p r ih =>
      intro hn v hv
      simp only [List.map_cons, List.nodup_cons] at hn
      rw [lastOf_cons]
      rcases List.mem_cons.1 hv with h | h
      · subst h
        rw [lastOf_none (ps := r) fun i q hq e => hn.1 (List.mem_map.2 ⟨q, List.mem_of_getElem? hq, e⟩), seq_self]
        simp
      · rw [ih hn.2 h]; simp
  cases ha : lastOf a x with
  | some v => exact (key hnb (hp.mem_iff.1 (lastOf_mem ha))).symm
  | none =>
    cases hb : lastOf b x with
    | none => rfl
    | some v => rw [key hn (hp.mem_iff.2 (lastOf_mem hb))] at ha; cases ha
theorem SameL.reorder {a : List (ByteArray × T)} {f : Nat → Ch} (I J : List Nat) (hp : I.Perm J) (hn : ((I.map f).map Prod.fst).Nodup) (hk : ∀ c ∈ I.map f, KeysIn c.2 [c.1]) (h : SameL a (flatC (I.map f))) : SameL a (flatC (J.map f)) := fun x => by
  have hpm : (I.map f).Perm (J.map f) := hp.map f
  rw [flat_last _ (fun c hc => hk c (hpm.mem_iff.2 hc)) ((hpm.map _).nodup_iff.1 hn) x, ← last_perm hpm hn x, ← flat_last _ hk hn x]
  exact h x
theorem keys_param (ps : List (ByteArray × T)) (r : ByteArray × ByteArray) : KeysIn (param ps r).toList [r.1] := fun p hp => by
  unfold param at hp
  split at hp
  · cases h : lastOf ps r.1 with
    | none => rw [h] at hp; simp at hp
    | some t => rw [h] at hp; simp at hp; subst hp; simp
  · simp at hp
theorem pairs_box {S : Nat → Prop} {w : World} {b : Nat} {es : List (ByteArray × El)} {ps : List (ByteArray × T)} (hb : Box w b (es.flatMap cells7).toArray 72) (hS : S b) (hl : es.length ≤ maxLen) (hk : Pk S w es ps) : PairsAt S w (some ⟨b, 0, none⟩) es.length es.length ps :=
  ⟨hk.1, Nat.le_refl _, hl, fun i p hi => by
    have hlt : i < es.length := by rw [← hk.1]; exact (List.getElem?_eq_some_iff.1 hi).1
    obtain ⟨e, he⟩ := some_of_lt (l := es) rfl hlt
    obtain ⟨h1, h2⟩ := hk.2 i e p he hi
    have hc := fun j v hj => hb.cell (i * 7 + j) v (by simpa using flat7_get es i e he j v hj)
    rw [← h1]
    refine ⟨b, 0, e.2, rfl, hS, ⟨?_, ?_, ?_, ?_, ?_, ?_, ?_⟩, h2⟩
    · simpa using hc 0 _ rfl
    · simpa [Nat.add_assoc] using hc 1 _ rfl
    · simpa [Nat.add_assoc] using hc 2 _ rfl
    · simpa [Nat.add_assoc] using hc 3 _ rfl
    · simpa [Nat.add_assoc] using hc 4 _ rfl
    · simpa [Nat.add_assoc] using hc 5 _ rfl
    · simpa [Nat.add_assoc] using hc 6 _ rfl⟩
end Go.Proofs.YtfngaoicoecncaaGreatDoor
