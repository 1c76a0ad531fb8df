/-
  Maps as lists of pairs, the last one of a key counting: what the reference's map of pairs is. No memory, no program.
-/
import Derived.Test.YtfngaoicoecncaaGreatDoorPure
import Derived.Lib.Strings
namespace Go.Proofs.YtfngaoicoecncaaGreatDoor
open Go.RowKit

theorem bless_eq : ∀ (x y : List UInt8), Op.bytesLess x y = decide (x < y)
  | [], [] => by simp [Op.bytesLess]
  | _ :: _, [] => by simp [Op.bytesLess]
  | [], _ :: _ => by simp [Op.bytesLess]
  | a :: x, b :: y => by
    rw [Op.bytesLess, bless_eq x y]
    simp only [List.cons_lt_cons_iff]
    by_cases h1 : a < b <;> by_cases h2 : a = b <;> by_cases h3 : x < y <;> simp [h1, h2, h3]
/-- Strictly ahead, byte by byte. -/
def lt (a b : ByteArray) : Prop := a.toList < b.toList
theorem bless_iff (a b : ByteArray) : Op.bytesLess a.toList b.toList = true ↔ lt a b := by rw [bless_eq]; simp [lt]
theorem lt_irrefl (a : ByteArray) : ¬ lt a a := List.lt_irrefl _
theorem lt_trans {a b c : ByteArray} (h : lt a b) (k : lt b c) : lt a c := List.lt_trans h k
theorem toList_inj {a b : ByteArray} (h : a.toList = b.toList) : a = b := by
  rw [Lib.toList_data, Lib.toList_data] at h
  exact ByteArray.ext (Array.toList_inj.1 h)
theorem seq_iff {a b : ByteArray} : seq a b = true ↔ a = b := by
  simp only [seq, beq_iff_eq]
  exact ⟨toList_inj, fun h => by rw [h]⟩
theorem seq_self (a : ByteArray) : seq a a = true := seq_iff.2 rfl
theorem seq_false {a b : ByteArray} : seq a b = false ↔ a ≠ b := by
  rw [← Bool.not_eq_true, seq_iff]
theorem lt_tri {a b : ByteArray} (h : ¬ lt a b) (k : a ≠ b) : lt b a := by
  refine Classical.byContradiction fun hn => k (toList_inj (List.le_antisymm (List.not_lt.1 hn) (List.not_lt.1 h)))

section
variable {α : Type}
/-- The last value of a key. -/
def lastOf (ps : List (ByteArray × α)) (k : ByteArray) : Option α := ps.foldl (fun o p => if seq p.1 k then some p.2 else o) none
theorem lastOf_nil (k : ByteArray) : lastOf ([] : List (ByteArray × α)) k = none := rfl
theorem lastOf_snoc (ps : List (ByteArray × α)) (p : ByteArray × α) (k : ByteArray) : lastOf (ps ++ [p]) k = if seq p.1 k then some p.2 else lastOf ps k := by simp [lastOf, List.foldl_append]
theorem lastOf_fold (ps : List (ByteArray × α)) (k : ByteArray) (o : Option α) : ps.foldl (fun o p => if seq p.1 k then some p.2 else o) o = (lastOf ps k).or o := by
  induction ps generalizing o with
  | nil => simp [lastOf]
  | cons p r ih =>
    unfold lastOf
    simp only [List.foldl_cons]
    rw [ih, ih]
    cases lastOf r k <;> cases seq p.1 k <;> simp
theorem lastOf_cons (p : ByteArray × α) (ps : List (ByteArray × α)) (k : ByteArray) : lastOf (p :: ps) k = (lastOf ps k).or (if seq p.1 k then some p.2 else none) := by
  show List.foldl _ _ _ = _
  rw [List.foldl_cons, lastOf_fold]
theorem lastOf_append (ps qs : List (ByteArray × α)) (k : ByteArray) : lastOf (ps ++ qs) k = (lastOf qs k).or (lastOf ps k) := by
  unfold lastOf
  rw [List.foldl_append]
  exact lastOf_fold qs k _
theorem lastOf_map {β : Type} (f : α → β) (ps : List (ByteArray × α)) (k : ByteArray) : lastOf (ps.map fun p => (p.1, f p.2)) k = (lastOf ps k).map f := by
  induction ps with
  | nil => rfl
  | cons p r ih => rw [List.map_cons, lastOf_cons, lastOf_cons, ih]; cases lastOf r k <;> cases seq p.1 k <;> simp
theorem lastOf_mem {ps : List (ByteArray × α)} {k : ByteArray} {v : α} (h : lastOf ps k = some v) : (k, v) ∈ ps := by
  induction ps with
  | nil => cases h
  | cons p r ih =>
    rw [lastOf_cons] at h
    cases hr : lastOf r k with
    | some u => rw [hr] at h; simp at h; subst h; exact List.mem_cons_of_mem _ (ih hr)
    | none =>
      rw [hr] at h
      simp only [Option.none_or] at h
      split at h
      · rename_i hs
        simp at h
        have := seq_iff.1 hs
        obtain ⟨p1, p2⟩ := p
        simp only at this h
        subst this; subst h
        exact List.mem_cons_self
      · cases h
theorem lastOf_isSome {ps : List (ByteArray × α)} {k : ByteArray} (h : k ∈ ps.map Prod.fst) : ∃ v, lastOf ps k = some v := by
  induction ps with
  | nil => cases h
  | cons p r ih =>
    rw [lastOf_cons]
    rcases List.mem_cons.1 h with h1 | h1
    · cases lastOf r k with
      | some u => exact ⟨u, rfl⟩
      | none => exact ⟨p.2, by simp [h1, seq_self]⟩
    · obtain ⟨v, hv⟩ := ih h1
      exact ⟨v, by rw [hv]; rfl⟩

/-- Strictly rising keys. -/
def Rising (ps : List (ByteArray × α)) : Prop := ps.Pairwise fun p q => lt p.1 q.1
theorem rising_mem {ps : List (ByteArray × α)} (h : Rising ps) {k : ByteArray} {v : α} : (k, v) ∈ ps ↔ lastOf ps k = some v := by
  refine ⟨fun hm => ?_, lastOf_mem⟩
  induction ps with
  | nil => cases hm
  | cons p r ih =>
    obtain ⟨h1, h2⟩ := List.pairwise_cons.1 h
    rw [lastOf_cons]
    rcases List.mem_cons.1 hm with e | hm
    · have hno : lastOf r k = none := by
        cases hr : lastOf r k with
        | none => rfl
        | some u =>
          have := h1 _ (lastOf_mem hr)
          rw [← e] at this
          exact absurd this (lt_irrefl _)
      rw [hno, ← e]
      simp [seq_self]
    · rw [ih h2 hm]
      rfl
theorem rising_eq {ps qs : List (ByteArray × α)} (h : Rising ps) (k : Rising qs) (e : ∀ x, lastOf ps x = lastOf qs x) : ps = qs := by
  have hm : ∀ p, p ∈ ps ↔ p ∈ qs := fun p => by obtain ⟨x, v⟩ := p; rw [rising_mem h, rising_mem k, e]
  have nd : ∀ {l : List (ByteArray × α)}, Rising l → l.Nodup := fun hl => hl.imp fun {a b} hab e => by subst e; exact lt_irrefl _ hab
  refine List.Perm.eq_of_pairwise (le := fun (p q : ByteArray × α) => lt p.1 q.1) (fun a b _ _ h1 h2 => absurd (lt_trans h1 h2) (lt_irrefl _)) h k ((List.perm_ext_iff_of_nodup (nd h) (nd k)).2 hm)

/-! ### one key more -/
def insR (key : ByteArray) (kid : α) : List (ByteArray × α) → List (ByteArray × α)
  | [] => [(key, kid)]
  | p :: r => if Op.bytesLess p.1.toList key.toList then p :: insR key kid r else (key, kid) :: (p :: r).filter fun q => !seq q.1 key
theorem wfold_done (key : ByteArray) (kid : α) (l : List (ByteArray × α)) (a : List ByteArray) (b : List α) :
    l.foldl (wstep key kid) (a, b, true) = (a ++ (l.filter fun q => !seq q.1 key).map Prod.fst, b ++ (l.filter fun q => !seq q.1 key).map Prod.snd, true) := by
  induction l generalizing a b with
  | nil => simp
  | cons p r ih =>
    rw [List.foldl_cons]
    have e : wstep key kid (a, b, true) p = if seq p.1 key then (a, b, true) else (a ++ [p.1], b ++ [p.2], true) := by simp [wstep]
    rw [e]
    cases hs : seq p.1 key <;> simp [ih, hs]
theorem wfold_insR (key : ByteArray) (kid : α) (l : List (ByteArray × α)) (a : List ByteArray) (b : List α) :
    (wend key kid (l.foldl (wstep key kid) (a, b, false))).1 = a ++ (insR key kid l).map Prod.fst ∧ (wend key kid (l.foldl (wstep key kid) (a, b, false))).2.1 = b ++ (insR key kid l).map Prod.snd := by
  induction l generalizing a b with
  | nil => simp [wend, insR]
  | cons p r ih =>
    rw [List.foldl_cons]
    unfold insR
    cases hb : Op.bytesLess p.1.toList key.toList
    · have e : wstep key kid (a, b, false) p = if seq p.1 key then (a ++ [key], b ++ [kid], true) else (a ++ [key] ++ [p.1], b ++ [kid] ++ [p.2], true) := by simp [wstep, hb]
      rw [e]
      cases hs : seq p.1 key <;> simp [wfold_done, wend, hs]
    · have hns : seq p.1 key = false := seq_false.2 fun e => by rw [e] at hb; exact lt_irrefl _ ((bless_iff _ _).1 hb)
      have e : wstep key kid (a, b, false) p = (a ++ [p.1], b ++ [p.2], false) := by simp [wstep, hb, hns]
      rw [e, (ih _ _).1, (ih _ _).2]
      simp
theorem insR_mem {key : ByteArray} {kid : α} {l : List (ByteArray × α)} {q : ByteArray × α} (h : q ∈ insR key kid l) : q = (key, kid) ∨ q ∈ l := by
  induction l with
  | nil => simpa [insR] using h
  | cons p r ih =>
    unfold insR at h
    split at h
    · rcases List.mem_cons.1 h with e | h
      · exact .inr (by rw [e]; exact List.mem_cons_self)
      · rcases ih h with e | h
        · exact .inl e
        · exact .inr (List.mem_cons_of_mem _ h)
    · rcases List.mem_cons.1 h with e | h
      · exact .inl e
      · exact .inr (List.mem_filter.1 h).1
theorem insR_rising {key : ByteArray} {kid : α} {l : List (ByteArray × α)} (h : Rising l) : Rising (insR key kid l) := by
  induction l with
  | nil => simp [insR, Rising]
  | cons p r ih =>
    obtain ⟨h1, h2⟩ := List.pairwise_cons.1 h
    unfold insR
    split
    · rename_i hb
      refine List.pairwise_cons.2 ⟨fun q hq => ?_, ih h2⟩
      rcases insR_mem hq with e | hq
      · rw [e]; exact (bless_iff _ _).1 hb
      · exact h1 q hq
    · rename_i hb
      refine List.pairwise_cons.2 ⟨fun q hq => ?_, h.filter _⟩
      obtain ⟨hq1, hq2⟩ := List.mem_filter.1 hq
      have hne : q.1 ≠ key := seq_false.1 (by simpa using hq2)
      have hpk : ¬ lt p.1 key := fun e => hb ((bless_iff _ _).2 e)
      rcases List.mem_cons.1 hq1 with e | hq1
      · rw [e] at hne ⊢
        exact lt_tri hpk hne
      · refine lt_tri (fun e => hpk (lt_trans (h1 q hq1) e)) hne
theorem insR_last {key : ByteArray} {kid : α} {l : List (ByteArray × α)} (h : Rising l) (k : ByteArray) : lastOf (insR key kid l) k = if seq key k then some kid else lastOf l k := by
  by_cases e : key = k
  · subst e
    rw [seq_self, if_pos rfl]
    refine (rising_mem (insR_rising h)).1 ?_
    induction l with
    | nil => simp [insR]
    | cons p r ih =>
      unfold insR
      split
      · exact List.mem_cons_of_mem _ (ih (List.pairwise_cons.1 h).2)
      · exact List.mem_cons_self
  · rw [seq_false.2 e]
    simp only [Bool.false_eq_true, if_false]
    clear h
    induction l with
    | nil => simp [insR, lastOf, seq_false.2 e]
    | cons p r ih =>
      unfold insR
      split
      · rw [lastOf_cons, lastOf_cons, ih]
      · rw [lastOf_cons]
        simp only [seq_false.2 e, Bool.false_eq_true, if_false, Option.or_none]
        generalize p :: r = m
        induction m with
        | nil => rfl
        | cons q m ihm =>
          rw [List.filter_cons]
          cases hs : seq q.1 key
          · simp only [Bool.not_false, if_true]
            rw [lastOf_cons, lastOf_cons, ihm]
          · have : seq q.1 k = false := seq_false.2 fun e1 => e ((seq_iff.1 hs).symm.trans e1)
            simp only [Bool.not_true, Bool.false_eq_true, if_false]
            rw [ihm, lastOf_cons, this]
            simp
end

/-- A map as it is told: the keys rising. -/
def mapOf (l : List (ByteArray × T)) : T := .mk 5 emptyS 0 false (l.map Prod.fst) (l.map Prod.snd)
theorem withT_mapOf (l : List (ByteArray × T)) (key : ByteArray) (kid : T) : withT (mapOf l) key kid = mapOf (insR key kid l) := by
  have hz : (l.map Prod.fst).zip (l.map Prod.snd) = l := by
    induction l with
    | nil => rfl
    | cons p r ih => simp [ih]
  have := wfold_insR key kid l [] []
  unfold withT withL mapOf
  simp only [T.keys, T.kids]
  rw [hz, this.1, this.2]
  simp
theorem mapT_told (ps : List (ByteArray × T)) : ∃ l, mapT ps = mapOf l ∧ Rising l ∧ ∀ k, lastOf l k = lastOf ps k := by
  have key : ∀ (n : Nat), ∃ l, mapT (ps.take n) = mapOf l ∧ Rising l ∧ ∀ k, lastOf l k = lastOf (ps.take n) k := by
    intro n
    induction n with
    | zero => exact ⟨[], by simp [mapT, mapOf, emptyM], List.Pairwise.nil, fun _ => by simp⟩
    | succ n ih =>
      obtain ⟨l, h1, h2, h3⟩ := ih
      by_cases hn : n < ps.length
      · have e : ps.take (n + 1) = ps.take n ++ [ps[n]] := by simp
        refine ⟨insR ps[n].1 ps[n].2 l, ?_, insR_rising h2, fun k => ?_⟩
        · rw [e]
          unfold mapT at h1 ⊢
          rw [List.foldl_append, h1]
          exact withT_mapOf _ _ _
        · rw [insR_last h2, e, lastOf_snoc, h3]
      · have e : ps.take (n + 1) = ps.take n := by rw [List.take_of_length_le (by omega), List.take_of_length_le (by omega)]
        rw [e]
        exact ⟨l, h1, h2, h3⟩
  have := key ps.length
  rwa [List.take_length] at this
/-- What a map of pairs is: by the last value of each key. -/
theorem mapT_congr {ps qs : List (ByteArray × T)} (h : ∀ k, lastOf ps k = lastOf qs k) : mapT ps = mapT qs := by
  obtain ⟨l, h1, h2, h3⟩ := mapT_told ps
  obtain ⟨m, k1, k2, k3⟩ := mapT_told qs
  rw [h1, k1, rising_eq h2 k2 fun x => by rw [h3, k3, h]]
theorem mapT_of {ps l : List (ByteArray × T)} (h2 : Rising l) (h3 : ∀ k, lastOf l k = lastOf ps k) : mapT ps = mapOf l := by
  obtain ⟨m, k1, k2, k3⟩ := mapT_told ps
  rw [k1, rising_eq h2 k2 fun x => by rw [h3, k3]]
end Go.Proofs.YtfngaoicoecncaaGreatDoor
