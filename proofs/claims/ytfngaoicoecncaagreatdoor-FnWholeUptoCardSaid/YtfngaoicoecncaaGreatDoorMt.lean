/-
  A map handed over becomes a tree: its keys are gathered, sorted, and looked up.
-/
import Derived.Test.YtfngaoicoecncaaGreatDoorK
import Derived.Shelf.Sort.Plain
namespace Go.Proofs.YtfngaoicoecncaaGreatDoor
open Go.RowKit Go.Maps

/-! ### plain laws -/
abbrev mkB (x : List UInt8) : ByteArray := ⟨x.toArray⟩
theorem mkB_data (x : List UInt8) : (mkB x).data.toList = x := by simp
theorem mkB_toList (x : List UInt8) : (mkB x).toList = x := by rw [Lib.toList_data]

theorem keys_told {K : List ByteArray} {qs : List (ByteArray × T)} (hR : K.Pairwise lt) (hm : ∀ k, k ∈ K ↔ (lastOf qs k).isSome = true) : mapT qs = .mk 5 emptyS 0 false K (K.map fun k => (lastOf qs k).getD nullT) := by
  have h1 : Rising (K.map fun k => (k, (lastOf qs k).getD nullT)) := List.pairwise_map.2 hR
  rw [mapT_of h1 fun k => ?_]
  · unfold mapOf
    rw [List.map_map, List.map_map]
    simp [Function.comp_def]
  · cases hq : lastOf qs k with
    | some t => exact (rising_mem h1).1 (List.mem_map.2 ⟨k, (hm k).2 (by rw [hq]; rfl), by rw [hq]; rfl⟩)
    | none =>
      cases hl : lastOf (K.map fun k => (k, (lastOf qs k).getD nullT)) k with
      | none => rfl
      | some t =>
        obtain ⟨k', hk', e⟩ := List.mem_map.1 (lastOf_mem hl)
        simp only [Prod.mk.injEq] at e
        rw [e.1] at hk'
        have := (hm k).1 hk'
        rw [hq] at this
        cases this
theorem zip_some {α β : Type} : ∀ (ks : List ByteArray) (vs : List α) (ts : List β), vs.length = ts.length → ∀ k, (lastOf (ks.zip vs) k).isSome = (lastOf (ks.zip ts) k).isSome
  | [], _, _, _, _ => rfl
  | _ :: _, [], [], _, _ => rfl
  | x :: ks, v :: vs, t :: ts, h, k => by
    have := zip_some ks vs ts (by simpa using h) k
    rw [List.zip_cons_cons, List.zip_cons_cons, lastOf_cons, lastOf_cons]
    cases h1 : lastOf (ks.zip vs) k <;> cases h2 : lastOf (ks.zip ts) k <;> rw [h1, h2] at this <;> simp at this ⊢
    cases seq x k <;> simp
  | _ :: _, [], _ :: _, h, _ => by simp at h
  | _ :: _, _ :: _, [], h, _ => by simp at h
theorem zip_last {S : Nat → Prop} {w : World} : ∀ {ks : List ByteArray} {vs : List Value} {js : List J} {k : ByteArray} {t : T}, JsAt S w vs js → lastOf (ks.zip (treesJ js)) k = some t → ∃ v q, lastOf (ks.zip vs) k = some v ∧ q ∈ js ∧ treeJ q = t ∧ JAt S w v q
  | [], _, _, _, _, _, h => by cases h
  | _ :: _, _, [], _, _, _, h => by cases h
  | _ :: _, [], _ :: _, _, _, h, _ => by simp [JsAt] at h
  | x :: ks, v :: vs, j :: js, k, t, hJ, h => by
    simp only [JsAt] at hJ
    simp only [treesJ, List.zip_cons_cons] at h ⊢
    rw [lastOf_cons] at h ⊢
    cases hl : lastOf (ks.zip (treesJ js)) k with
    | some u =>
      rw [hl] at h
      simp at h
      subst h
      obtain ⟨v', q, h1, h2, h3, h4⟩ := zip_last hJ.2 hl
      exact ⟨v', q, by rw [h1]; rfl, List.mem_cons_of_mem _ h2, h3, h4⟩
    | none =>
      have hn : lastOf (ks.zip vs) k = none := by
        have := zip_some ks vs (treesJ js) (by rw [treesJ_len]; exact hJ.2.len) k
        rw [hl] at this
        cases hv : lastOf (ks.zip vs) k with
        | none => rfl
        | some _ => rw [hv] at this; cases this
      rw [hl] at h
      rw [hn]
      simp only [Option.none_or] at h ⊢
      split at h
      · rename_i hs
        simp at h
        exact ⟨v, j, by rw [if_pos hs], List.mem_cons_self, h, hJ.1⟩
      · cases h
theorem sorted_rising {l : List (List UInt8)} (h : l.Nodup) : ((l.mergeSort leB).map mkB).Pairwise lt := by
  have tr : ∀ a b c : List UInt8, leB a b = true → leB b c = true → leB a c = true := fun a b c h1 h2 => by simp only [leB, decide_eq_true_eq] at *; exact List.le_trans h1 h2
  have tot : ∀ a b : List UInt8, (leB a b || leB b a) = true := fun a b => by simp only [leB, Bool.or_eq_true, decide_eq_true_eq]; exact List.le_total a b
  have h1 := List.pairwise_mergeSort tr tot l
  have h2 : (l.mergeSort leB).Nodup := (List.mergeSort_perm l leB).nodup_iff.2 h
  refine List.pairwise_map.2 (List.Pairwise.imp₂ (fun {a b} hab hne => ?_) h1 h2)
  unfold lt
  rw [mkB_toList, mkB_toList]
  simp only [leB, decide_eq_true_eq] at hab
  exact Classical.byContradiction fun hn => hne (List.le_antisymm hab (List.not_lt.1 hn))

theorem insertion_nil (w : World) : Calls Tryz.prog 130 #[.slice none 0 0, .int .i64 0, .int .i64 0] w fun r w' => r = .returned (.tuple #[]) ∧ w' = w := by
  go_enter Tryz.func130, Tryz.ntmps130
  go_wp2
  refine wp_loop_rounds 1 ?_
  rw [rounds_succ]
  go_wp2
  go_end0
  exact ⟨rfl, rfl⟩
set_option maxRecDepth 100000 in
set_option maxHeartbeats 2000000 in
theorem pdq_nil (n : Int) (w : World) : Calls Tryz.prog 117 #[.slice none 0 0, .int .i64 0, .int .i64 0, .int .i64 n] w fun r w' => r = .returned (.tuple #[]) ∧ w' = w := by
  go_enter Tryz.func117, Tryz.ntmps117
  go_wp2
  refine wp_loop_rounds 1 ?_
  rw [rounds_succ]
  go_wp2_with (first | (go_at_call 130; refine (insertion_nil _).mono ?_; rintro e w' ⟨rfl, rfl⟩))
  refine bodyPost_ret (results_none rfl _ _ _) rfl ?_
  exact ⟨rfl, rfl⟩
set_option maxRecDepth 100000 in
set_option maxHeartbeats 2000000 in
theorem sort_nil (w : World) : Calls Tryz.prog 109 #[.slice none 0 0] w fun r w' => r = .returned (.tuple #[]) ∧ w' = w := by
  go_enter Tryz.func109, Tryz.ntmps109
  go_wp2_with (first | (go_at_call 117; refine (pdq_nil _ _).mono ?_; rintro e w' ⟨rfl, rfl⟩) | go_in)
  go_end0
  exact ⟨rfl, rfl⟩
end Go.Proofs.YtfngaoicoecncaaGreatDoor
