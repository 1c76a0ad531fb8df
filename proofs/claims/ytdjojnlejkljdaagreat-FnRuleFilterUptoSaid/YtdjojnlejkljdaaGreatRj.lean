/-
  Rules of intervals: what is handed over, what is told, and that both are the same.
-/
import Derived.Test.YtdjojnlejkljdaaGreatNm
import Derived.Test.YtdjojnlejkljdaaGreatRl
import Derived.Test.YtdjojnlejkljdaaGreatLx
namespace Go.Proofs.YtdjojnlejkljdaaGreat
open Go.RowKit

abbrev s_after : ByteArray := ⟨#[97, 102, 116, 101, 114]⟩
abbrev s_all_of : ByteArray := ⟨#[97, 108, 108, 95, 111, 102]⟩
abbrev s_any_of : ByteArray := ⟨#[97, 110, 121, 95, 111, 102]⟩
abbrev s_before : ByteArray := ⟨#[98, 101, 102, 111, 114, 101]⟩
abbrev s_contained_by : ByteArray := ⟨#[99, 111, 110, 116, 97, 105, 110, 101, 100, 95, 98, 121]⟩
abbrev s_containing : ByteArray := ⟨#[99, 111, 110, 116, 97, 105, 110, 105, 110, 103]⟩
abbrev s_intervals : ByteArray := ⟨#[105, 110, 116, 101, 114, 118, 97, 108, 115]⟩
abbrev s_not_contained_by : ByteArray := ⟨#[110, 111, 116, 95, 99, 111, 110, 116, 97, 105, 110, 101, 100, 95, 98, 121]⟩
abbrev s_not_containing : ByteArray := ⟨#[110, 111, 116, 95, 99, 111, 110, 116, 97, 105, 110, 105, 110, 103]⟩
abbrev s_not_overlapping : ByteArray := ⟨#[110, 111, 116, 95, 111, 118, 101, 114, 108, 97, 112, 112, 105, 110, 103]⟩
abbrev s_overlapping : ByteArray := ⟨#[111, 118, 101, 114, 108, 97, 112, 112, 105, 110, 103]⟩
abbrev s_pattern : ByteArray := ⟨#[112, 97, 116, 116, 101, 114, 110]⟩
end Go.Proofs.YtdjojnlejkljdaaGreat

namespace Go.Proofs.YtdjojnlejkljdaaGreat
open Go.RowKit

abbrev sRuleMatch : ByteArray := ⟨#[82, 117, 108, 101, 77, 97, 116, 99, 104]⟩
abbrev tRuleMatch : ByteArray := ⟨#[97, 110, 97, 108, 121, 122, 101, 114, 32, 116, 44, 109, 97, 120, 95, 103, 97, 112, 115, 32, 119, 44, 111, 114, 100, 101, 114, 101, 100, 32, 98, 44, 117, 115, 101, 95, 102, 105, 101, 108, 100, 32, 116]⟩
abbrev rRuleMatch : List (ByteArray × ByteArray) := [(s_analyzer, ⟨#[116]⟩), (s_max_gaps, ⟨#[119]⟩), (s_ordered, ⟨#[98]⟩), (s_use_field, ⟨#[116]⟩)]
abbrev sRulePrefix : ByteArray := ⟨#[82, 117, 108, 101, 80, 114, 101, 102, 105, 120]⟩
abbrev tRulePrefix : ByteArray := ⟨#[97, 110, 97, 108, 121, 122, 101, 114, 32, 116, 44, 117, 115, 101, 95, 102, 105, 101, 108, 100, 32, 116]⟩
abbrev rRulePrefix : List (ByteArray × ByteArray) := [(s_analyzer, ⟨#[116]⟩), (s_use_field, ⟨#[116]⟩)]
abbrev sRuleFuzzy : ByteArray := ⟨#[82, 117, 108, 101, 70, 117, 122, 122, 121]⟩
abbrev tRuleFuzzy : ByteArray := ⟨#[97, 110, 97, 108, 121, 122, 101, 114, 32, 116, 44, 102, 117, 122, 122, 105, 110, 101, 115, 115, 32, 118, 44, 112, 114, 101, 102, 105, 120, 95, 108, 101, 110, 103, 116, 104, 32, 119, 44, 116, 114, 97, 110, 115, 112, 111, 115, 105, 116, 105, 111, 110, 115, 32, 98, 44, 117, 115, 101, 95, 102, 105, 101, 108, 100, 32, 116]⟩
abbrev rRuleFuzzy : List (ByteArray × ByteArray) := [(s_analyzer, ⟨#[116]⟩), (s_fuzziness, ⟨#[118]⟩), (s_prefix_length, ⟨#[119]⟩), (s_transpositions, ⟨#[98]⟩), (s_use_field, ⟨#[116]⟩)]
abbrev sRuleAllOf : ByteArray := ⟨#[82, 117, 108, 101, 65, 108, 108, 79, 102]⟩
abbrev tRuleAllOf : ByteArray := ⟨#[109, 97, 120, 95, 103, 97, 112, 115, 32, 119, 44, 111, 114, 100, 101, 114, 101, 100, 32, 98]⟩
abbrev rRuleAllOf : List (ByteArray × ByteArray) := [(s_max_gaps, ⟨#[119]⟩), (s_ordered, ⟨#[98]⟩)]
def rowsR (k : Int) : List (ByteArray × ByteArray) := if k = 1 then rRulePrefix else if k = 2 then rRulePrefix else if k = 3 then rRuleFuzzy else if k = 4 then rRuleAllOf else if k = 0 then rRuleMatch else []
def kindS (k : Int) : ByteArray := if k = 1 then s_prefix else if k = 2 then s_wildcard else if k = 3 then s_fuzzy else if k = 4 then s_all_of else if k = 5 then s_any_of else s_match
def mainT (k : Int) (x : ByteArray) (kids : T) : ByteArray × T := if k = 1 then (s_prefix, textT x) else if k = 2 then (s_pattern, textT x) else if k = 3 then (s_term, textT x) else if k = 4 then (s_intervals, kids) else if k = 5 then (s_intervals, kids) else (s_query, textT x)
abbrev sieveNames : List ByteArray := [s_after, s_before, s_contained_by, s_containing, s_not_contained_by, s_not_containing, s_not_overlapping, s_overlapping]
abbrev fNames : List ByteArray := [s_before, s_after, s_contained_by, s_containing, s_overlapping, s_not_contained_by, s_not_containing, s_not_overlapping]
def filL (ns : List ByteArray) (ts : List T) : List (ByteArray × T) := if ts.isEmpty then [] else [(s_filter, mapT (ns.zip ts))]
mutual
/-- A rule as it is told. -/
def ruleT : Rl → T
  | .mk k x ps ks ns rs => mapT [(kindS k, mapT (paramsL (rowsR k) ps ++ filL ns (rulesT rs) ++ [mainT k x (listT (rulesT ks))]))]
def rulesT : List Rl → List T
  | [] => []
  | r :: l => ruleT r :: rulesT l
end
def jFilter (l : List (ByteArray × J)) : List (ByteArray × J) := fNames.filterMap fun nm => (lastOf l nm).map fun j => (nm, j)
def jFil (ns : List ByteArray) (js : List J) : List (ByteArray × J) := if js.isEmpty then [] else [(s_filter, jMap (jFilter (ns.zip js)))]
mutual
/-- A rule as it is handed over. -/
def jRule : Rl → J
  | .mk k x ps ks ns rs =>
    if k = 1 then jMap [(s_prefix, jMap ([(s_prefix, .str x)] ++ jT s_analyzer (lastOf ps s_analyzer) ++ jT s_use_field (lastOf ps s_use_field)))]
    else if k = 2 then jMap [(s_wildcard, jMap ([(s_pattern, .str x)] ++ jT s_analyzer (lastOf ps s_analyzer) ++ jT s_use_field (lastOf ps s_use_field)))]
    else if k = 3 then jMap [(s_fuzzy, jMap ([(s_term, .str x)] ++ jW s_prefix_length (lastOf ps s_prefix_length) ++ jY s_transpositions (lastOf ps s_transpositions) ++ jV s_fuzziness (lastOf ps s_fuzziness) ++ jT s_analyzer (lastOf ps s_analyzer) ++ jT s_use_field (lastOf ps s_use_field)))]
    else if k = 4 then jMap [(s_all_of, jMap ([(s_intervals, .list (jRules ks))] ++ jY s_ordered (lastOf ps s_ordered) ++ jW s_max_gaps (lastOf ps s_max_gaps) ++ jFil ns (jRules rs)))]
    else if k = 5 then jMap [(s_any_of, jMap ([(s_intervals, .list (jRules ks))] ++ jFil ns (jRules rs)))]
    else jMap [(s_match, jMap ([(s_query, .str x)] ++ jY s_ordered (lastOf ps s_ordered) ++ jW s_max_gaps (lastOf ps s_max_gaps) ++ jT s_analyzer (lastOf ps s_analyzer) ++ jT s_use_field (lastOf ps s_use_field) ++ jFil ns (jRules rs)))]
def jRules : List Rl → List J
  | [] => []
  | r :: l => jRule r :: jRules l
end
theorem jRules_eq : ∀ l : List Rl, jRules l = l.map jRule
  | [] => rfl
  | r :: l => by rw [jRules, jRules_eq l]; rfl
theorem rulesT_eq : ∀ l : List Rl, rulesT l = l.map ruleT
  | [] => rfl
  | r :: l => by rw [rulesT, rulesT_eq l]; rfl
mutual
/-- A rule as it must be. -/
def FitR : Rl → Prop
  | .mk k _ ps ks ns rs => 0 ≤ k ∧ k ≤ 5 ∧ FitsP (rowsR k) ps ∧ (k = 3 → ∃ t, lastOf ps s_fuzziness = some t) ∧ (rs ≠ [] → k = 0 ∨ k = 4 ∨ k = 5) ∧ FitRs ks ∧ (∀ nm ∈ ns, nm ∈ sieveNames) ∧ FitRs rs
def FitRs : List Rl → Prop
  | [] => True
  | r :: l => FitR r ∧ FitRs l
end
theorem fitRs_iff : ∀ l : List Rl, FitRs l ↔ ∀ r ∈ l, FitR r
  | [] => by simp [FitRs]
  | r :: l => by simp [FitRs, fitRs_iff l]
theorem last_names {α : Type} (f : ByteArray → Option α) : ∀ (L : List ByteArray) (_ : L.Nodup) (k : ByteArray), lastOf (L.filterMap fun nm => (f nm).map fun v => (nm, v)) k = if hasS L k = true then f k else none
  | [], _, k => by simp [lastOf_nil, hasS]
  | n :: L, h, k => by
    obtain ⟨h1, h2⟩ := List.nodup_cons.1 h
    have ih := last_names f L h2 k
    by_cases hk : k = n
    · subst hk
      have h3 : ¬ hasS L k = true := fun h => by
        unfold hasS at h
        obtain ⟨y, hy, e⟩ := List.any_eq_true.1 h
        exact h1 (seq_iff.1 e ▸ hy)
      rw [if_pos (by simp [hasS, seq_self])]
      rw [if_neg h3] at ih
      cases hf : f k with
      | none => rw [List.filterMap_cons_none (by simp [hf])]; exact ih
      | some v => rw [List.filterMap_cons_some (by simp [hf]; rfl), lastOf_cons, ih]; simp [seq_self]
    · have e : hasS (n :: L) k = hasS L k := by
        unfold hasS
        rw [List.any_cons, seq_false.2 (fun e => hk e.symm : n ≠ k), Bool.false_or]
      rw [e]
      cases hf : f n with
      | none => rw [List.filterMap_cons_none (by simp [hf])]; exact ih
      | some v =>
        rw [List.filterMap_cons_some (by simp [hf]; rfl), lastOf_cons, ih]
        simp [seq_false.2 (fun e => hk e.symm : n ≠ k)]
theorem zip_mapR {α : Type} (f : Rl → α) : ∀ (ns : List ByteArray) (rs : List Rl), ns.zip (rs.map f) = (ns.zip rs).map fun p => (p.1, f p.2)
  | [], _ => rfl
  | _ :: _, [] => rfl
  | n :: ns, r :: rs => by simp [zip_mapR f ns rs]
abbrev SameR (r : Rl) : Prop := sameT (treeJ (jRule r)) (ruleT r) = true
theorem fil_map (ns : List ByteArray) (rs : List Rl) (hn : ∀ nm ∈ ns, nm ∈ sieveNames) (hr : ∀ r ∈ rs, SameR r) : sameT (treeJ (jMap (jFilter (ns.zip (jRules rs))))) (mapT (ns.zip (rulesT rs))) = true := by
  rw [treeJ_jMap]
  refine sameT_map fun k => ?_
  rw [lastOf_map, jRules_eq, rulesT_eq, zip_mapR, zip_mapR, lastOf_map]
  unfold jFilter
  rw [last_names _ fNames (by decide) k]
  by_cases hk : hasS fNames k = true
  · rw [if_pos hk, lastOf_map]
    cases hl : lastOf (ns.zip rs) k with
    | none => simp [OptSame]
    | some r =>
      simp only [Option.map_some, OptSame]
      exact hr r (List.of_mem_zip (lastOf_mem hl)).2
  · rw [if_neg hk]
    have hl : lastOf (ns.zip rs) k = none := lastOf_none fun i p hp e => hk (by
      have h1 := hn p.1 (List.of_mem_zip (List.mem_of_getElem? hp)).1
      rw [e] at h1
      simp only [List.mem_cons, List.not_mem_nil, or_false] at h1
      rcases h1 with h | h | h | h | h | h | h | h <;> (rw [h]; simp [hasS, seq_self]))
    rw [hl]
    simp [OptSame]
theorem fil_same (ns : List ByteArray) (rs : List Rl) (hn : ∀ nm ∈ ns, nm ∈ sieveNames) (hr : ∀ r ∈ rs, SameR r) : SameL (jTree (jFil ns (jRules rs))) (filL ns (rulesT rs)) := by
  unfold jFil filL
  cases rs with
  | nil => simp [jRules, rulesT]; exact SameL.nil
  | cons r l =>
    rw [if_neg (by simp [jRules]), if_neg (by simp [rulesT])]
    exact SameL.one s_filter (fil_map ns (r :: l) hn hr)
theorem keys_fil (ns : List ByteArray) (ts : List T) : KeysIn (filL ns ts) [s_filter] := fun p hp => by
  unfold filL at hp
  split at hp
  · cases hp
  · simp at hp; subst hp; simp
theorem kids_same (ks : List Rl) (h : ∀ r ∈ ks, SameR r) : sameT (treeJ (.list (jRules ks))) (listT (rulesT ks)) = true := by
  have h2 : ∀ l : List Rl, (∀ r ∈ l, SameR r) → samesT (treesJ (jRules l)) (rulesT l) = true ∧ (treesJ (jRules l)).length = (rulesT l).length := fun l => by
    induction l with
    | nil => intro _; simp [jRules, rulesT, treesJ, samesT]
    | cons r l ih =>
      intro hl
      obtain ⟨i1, i2⟩ := ih fun q hq => hl q (by simp [hq])
      simp only [jRules, rulesT, treesJ, samesT, List.length_cons, i2, Bool.and_eq_true]
      exact ⟨⟨hl r (by simp), i1⟩, trivial⟩
  obtain ⟨h3, h4⟩ := h2 ks h
  simp only [treeJ, listT, sameT]
  simp [h3, h4, seqs]
theorem same_prefix (x : ByteArray) {ps : List (ByteArray × T)} (hF : FitsP rRulePrefix ps) : SameL (jTree ([(s_prefix, J.str x)] ++ jT s_analyzer (lastOf ps s_analyzer) ++ jT s_use_field (lastOf ps s_use_field))) (paramsL rRulePrefix ps ++ [(s_prefix, textT x)]) := by
  let chs : Nat → Ch := fun i => match i with
    | 0 => (s_prefix, [(s_prefix, textT x)])
    | 1 => (s_analyzer, (param ps (s_analyzer, ⟨#[116]⟩)).toList)
    | 2 => (s_use_field, (param ps (s_use_field, ⟨#[116]⟩)).toList)
    | _ => (emptyS, [])
  have h0 : SameL (jTree ([(s_prefix, J.str x)] ++ jT s_analyzer (lastOf ps s_analyzer) ++ jT s_use_field (lastOf ps s_use_field))) ([(s_prefix, textT x)] ++ (param ps (s_analyzer, ⟨#[116]⟩)).toList ++ (param ps (s_use_field, ⟨#[116]⟩)).toList) := by
    unfold jTree
    rw [List.map_append, List.map_append]
    exact SameL.append (SameL.append (SameL.one s_prefix (sameT_self _ (okT_text x))) (jT_same hF (by rw [kindL_dec]; decide))) (jT_same hF (by rw [kindL_dec]; decide))
  have h1 := SameL.reorder (f := chs) [0, 1, 2] [1, 2, 0] (by decide) (show [s_prefix, s_analyzer, s_use_field].Nodup by decide) (by intro c hc; simp only [List.map_cons, List.map_nil, List.mem_cons, List.not_mem_nil, or_false] at hc; rcases hc with rfl | rfl | rfl <;> first | exact keys_param _ _ | exact keys_fil _ _ | exact keys_one _ _) (by simpa only [chs, flatC, List.map_cons, List.map_nil, List.flatMap_cons, List.flatMap_nil, List.append_nil, List.append_assoc] using h0)
  rw [params_cons, params_cons, params_nil]
  refine (show SameL _ _ from ?_)
  simpa only [chs, flatC, List.map_cons, List.map_nil, List.flatMap_cons, List.flatMap_nil, List.append_nil, List.append_assoc, List.cons_append, List.nil_append] using h1
theorem same_wildcard (x : ByteArray) {ps : List (ByteArray × T)} (hF : FitsP rRulePrefix ps) : SameL (jTree ([(s_pattern, J.str x)] ++ jT s_analyzer (lastOf ps s_analyzer) ++ jT s_use_field (lastOf ps s_use_field))) (paramsL rRulePrefix ps ++ [(s_pattern, textT x)]) := by
  let chs : Nat → Ch := fun i => match i with
    | 0 => (s_pattern, [(s_pattern, textT x)])
    | 1 => (s_analyzer, (param ps (s_analyzer, ⟨#[116]⟩)).toList)
    | 2 => (s_use_field, (param ps (s_use_field, ⟨#[116]⟩)).toList)
    | _ => (emptyS, [])
  have h0 : SameL (jTree ([(s_pattern, J.str x)] ++ jT s_analyzer (lastOf ps s_analyzer) ++ jT s_use_field (lastOf ps s_use_field))) ([(s_pattern, textT x)] ++ (param ps (s_analyzer, ⟨#[116]⟩)).toList ++ (param ps (s_use_field, ⟨#[116]⟩)).toList) := by
    unfold jTree
    rw [List.map_append, List.map_append]
    exact SameL.append (SameL.append (SameL.one s_pattern (sameT_self _ (okT_text x))) (jT_same hF (by rw [kindL_dec]; decide))) (jT_same hF (by rw [kindL_dec]; decide))
  have h1 := SameL.reorder (f := chs) [0, 1, 2] [1, 2, 0] (by decide) (show [s_pattern, s_analyzer, s_use_field].Nodup by decide) (by intro c hc; simp only [List.map_cons, List.map_nil, List.mem_cons, List.not_mem_nil, or_false] at hc; rcases hc with rfl | rfl | rfl <;> first | exact keys_param _ _ | exact keys_fil _ _ | exact keys_one _ _) (by simpa only [chs, flatC, List.map_cons, List.map_nil, List.flatMap_cons, List.flatMap_nil, List.append_nil, List.append_assoc] using h0)
  rw [params_cons, params_cons, params_nil]
  refine (show SameL _ _ from ?_)
  simpa only [chs, flatC, List.map_cons, List.map_nil, List.flatMap_cons, List.flatMap_nil, List.append_nil, List.append_assoc, List.cons_append, List.nil_append] using h1
theorem same_fuzzy (x : ByteArray) {ps : List (ByteArray × T)} (hF : FitsP rRuleFuzzy ps) : SameL (jTree ([(s_term, J.str x)] ++ jW s_prefix_length (lastOf ps s_prefix_length) ++ jY s_transpositions (lastOf ps s_transpositions) ++ jV s_fuzziness (lastOf ps s_fuzziness) ++ jT s_analyzer (lastOf ps s_analyzer) ++ jT s_use_field (lastOf ps s_use_field))) (paramsL rRuleFuzzy ps ++ [(s_term, textT x)]) := by
  let chs : Nat → Ch := fun i => match i with
    | 0 => (s_term, [(s_term, textT x)])
    | 1 => (s_prefix_length, (param ps (s_prefix_length, ⟨#[119]⟩)).toList)
    | 2 => (s_transpositions, (param ps (s_transpositions, ⟨#[98]⟩)).toList)
    | 3 => (s_fuzziness, (param ps (s_fuzziness, ⟨#[118]⟩)).toList)
    | 4 => (s_analyzer, (param ps (s_analyzer, ⟨#[116]⟩)).toList)
    | 5 => (s_use_field, (param ps (s_use_field, ⟨#[116]⟩)).toList)
    | _ => (emptyS, [])
  have h0 : SameL (jTree ([(s_term, J.str x)] ++ jW s_prefix_length (lastOf ps s_prefix_length) ++ jY s_transpositions (lastOf ps s_transpositions) ++ jV s_fuzziness (lastOf ps s_fuzziness) ++ jT s_analyzer (lastOf ps s_analyzer) ++ jT s_use_field (lastOf ps s_use_field))) ([(s_term, textT x)] ++ (param ps (s_prefix_length, ⟨#[119]⟩)).toList ++ (param ps (s_transpositions, ⟨#[98]⟩)).toList ++ (param ps (s_fuzziness, ⟨#[118]⟩)).toList ++ (param ps (s_analyzer, ⟨#[116]⟩)).toList ++ (param ps (s_use_field, ⟨#[116]⟩)).toList) := by
    unfold jTree
    rw [List.map_append, List.map_append, List.map_append, List.map_append, List.map_append]
    exact SameL.append (SameL.append (SameL.append (SameL.append (SameL.append (SameL.one s_term (sameT_self _ (okT_text x))) (jW_same hF (by rw [kindL_dec]; decide))) (jY_same hF (by rw [kindL_dec]; decide))) (jV_same hF _)) (jT_same hF (by rw [kindL_dec]; decide))) (jT_same hF (by rw [kindL_dec]; decide))
  have h1 := SameL.reorder (f := chs) [0, 1, 2, 3, 4, 5] [4, 3, 1, 2, 5, 0] (by decide) (show [s_term, s_prefix_length, s_transpositions, s_fuzziness, s_analyzer, s_use_field].Nodup by decide) (by intro c hc; simp only [List.map_cons, List.map_nil, List.mem_cons, List.not_mem_nil, or_false] at hc; rcases hc with rfl | rfl | rfl | rfl | rfl | rfl <;> first | exact keys_param _ _ | exact keys_fil _ _ | exact keys_one _ _) (by simpa only [chs, flatC, List.map_cons, List.map_nil, List.flatMap_cons, List.flatMap_nil, List.append_nil, List.append_assoc] using h0)
  rw [params_cons, params_cons, params_cons, params_cons, params_cons, params_nil]
  refine (show SameL _ _ from ?_)
  simpa only [chs, flatC, List.map_cons, List.map_nil, List.flatMap_cons, List.flatMap_nil, List.append_nil, List.append_assoc, List.cons_append, List.nil_append] using h1
theorem same_all_of (ks : List Rl) (hk : ∀ r ∈ ks, SameR r) (ns : List ByteArray) (rs : List Rl) (hn : ∀ nm ∈ ns, nm ∈ sieveNames) (hr : ∀ r ∈ rs, SameR r) {ps : List (ByteArray × T)} (hF : FitsP rRuleAllOf ps) : SameL (jTree ([(s_intervals, J.list (jRules ks))] ++ jY s_ordered (lastOf ps s_ordered) ++ jW s_max_gaps (lastOf ps s_max_gaps) ++ jFil ns (jRules rs))) (paramsL rRuleAllOf ps ++ filL ns (rulesT rs) ++ [(s_intervals, listT (rulesT ks))]) := by
  let chs : Nat → Ch := fun i => match i with
    | 0 => (s_intervals, [(s_intervals, listT (rulesT ks))])
    | 1 => (s_ordered, (param ps (s_ordered, ⟨#[98]⟩)).toList)
    | 2 => (s_max_gaps, (param ps (s_max_gaps, ⟨#[119]⟩)).toList)
    | 3 => (s_filter, filL ns (rulesT rs))
    | _ => (emptyS, [])
  have h0 : SameL (jTree ([(s_intervals, J.list (jRules ks))] ++ jY s_ordered (lastOf ps s_ordered) ++ jW s_max_gaps (lastOf ps s_max_gaps) ++ jFil ns (jRules rs))) ([(s_intervals, listT (rulesT ks))] ++ (param ps (s_ordered, ⟨#[98]⟩)).toList ++ (param ps (s_max_gaps, ⟨#[119]⟩)).toList ++ filL ns (rulesT rs)) := by
    unfold jTree
    rw [List.map_append, List.map_append, List.map_append]
    exact SameL.append (SameL.append (SameL.append (SameL.one s_intervals (kids_same ks hk)) (jY_same hF (by rw [kindL_dec]; decide))) (jW_same hF (by rw [kindL_dec]; decide))) (fil_same ns rs hn hr)
  have h1 := SameL.reorder (f := chs) [0, 1, 2, 3] [2, 1, 3, 0] (by decide) (show [s_intervals, s_ordered, s_max_gaps, s_filter].Nodup by decide) (by intro c hc; simp only [List.map_cons, List.map_nil, List.mem_cons, List.not_mem_nil, or_false] at hc; rcases hc with rfl | rfl | rfl | rfl <;> first | exact keys_param _ _ | exact keys_fil _ _ | exact keys_one _ _) (by simpa only [chs, flatC, List.map_cons, List.map_nil, List.flatMap_cons, List.flatMap_nil, List.append_nil, List.append_assoc] using h0)
  rw [params_cons, params_cons, params_nil]
  refine (show SameL _ _ from ?_)
  simpa only [chs, flatC, List.map_cons, List.map_nil, List.flatMap_cons, List.flatMap_nil, List.append_nil, List.append_assoc, List.cons_append, List.nil_append] using h1
theorem same_any_of (ks : List Rl) (hk : ∀ r ∈ ks, SameR r) (ns : List ByteArray) (rs : List Rl) (hn : ∀ nm ∈ ns, nm ∈ sieveNames) (hr : ∀ r ∈ rs, SameR r) {ps : List (ByteArray × T)} : SameL (jTree ([(s_intervals, J.list (jRules ks))] ++ jFil ns (jRules rs))) (paramsL [] ps ++ filL ns (rulesT rs) ++ [(s_intervals, listT (rulesT ks))]) := by
  let chs : Nat → Ch := fun i => match i with
    | 0 => (s_intervals, [(s_intervals, listT (rulesT ks))])
    | 1 => (s_filter, filL ns (rulesT rs))
    | _ => (emptyS, [])
  have h0 : SameL (jTree ([(s_intervals, J.list (jRules ks))] ++ jFil ns (jRules rs))) ([(s_intervals, listT (rulesT ks))] ++ filL ns (rulesT rs)) := by
    unfold jTree
    rw [List.map_append]
    exact SameL.append (SameL.one s_intervals (kids_same ks hk)) (fil_same ns rs hn hr)
  have h1 := SameL.reorder (f := chs) [0, 1] [1, 0] (by decide) (show [s_intervals, s_filter].Nodup by decide) (by intro c hc; simp only [List.map_cons, List.map_nil, List.mem_cons, List.not_mem_nil, or_false] at hc; rcases hc with rfl | rfl <;> first | exact keys_param _ _ | exact keys_fil _ _ | exact keys_one _ _) (by simpa only [chs, flatC, List.map_cons, List.map_nil, List.flatMap_cons, List.flatMap_nil, List.append_nil, List.append_assoc] using h0)
  rw [params_nil]
  refine (show SameL _ _ from ?_)
  simpa only [chs, flatC, List.map_cons, List.map_nil, List.flatMap_cons, List.flatMap_nil, List.append_nil, List.append_assoc, List.cons_append, List.nil_append] using h1
theorem same_match (x : ByteArray) (ns : List ByteArray) (rs : List Rl) (hn : ∀ nm ∈ ns, nm ∈ sieveNames) (hr : ∀ r ∈ rs, SameR r) {ps : List (ByteArray × T)} (hF : FitsP rRuleMatch ps) : SameL (jTree ([(s_query, J.str x)] ++ jY s_ordered (lastOf ps s_ordered) ++ jW s_max_gaps (lastOf ps s_max_gaps) ++ jT s_analyzer (lastOf ps s_analyzer) ++ jT s_use_field (lastOf ps s_use_field) ++ jFil ns (jRules rs))) (paramsL rRuleMatch ps ++ filL ns (rulesT rs) ++ [(s_query, textT x)]) := by
  let chs : Nat → Ch := fun i => match i with
    | 0 => (s_query, [(s_query, textT x)])
    | 1 => (s_ordered, (param ps (s_ordered, ⟨#[98]⟩)).toList)
    | 2 => (s_max_gaps, (param ps (s_max_gaps, ⟨#[119]⟩)).toList)
    | 3 => (s_analyzer, (param ps (s_analyzer, ⟨#[116]⟩)).toList)
    | 4 => (s_use_field, (param ps (s_use_field, ⟨#[116]⟩)).toList)
    | 5 => (s_filter, filL ns (rulesT rs))
    | _ => (emptyS, [])
  have h0 : SameL (jTree ([(s_query, J.str x)] ++ jY s_ordered (lastOf ps s_ordered) ++ jW s_max_gaps (lastOf ps s_max_gaps) ++ jT s_analyzer (lastOf ps s_analyzer) ++ jT s_use_field (lastOf ps s_use_field) ++ jFil ns (jRules rs))) ([(s_query, textT x)] ++ (param ps (s_ordered, ⟨#[98]⟩)).toList ++ (param ps (s_max_gaps, ⟨#[119]⟩)).toList ++ (param ps (s_analyzer, ⟨#[116]⟩)).toList ++ (param ps (s_use_field, ⟨#[116]⟩)).toList ++ filL ns (rulesT rs)) := by
    unfold jTree
    rw [List.map_append, List.map_append, List.map_append, List.map_append, List.map_append]
    exact SameL.append (SameL.append (SameL.append (SameL.append (SameL.append (SameL.one s_query (sameT_self _ (okT_text x))) (jY_same hF (by rw [kindL_dec]; decide))) (jW_same hF (by rw [kindL_dec]; decide))) (jT_same hF (by rw [kindL_dec]; decide))) (jT_same hF (by rw [kindL_dec]; decide))) (fil_same ns rs hn hr)
  have h1 := SameL.reorder (f := chs) [0, 1, 2, 3, 4, 5] [3, 2, 1, 4, 5, 0] (by decide) (show [s_query, s_ordered, s_max_gaps, s_analyzer, s_use_field, s_filter].Nodup by decide) (by intro c hc; simp only [List.map_cons, List.map_nil, List.mem_cons, List.not_mem_nil, or_false] at hc; rcases hc with rfl | rfl | rfl | rfl | rfl | rfl <;> first | exact keys_param _ _ | exact keys_fil _ _ | exact keys_one _ _) (by simpa only [chs, flatC, List.map_cons, List.map_nil, List.flatMap_cons, List.flatMap_nil, List.append_nil, List.append_assoc] using h0)
  rw [params_cons, params_cons, params_cons, params_cons, params_nil]
  refine (show SameL _ _ from ?_)
  simpa only [chs, flatC, List.map_cons, List.map_nil, List.flatMap_cons, List.flatMap_nil, List.append_nil, List.append_assoc, List.cons_append, List.nil_append] using h1
theorem rule_same_mk (k : Int) (x : ByteArray) (ps : List (ByteArray × T)) (ks : List Rl) (ns : List ByteArray) (rs : List Rl) (hF : FitR (.mk k x ps ks ns rs)) (hk : ∀ r ∈ ks, SameR r) (hr : ∀ r ∈ rs, SameR r) : SameR (.mk k x ps ks ns rs) := by
  simp only [FitR] at hF
  obtain ⟨h0, h5, hP, -, hs, -, hn, -⟩ := hF
  unfold SameR
  rw [jRule, ruleT]
  have hnil : ¬ (k = 0 ∨ k = 4 ∨ k = 5) → filL ns (rulesT rs) = [] := fun h => by
    have : rs = [] := Classical.byContradiction fun hh => h (hs hh)
    subst this
    simp [filL, rulesT]
  by_cases e1 : k = 1
  · subst e1
    rw [if_pos rfl, hnil (by omega), List.append_nil, jMap_tree]
    exact same_one _ (sameT_map (same_prefix x hP))
  by_cases e2 : k = 2
  · subst e2
    rw [if_neg (by decide), if_pos rfl, hnil (by omega), List.append_nil, jMap_tree]
    exact same_one _ (sameT_map (same_wildcard x hP))
  by_cases e3 : k = 3
  · subst e3
    rw [if_neg (by decide), if_neg (by decide), if_pos rfl, hnil (by omega), List.append_nil, jMap_tree]
    exact same_one _ (sameT_map (same_fuzzy x hP))
  by_cases e4 : k = 4
  · subst e4
    rw [if_neg (by decide), if_neg (by decide), if_neg (by decide), if_pos rfl, jMap_tree]
    exact same_one _ (sameT_map (same_all_of ks hk ns rs hn hr hP))
  by_cases e5 : k = 5
  · subst e5
    rw [if_neg (by decide), if_neg (by decide), if_neg (by decide), if_neg (by decide), if_pos rfl, jMap_tree]
    exact same_one _ (sameT_map (same_any_of ks hk ns rs hn hr))
  · obtain rfl : k = 0 := by omega
    rw [if_neg (by decide), if_neg (by decide), if_neg (by decide), if_neg (by decide), if_neg (by decide), jMap_tree]
    exact same_one _ (sameT_map (same_match x ns rs hn hr hP))
mutual
theorem rule_same : ∀ r : Rl, FitR r → SameR r
  | .mk k x ps ks ns rs, h => rule_same_mk k x ps ks ns rs h (rules_same ks (by simp only [FitR] at h; exact h.2.2.2.2.2.1)) (rules_same rs (by simp only [FitR] at h; exact h.2.2.2.2.2.2.2))
theorem rules_same : ∀ l : List Rl, FitRs l → ∀ r ∈ l, SameR r
  | [], _, r, h => by cases h
  | q :: l, h, r, hr => by
    simp only [FitRs] at h
    rcases List.mem_cons.1 hr with e | hr
    · rw [e]; exact rule_same q h.1
    · exact rules_same l h.2 r hr
end
end Go.Proofs.YtdjojnlejkljdaaGreat

