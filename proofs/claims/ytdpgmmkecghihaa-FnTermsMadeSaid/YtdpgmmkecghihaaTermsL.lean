/-
  What is told of a terms query under its field.
-/
import Derived.Test.YtdpgmmkecghihaaTermsSpec
import Derived.Test.YtdpgmmkecghihaaZz
import Derived.Test.YtdpgmmkecghihaaTu
namespace Go.Proofs.Ytdpgmmkecghihaa
open Go.RowKit

theorem field_boost {f : ByteArray} (h : FieldP f) : f ≠ s_boost := fun e => by
  have h2 := h.2
  rw [e] at h2
  simp [fieldNames, hasS, seq_self] at h2
theorem field_name {f : ByteArray} (h : FieldP f) : f ≠ s_name := fun e => by
  have h1 := h.1
  rw [e] at h1
  exact h1 95 rfl rfl
theorem sames_jOf : ∀ {u : List T} (_ : ∀ t ∈ u, scalarT t = true), samesT (treesJ (u.map jOf)) u = true
  | [], _ => by simp [treesJ, samesT]
  | t :: r, h => by
    simp only [List.map_cons, treesJ, samesT, Bool.and_eq_true]
    exact ⟨jOf_same (h t (by simp)), sames_jOf fun x hx => h x (by simp [hx])⟩
theorem list_jOf {u : List T} (h : ∀ t ∈ u, scalarT t = true) : sameT (treeJ (J.list (u.map jOf))) (listT u) = true := by
  have hl : (treesJ (u.map jOf)).length = u.length := by rw [treesJ_len, List.length_map]
  simp [treeJ, listT, sameT, hl, sames_jOf h, seqs]
/-- What is handed over is what is told: the list under its field, and the settings beside. -/
theorem terms_same {f : ByteArray} {j : J} {t : T} {ps : List (ByteArray × T)} (hf : FieldP f) (hF : FitsP rTerms ps) (hj : sameT (treeJ j) t = true) :
    sameT (mapT [(s_terms, mapT (jTree ([(f, j)] ++ jN s_boost (lastOf ps s_boost) ++ jT s_name (lastOf ps s_name))))]) (mapT [(s_terms, mapT (paramsL rTerms ps ++ [(f, t)]))]) = true := by
  refine same_one _ (sameT_map ?_)
  let chs : Nat → Ch := fun i => match i with
    | 0 => (f, [(f, t)])
    | 1 => (s_boost, (param ps (s_boost, ⟨#[110]⟩)).toList)
    | 2 => (s_name, (param ps (s_name, ⟨#[116]⟩)).toList)
    | _ => (emptyS, [])
  have h0 : SameL (jTree ([(f, j)] ++ jN s_boost (lastOf ps s_boost) ++ jT s_name (lastOf ps s_name))) ([(f, t)] ++ (param ps (s_boost, ⟨#[110]⟩)).toList ++ (param ps (s_name, ⟨#[116]⟩)).toList) := by
    unfold jTree
    rw [List.map_append, List.map_append]
    exact SameL.append (SameL.append (SameL.one f hj) (jN_same hF (by rw [kindL_dec]; decide))) (jT_same hF (by rw [kindL_dec]; decide))
  have hnd : [f, s_boost, s_name].Nodup := List.nodup_cons.2 ⟨by simp [field_boost hf, field_name hf], by decide⟩
  have h1 := SameL.reorder (f := chs) [0, 1, 2] [1, 2, 0] (by decide) (show [f, s_boost, s_name].Nodup from hnd) (by intro c hc; simp only [List.map_cons, List.map_nil, List.mem_cons, List.not_mem_nil, or_false] at hc; rcases hc with rfl | rfl | rfl <;> first | exact keys_param _ _ | exact keys_one _ _) (by simpa only [chs, flatC, List.map_cons, List.map_nil, List.flatMap_cons, List.flatMap_nil, List.append_nil, List.append_assoc] using h0)
  rw [params_cons, params_cons, params_nil]
  refine (show SameL _ _ from ?_)
  simpa only [chs, flatC, List.map_cons, List.map_nil, List.flatMap_cons, List.flatMap_nil, List.append_nil, List.append_assoc, List.cons_append, List.nil_append] using h1
end Go.Proofs.Ytdpgmmkecghihaa
