/-
  A match_all query has its settings: the statement FnMatchAll, for every input.
-/
import Derived.Test.YtbhdkbbhhffldaaRows
import Derived.Test.YtbhdkbbhhffldaaLMatchAll
import Derived.Test.YtbhdkbbhhffldaaOpen
namespace Go.Proofs.Ytbhdkbbhhffldaa
open Go.ChangeShapes Go.WideShapes Go.ChangeAt Go.RowKit

set_option maxRecDepth 100000 in
theorem matchAll_lifted (os : Os) (started : os.Started) (H : Type) (enc : TypeId × Value → H) :
    ReturnsInHanded {} Try.checked os 7 .any (Rows.fnMatchAllSpec.pre6 enc Try.prog Try.f7 Rows.fnMatchAllRow.domain false) (Rows.fnMatchAllSpec.post enc Try.prog Try.f7 false true false false) := by
  refine returnsInHanded_of_change (C := Try.checked) ownKnobs started (by kernel_rfl) Try.func7
    (ChangeSpec.witness6 (enc := enc) (C := Try.checked) false ⟨#[], #[.slice none 0 0], []⟩ 8 (by kernel_rfl) (by kernel_rfl) (by kernel_rfl) (by kernel_rfl)) ?_
  intro W base args ds gs before hval hW hcnd _
  have hW' := hW
  obtain ⟨p, q, hA, hV, rfl, hfz, hnd⟩ := hW'
  have hA : DataW.TrodAll enc Try.prog W 0 (fun _ => true) true Try.f7.params.toList args.toList ds p := hA
  rw [Try.params7] at hA hval
  obtain ⟨v0, vs0, d0, ds0, p0, q0, hargs, rfl, rfl, h0, r0⟩ := trodAll_cons hA
  obtain ⟨rfl, rfl, rfl⟩ := trodAll_nil r0
  obtain rfl : args = #[v0] := by cases args; simp_all
  obtain ⟨rfl, rfl⟩ := trodVars_none hV
  obtain ⟨a0, n0, c0, rfl⟩ := okWide_slice Try.underlying35 (hval 0 35 v0 rfl rfl)
  obtain ⟨fuel, hf⟩ := h0
  obtain ⟨a, n, c, ps, e, hP⟩ := sets_of hf
  simp only [Value.cells, List.cons.injEq, and_true, Value.slice.injEq] at e
  obtain ⟨rfl, rfl, rfl⟩ := e
  refine (matchAll_law a0 n0 c0 ps W hP).mono fun e W' ⟨he, hx⟩ => ?_
  subst he
  exact ⟨_, rfl, post_law laidOut (by kernel_rfl) (by kernel_rfl) Try.underlying4 rfl hW rfl hx⟩

/-- A match_all query has its settings. -/
theorem matchAll_proved : Rows.FnMatchAllSaid :=
  OpenClaim.holds_of_wide 7 Try.f7 rfl rfl rfl rfl rfl rfl rfl ⟨rfl, rfl, rfl, rfl, rfl⟩ rfl rfl rfl rfl rfl (by kernel_rfl) Try.func7 (by kernel_rfl)
    (of_decide_eq_true (by kernel_rfl)) (by unfold Func.isWrapper; first | (rw [if_pos (by decide +kernel)]; kernel_rfl) | (rw [if_neg (by decide +kernel)]; exact ⟨rfl, rfl⟩))
    (fun os started H enc _ => matchAll_lifted os started H enc)
#print axioms matchAll_proved
end Go.Proofs.Ytbhdkbbhhffldaa
