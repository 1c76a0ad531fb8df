/-
  A geo_distance query has its point in its field, its distance, and its settings: the statement FnGeoDistance, for every input.
-/
import Derived.Test.YtdjojnlejkljdaaRows
import Derived.Test.YtdjojnlejkljdaaLGeoDistance
import Derived.Test.YtdjojnlejkljdaaOpen
namespace Go.Proofs.Ytdjojnlejkljdaa
open Go.ChangeShapes Go.WideShapes Go.ChangeAt Go.RowKit

set_option maxRecDepth 100000 in
theorem geoDistance_lifted (os : Os) (started : os.Started) (H : Type) (enc : TypeId × Value → H) :
    ReturnsInHanded {} Try.checked os 5 .any (Rows.fnGeoDistanceSpec.pre6 enc Try.prog Try.f5 Rows.fnGeoDistanceRow.domain false) (Rows.fnGeoDistanceSpec.post enc Try.prog Try.f5 false true false false) := by
  refine returnsInHanded_of_change (C := Try.checked) ownKnobs started (by kernel_rfl) Try.func5
    (ChangeSpec.witness6 (enc := enc) (C := Try.checked) false ⟨#[], #[.string ⟨#[]⟩, .slice none 0 0], []⟩ 8 (by kernel_rfl) (by kernel_rfl) (by kernel_rfl) (by kernel_rfl)) ?_
  intro W base args ds gs before hval hW hcnd _
  have hW' := hW
  obtain ⟨p, q, hA, hV, rfl, hfz, hnd⟩ := hW'
  have hA : DataW.TrodAll enc Try.prog W 0 (fun _ => true) true Try.f5.params.toList args.toList ds p := hA
  rw [Try.params5] at hA hval
  obtain ⟨v0, vs0, d0, ds0, p0, q0, hargs, rfl, rfl, h0, r0⟩ := trodAll_cons hA
  obtain ⟨v1, vs1, d1, ds1, p1, q1, rfl, rfl, rfl, h1, r1⟩ := trodAll_cons r0
  obtain ⟨rfl, rfl, rfl⟩ := trodAll_nil r1
  obtain rfl : args = #[v0, v1] := by cases args; simp_all
  obtain ⟨rfl, rfl⟩ := trodVars_none hV
  obtain ⟨s0, rfl, rfl, rfl, w0⟩ := Go.ChangeMaps.open_string Try.underlying9 (hval 0 9 v0 rfl rfl) h0
  obtain ⟨a1, n1, c1, rfl⟩ := okWide_slice Try.underlying25 (hval 1 25 v1 rfl rfl)
  obtain ⟨fuel1, hf1⟩ := h1
  obtain ⟨a1', n1', c1', ps1, e1, hP1⟩ := sets_of hf1
  simp only [Value.cells, List.cons.injEq, and_true, Value.slice.injEq] at e1
  obtain ⟨rfl, rfl, rfl⟩ := e1
  refine (geoDistance_law s0 a1 n1 c1 ps1 W hP1).mono fun e W' ⟨he, hx⟩ => ?_
  subst he
  exact ⟨_, rfl, post_law laidOut (by kernel_rfl) (by kernel_rfl) Try.underlying4 rfl hW rfl hx⟩

/-- A geo_distance query has its point in its field, its distance, and its settings. -/
theorem geoDistance_proved : Rows.FnGeoDistanceSaid :=
  OpenClaim.holds_of_wide 5 Try.f5 rfl rfl rfl rfl rfl rfl rfl ⟨rfl, rfl, rfl, rfl, rfl⟩ rfl rfl rfl rfl rfl (by kernel_rfl) Try.func5 (by kernel_rfl)
    (of_decide_eq_true (by kernel_rfl)) (by unfold Func.isWrapper; first | (rw [if_pos (by decide +kernel)]; kernel_rfl) | (rw [if_neg (by decide +kernel)]; exact ⟨rfl, rfl⟩))
    (fun os started H enc _ => geoDistance_lifted os started H enc)
#print axioms geoDistance_proved
end Go.Proofs.Ytdjojnlejkljdaa

