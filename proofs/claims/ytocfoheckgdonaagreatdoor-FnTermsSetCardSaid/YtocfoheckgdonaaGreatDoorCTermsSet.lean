/-
  A terms_set query has its values in its field, and its settings: the tied card of the statement FnTermsSet, for every input.
-/
import Derived.Test.YtocfoheckgdonaaGreatDoorCards
import Derived.Test.YtocfoheckgdonaaGreatDoorTie
import Derived.Test.YtocfoheckgdonaaGreatDoorLTermsSet
import Derived.Test.YtocfoheckgdonaaGreatDoorLv
import Derived.Test.YtocfoheckgdonaaGreatDoorOpen
import Derived.Test.YtocfoheckgdonaaGreatDoorOpen2
namespace Go.Proofs.YtocfoheckgdonaaGreatDoor
open Go.ChangeShapes Go.WideShapes Go.ChangeAt Go.RowKit

set_option maxRecDepth 100000 in
theorem termsSet_lifted (os : Os) (started : os.Started) (H : Type) (enc : TypeId × Value → H) :
    ReturnsInHanded {} Tryz.checked os 5 .any (fun w args => (Rows.fnTermsSetSpec.pre enc Tryz.prog Tryz.f5 Rows.fnTermsSetRow.domain false w args ∧ laidMetH Tryz.prog Rows.fnTermsSetRow.laid w) ∧ sizedMet enc Tryz.prog Tryz.f5 (OpenSpec.ofChange Rows.fnTermsSetSpec) false w args)
      (Rows.fnTermsSetSpec.post enc Tryz.prog Tryz.f5 false true false false) := by
  refine returnsInHanded_of_change_and (C := Tryz.checked) (X := fun w _ => laidMetH Tryz.prog Rows.fnTermsSetRow.laid w) (fun _ _ _ hh h => h.of_heap hh) ownKnobs started (by kernel_rfl) Tryz.func5
    (ChangeSpec.witness_shaped (enc := enc) (C := Tryz.checked) (os := os) (X := fun w _ => laidMetH Tryz.prog Rows.fnTermsSetRow.laid w) false (World.laidAll Tryz.prog os Rows.fnTermsSetRow.laid) #[.string ⟨#[]⟩, .slice none 0 0, .slice none 0 0] 8 (World.laidAll_os _ _ _)
      (lay_shaped os _) (by kernel_rfl) (by kernel_rfl) (by kernel_rfl)
      (lay_met os _)) ?_
  intro W base args ds gs before hval0 hW _ hwt hL _
  have hval : ∀ (j : Nat) t v, Tryz.f5.params[j]? = some t → args[j]? = some v → Value.okWide Tryz.prog W .any base t v := hval0
  have hW' := hW
  obtain ⟨p, q, hA, hV, rfl, hfz, hnd⟩ := hW'
  have hA : DataW.TrodAll enc Tryz.prog W 0 (fun _ => true) true Tryz.f5.params.toList args.toList ds p := hA
  rw [Tryz.params5] at hA hval
  obtain ⟨v0, vs0, d0, ds0, p0, q0, hargs, rfl, rfl, h0, r0⟩ := trodAll_cons hA
  obtain ⟨v1, vs1, d1, ds1, p1, q1, rfl, rfl, rfl, h1, r1⟩ := trodAll_cons r0
  obtain ⟨v2, vs2, d2, ds2, p2, q2, rfl, rfl, rfl, h2, r2⟩ := trodAll_cons r1
  obtain ⟨rfl, rfl, rfl⟩ := trodAll_nil r2
  obtain rfl : args = #[v0, v1, v2] := by cases args; simp_all
  obtain ⟨rfl, rfl⟩ := trodVars_none hV
  obtain ⟨s0, rfl, rfl, rfl, w0⟩ := Go.ChangeMaps.open_string Tryz.underlying9 (hval 0 9 v0 rfl rfl) h0
  obtain ⟨a1, n1, c1, rfl⟩ := okWide_slice Tryz.underlying24 (hval 1 24 v1 rfl rfl)
  obtain ⟨fuel1, hf1⟩ := h1
  obtain ⟨a1', n1', c1', ps1, e1, hP1⟩ := kids_of hf1
  simp only [Value.cells, List.cons.injEq, and_true, Value.slice.injEq] at e1
  obtain ⟨rfl, rfl, rfl⟩ := e1
  obtain ⟨a2, n2, c2, rfl⟩ := okWide_slice Tryz.underlying27 (hval 2 27 v2 rfl rfl)
  obtain ⟨fuel2, hf2⟩ := h2
  obtain ⟨a2', n2', c2', ps2, e2, hP2⟩ := sets_of hf2
  simp only [Value.cells, List.cons.injEq, and_true, Value.slice.injEq] at e2
  obtain ⟨rfl, rfl, rfl⟩ := e2
  refine (termsSet_law s0 a1 n1 c1 ps1 a2 n2 c2 ps2 W hP1 hP2).mono fun e W' ⟨he, hx⟩ => ?_
  subst he
  exact ⟨_, rfl, post_law laidOut (by kernel_rfl) (by kernel_rfl) Tryz.underlying4 rfl hW rfl hx⟩

theorem termsSet_holds : Rows.FnTermsSetSaid :=
  OpenClaim.holds_of_wide 5 Tryz.f5 rfl rfl rfl rfl rfl rfl rfl ⟨rfl, rfl, rfl, rfl, rfl⟩ rfl rfl rfl rfl rfl (by kernel_rfl) Tryz.func5 (by kernel_rfl)
    (of_decide_eq_true (by kernel_rfl)) (by unfold Func.isWrapper; first | (rw [if_pos (by decide +kernel)]; kernel_rfl) | (rw [if_neg (by decide +kernel)]; exact ⟨rfl, rfl⟩))
    (fun os started H enc _ => termsSet_lifted os started H enc)

/-- A terms_set query has its values in its field, and its settings. -/
theorem termsSet_proved : Rows.FnTermsSetCardSaid :=
  Claim7.holds_tied_plain_at .later [] [.data, .pinned, .pinned] true (true, "5758a10310aaf0962d5dce9ba19d56dd47e24c5d401f389f96b9967660956630") true termsSet_holds (fun _ h => by cases h) (by kernel_rfl) (fun _ h => by cases h) fnTermsSet_row_tie rfl ⟨rfl, rfl⟩ (by kernel_rfl) rfl
    (fun f fn hf hfn => by
      obtain rfl : f = 5 := Option.some.inj ((show Tryz.prog.funcNamed "loop.example/pub-g01525/laws.FnTermsSet" = some 5 by kernel_rfl).symm.trans hf) |>.symm
      obtain rfl : fn = Tryz.f5 := (Option.some.inj (Tryz.func5.symm.trans hfn)).symm
      exact ⟨by kernel_rfl, fun j t ht => by
        rw [Tryz.params5] at ht
        have hm : t ∈ [9, 24, 27] := by simpa using Array.mem_of_getElem? ht
        have hall : ([9, 24, 27].all fun u => !Tryz.prog.wantsStandIn u) = true := by kernel_rfl
        exact (show Tryz.prog.wantsStandIn t = false by simpa using List.all_eq_true.1 hall t hm)⟩)
    (by kernel_rfl)
#print axioms termsSet_proved
end Go.Proofs.YtocfoheckgdonaaGreatDoor
