/-
  A regexp query says its pattern in its field, and its settings: the tied card of the statement FnRegexp, for every input.
-/
import Derived.Test.YtocfoheckgdonaaDoorCards
import Derived.Test.YtocfoheckgdonaaDoorTie
import Derived.Test.YtocfoheckgdonaaDoorLRegexp
import Derived.Test.YtocfoheckgdonaaDoorLv
import Derived.Test.YtocfoheckgdonaaDoorOpen
namespace Go.Proofs.YtocfoheckgdonaaDoor
open Go.ChangeShapes Go.WideShapes Go.ChangeAt Go.RowKit

set_option maxRecDepth 100000 in
theorem regexp_lifted (os : Os) (started : os.Started) (H : Type) (enc : TypeId × Value → H) :
    ReturnsInHanded {} Tryd.checked os 6 .any (fun w args => (Rows.fnRegexpSpec.pre enc Tryd.prog Tryd.f6 Rows.fnRegexpRow.domain false w args ∧ laidMetH Tryd.prog Rows.fnRegexpRow.laid w) ∧ sizedMet enc Tryd.prog Tryd.f6 (OpenSpec.ofChange Rows.fnRegexpSpec) false w args)
      (Rows.fnRegexpSpec.post enc Tryd.prog Tryd.f6 false true false false) := by
  refine returnsInHanded_of_change_and (C := Tryd.checked) (X := fun w _ => laidMetH Tryd.prog Rows.fnRegexpRow.laid w) (fun _ _ _ hh h => h.of_heap hh) ownKnobs started (by kernel_rfl) Tryd.func6
    (ChangeSpec.witness_shaped (enc := enc) (C := Tryd.checked) (os := os) (X := fun w _ => laidMetH Tryd.prog Rows.fnRegexpRow.laid w) false (World.laidAll Tryd.prog os Rows.fnRegexpRow.laid) #[.string ⟨#[]⟩, .string ⟨#[]⟩, .slice none 0 0] 8 (World.laidAll_os _ _ _)
      (lay_shaped os _) (by kernel_rfl) (by kernel_rfl) (by kernel_rfl)
      (lay_met os _)) ?_
  intro W base args ds gs before hval0 hW _ hwt hL _
  have hval : ∀ (j : Nat) t v, Tryd.f6.params[j]? = some t → args[j]? = some v → Value.okWide Tryd.prog W .any base t v := hval0
  have hW' := hW
  obtain ⟨p, q, hA, hV, rfl, hfz, hnd⟩ := hW'
  have hA : DataW.TrodAll enc Tryd.prog W 0 (fun _ => true) true Tryd.f6.params.toList args.toList ds p := hA
  rw [Tryd.params6] at hA hval
  obtain ⟨v0, vs0, d0, ds0, p0, q0, hargs, rfl, rfl, h0, r0⟩ := trodAll_cons hA
  obtain ⟨v1, vs1, d1, ds1, p1, q1, rfl, rfl, rfl, h1, r1⟩ := trodAll_cons r0
  obtain ⟨v2, vs2, d2, ds2, p2, q2, rfl, rfl, rfl, h2, r2⟩ := trodAll_cons r1
  obtain ⟨rfl, rfl, rfl⟩ := trodAll_nil r2
  obtain rfl : args = #[v0, v1, v2] := by cases args; simp_all
  obtain ⟨rfl, rfl⟩ := trodVars_none hV
  obtain ⟨s0, rfl, rfl, rfl, w0⟩ := Go.ChangeMaps.open_string Tryd.underlying9 (hval 0 9 v0 rfl rfl) h0
  obtain ⟨s1, rfl, rfl, rfl, w1⟩ := Go.ChangeMaps.open_string Tryd.underlying9 (hval 1 9 v1 rfl rfl) h1
  obtain ⟨a2, n2, c2, rfl⟩ := okWide_slice Tryd.underlying22 (hval 2 22 v2 rfl rfl)
  obtain ⟨fuel2, hf2⟩ := h2
  obtain ⟨a2', n2', c2', ps2, e2, hP2⟩ := sets_of hf2
  simp only [Value.cells, List.cons.injEq, and_true, Value.slice.injEq] at e2
  obtain ⟨rfl, rfl, rfl⟩ := e2
  refine (regexp_law s0 s1 a2 n2 c2 ps2 W hP2).mono fun e W' ⟨he, hx⟩ => ?_
  subst he
  exact ⟨_, rfl, post_law laidOut (by kernel_rfl) (by kernel_rfl) Tryd.underlying4 rfl hW rfl hx⟩

theorem regexp_holds : Rows.FnRegexpSaid :=
  OpenClaim.holds_of_wide 6 Tryd.f6 rfl rfl rfl rfl rfl rfl rfl ⟨rfl, rfl, rfl, rfl, rfl⟩ rfl rfl rfl rfl rfl (by kernel_rfl) Tryd.func6 (by kernel_rfl)
    (of_decide_eq_true (by kernel_rfl)) (by unfold Func.isWrapper; first | (rw [if_pos (by decide +kernel)]; kernel_rfl) | (rw [if_neg (by decide +kernel)]; exact ⟨rfl, rfl⟩))
    (fun os started H enc _ => regexp_lifted os started H enc)

/-- A regexp query says its pattern in its field, and its settings. -/
theorem regexp_proved : Rows.FnRegexpCardSaid :=
  Claim7.holds_tied_plain_at .later [] [.data, .pinned, .pinned] true (true, "698155d1a43780a056b1859c36b567d2d946df0d195d362d9241d25a2fc963e3") true regexp_holds (fun _ h => by cases h) (by kernel_rfl) (fun _ h => by cases h) fnRegexp_row_tie rfl ⟨rfl, rfl⟩ (by kernel_rfl) rfl
    (fun f fn hf hfn => by
      obtain rfl : f = 6 := Option.some.inj ((show Tryd.prog.funcNamed "loop.example/pub-g01525/laws.FnRegexp" = some 6 by kernel_rfl).symm.trans hf) |>.symm
      obtain rfl : fn = Tryd.f6 := (Option.some.inj (Tryd.func6.symm.trans hfn)).symm
      exact ⟨by kernel_rfl, fun j t ht => by
        rw [Tryd.params6] at ht
        have hm : t ∈ [9, 9, 22] := by simpa using Array.mem_of_getElem? ht
        have hall : ([9, 9, 22].all fun u => !Tryd.prog.wantsStandIn u) = true := by kernel_rfl
        exact (show Tryd.prog.wantsStandIn t = false by simpa using List.all_eq_true.1 hall t hm)⟩)
    (by kernel_rfl)
#print axioms regexp_proved
end Go.Proofs.YtocfoheckgdonaaDoor
