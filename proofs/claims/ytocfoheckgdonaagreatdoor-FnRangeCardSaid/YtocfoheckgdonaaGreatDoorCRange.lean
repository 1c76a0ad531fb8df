/-
  A range query has the bounds that are set at last, included or not as is set at last, and its settings: the tied card of the statement FnRange, for every input.
-/
import Derived.Test.YtocfoheckgdonaaGreatDoorCards
import Derived.Test.YtocfoheckgdonaaGreatDoorTie
import Derived.Test.YtocfoheckgdonaaGreatDoorLRange
import Derived.Test.YtocfoheckgdonaaGreatDoorLv
import Derived.Test.YtocfoheckgdonaaGreatDoorOpen
namespace Go.Proofs.YtocfoheckgdonaaGreatDoor
open Go.ChangeShapes Go.WideShapes Go.ChangeAt Go.RowKit

set_option maxRecDepth 100000 in
theorem range_lifted (os : Os) (started : os.Started) (H : Type) (enc : TypeId × Value → H) :
    ReturnsInHanded {} Tryz.checked os 8 .any (fun w args => (Rows.fnRangeSpec.pre enc Tryz.prog Tryz.f8 Rows.fnRangeRow.domain false w args ∧ laidMetH Tryz.prog Rows.fnRangeRow.laid w) ∧ sizedMet enc Tryz.prog Tryz.f8 (OpenSpec.ofChange Rows.fnRangeSpec) false w args)
      (Rows.fnRangeSpec.post enc Tryz.prog Tryz.f8 false true false false) := by
  refine returnsInHanded_of_change_and (C := Tryz.checked) (X := fun w _ => laidMetH Tryz.prog Rows.fnRangeRow.laid w) (fun _ _ _ hh h => h.of_heap hh) ownKnobs started (by kernel_rfl) Tryz.func8
    (ChangeSpec.witness_shaped (enc := enc) (C := Tryz.checked) (os := os) (X := fun w _ => laidMetH Tryz.prog Rows.fnRangeRow.laid w) false (World.laidAll Tryz.prog os Rows.fnRangeRow.laid) #[.string ⟨#[]⟩, .slice none 0 0] 8 (World.laidAll_os _ _ _)
      (lay_shaped os _) (by kernel_rfl) (by kernel_rfl) (by kernel_rfl)
      (lay_met os _)) ?_
  intro W base args ds gs before hval0 hW _ hwt hL _
  have hval : ∀ (j : Nat) t v, Tryz.f8.params[j]? = some t → args[j]? = some v → Value.okWide Tryz.prog W .any base t v := hval0
  have hW' := hW
  obtain ⟨p, q, hA, hV, rfl, hfz, hnd⟩ := hW'
  have hA : DataW.TrodAll enc Tryz.prog W 0 (fun _ => true) true Tryz.f8.params.toList args.toList ds p := hA
  rw [Tryz.params8] at hA hval
  obtain ⟨v0, vs0, d0, ds0, p0, q0, hargs, rfl, rfl, h0, r0⟩ := trodAll_cons hA
  obtain ⟨v1, vs1, d1, ds1, p1, q1, rfl, rfl, rfl, h1, r1⟩ := trodAll_cons r0
  obtain ⟨rfl, rfl, rfl⟩ := trodAll_nil r1
  obtain rfl : args = #[v0, v1] := by cases args; simp_all
  obtain ⟨rfl, rfl⟩ := trodVars_none hV
  obtain ⟨s0, rfl, rfl, rfl, w0⟩ := Go.ChangeMaps.open_string Tryz.underlying9 (hval 0 9 v0 rfl rfl) h0
  obtain ⟨a1, n1, c1, rfl⟩ := okWide_slice Tryz.underlying27 (hval 1 27 v1 rfl rfl)
  obtain ⟨fuel1, hf1⟩ := h1
  obtain ⟨a1', n1', c1', ps1, e1, hP1⟩ := sets_of hf1
  simp only [Value.cells, List.cons.injEq, and_true, Value.slice.injEq] at e1
  obtain ⟨rfl, rfl, rfl⟩ := e1
  refine (range_law s0 a1 n1 c1 ps1 W hP1).mono fun e W' ⟨he, hx⟩ => ?_
  subst he
  exact ⟨_, rfl, post_law laidOut (by kernel_rfl) (by kernel_rfl) Tryz.underlying4 rfl hW rfl hx⟩

theorem range_holds : Rows.FnRangeSaid :=
  OpenClaim.holds_of_wide 8 Tryz.f8 rfl rfl rfl rfl rfl rfl rfl ⟨rfl, rfl, rfl, rfl, rfl⟩ rfl rfl rfl rfl rfl (by kernel_rfl) Tryz.func8 (by kernel_rfl)
    (of_decide_eq_true (by kernel_rfl)) (by unfold Func.isWrapper; first | (rw [if_pos (by decide +kernel)]; kernel_rfl) | (rw [if_neg (by decide +kernel)]; exact ⟨rfl, rfl⟩))
    (fun os started H enc _ => range_lifted os started H enc)

/-- A range query has the bounds that are set at last, included or not as is set at last, and its settings. -/
theorem range_proved : Rows.FnRangeCardSaid :=
  Claim7.holds_tied_plain_at .later [] [.data, .pinned, .pinned] true (true, "5758a10310aaf0962d5dce9ba19d56dd47e24c5d401f389f96b9967660956630") true range_holds (fun _ h => by cases h) (by kernel_rfl) (fun _ h => by cases h) fnRange_row_tie rfl ⟨rfl, rfl⟩ (by kernel_rfl) rfl
    (fun f fn hf hfn => by
      obtain rfl : f = 8 := Option.some.inj ((show Tryz.prog.funcNamed "loop.example/pub-g01525/laws.FnRange" = some 8 by kernel_rfl).symm.trans hf) |>.symm
      obtain rfl : fn = Tryz.f8 := (Option.some.inj (Tryz.func8.symm.trans hfn)).symm
      exact ⟨by kernel_rfl, fun j t ht => by
        rw [Tryz.params8] at ht
        have hm : t ∈ [9, 27] := by simpa using Array.mem_of_getElem? ht
        have hall : ([9, 27].all fun u => !Tryz.prog.wantsStandIn u) = true := by kernel_rfl
        exact (show Tryz.prog.wantsStandIn t = false by simpa using List.all_eq_true.1 hall t hm)⟩)
    (by kernel_rfl)
#print axioms range_proved
end Go.Proofs.YtocfoheckgdonaaGreatDoor
