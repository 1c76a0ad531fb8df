/-
  A match_bool_prefix query says its text in its field, and its settings: the tied card of the statement FnMatchBoolPrefix in its second form: where what comes in is of bulk at most 1048576.
-/
import Derived.Test.YtocfoheckgdonaaGreatDoorCards
import Derived.Test.YtocfoheckgdonaaGreatDoorTie
import Derived.Test.YtocfoheckgdonaaGreatDoorLMatchBoolPrefix
import Derived.Test.YtocfoheckgdonaaGreatDoorLu
import Derived.Test.YtocfoheckgdonaaGreatDoorOl
import Derived.Test.YtocfoheckgdonaaGreatDoorOpen2
import Derived.Deep.DeepHandedRow
namespace Go.Proofs.YtocfoheckgdonaaGreatDoor
open Go.ChangeShapes Go.WideShapes Go.ChangeAt Go.RowKit

set_option maxRecDepth 100000 in
theorem matchBoolPrefix_lifted (os : Os) (started : os.Started) (H : Type) (enc : TypeId × Value → H) (F : Stop.Interp) :
    ReturnsInHanded {} Tryz.checked os 7 .any ((Rows.OpenSpec.upto Rows.fnMatchBoolPrefixSpec).preRow enc Tryz.prog Tryz.f7 Rows.fnMatchBoolPrefixUptoRow.domain false Rows.fnMatchBoolPrefixUptoRow.laid) (((Rows.OpenSpec.upto Rows.fnMatchBoolPrefixSpec).at F).post enc Tryz.prog Tryz.f7 false true false false) := by
  have hx : DataW.whole enc Tryz.prog ((World.laidAll Tryz.prog os Rows.fnMatchBoolPrefixUptoRow.laid).forCall (fun _ _ => 0) ⟨#[], #[.string ⟨#[]⟩, .agg #[.int .i64 0, .string ⟨#[]⟩, .float .f64 0, .bool false, .slice none 0 0, .slice none 0 0], .slice none 0 0], []⟩).memory Tryz.f7.params.toList Rows.fnMatchBoolPrefixSpec.vars false (#[.string ⟨#[]⟩, .agg #[.int .i64 0, .string ⟨#[]⟩, .float .f64 0, .bool false, .slice none 0 0, .slice none 0 0], .slice none 0 0] : Array Value).toList 8 = some ([.lit (.string []), .agg [.lit (.int .i64 0), .lit (.string []), .lit (.float .f64 0), .lit (.bool false), .nil, .nil], .nil], [], []) := by kernel_rfl
  refine returnsInHanded_of_row (C := Tryz.checked) (s := Rows.OpenSpec.upto Rows.fnMatchBoolPrefixSpec) ownKnobs started (by kernel_rfl) Tryz.func7
    (witness_laid os #[.string ⟨#[]⟩, .agg #[.int .i64 0, .string ⟨#[]⟩, .float .f64 0, .bool false, .slice none 0 0, .slice none 0 0], .slice none 0 0] (by kernel_rfl) (OpenSpec.preRow_of_cond 8 hx (by kernel_rfl) (fun k hk => by cases hk; kernel_rfl) (by kernel_rfl) (lay_met os _))) ?_
  intro W base args ds gs before hval0 hW _ hcond _ hL _ _
  have hbulk : Rows.uptoBulkAll (ds ++ gs) ≤ 1048576 := of_decide_eq_true (hcond _ rfl)
  have hval : ∀ (j : Nat) t v, Tryz.f7.params[j]? = some t → args[j]? = some v → Value.okWide Tryz.prog W .any base t v := hval0
  have hW' := hW
  obtain ⟨p, q, hA, hV, rfl, hfz, hnd⟩ := hW'
  have hA : DataW.TrodAll enc Tryz.prog W 0 (fun _ => true) true Tryz.f7.params.toList args.toList ds p := hA
  rw [Tryz.params7] at hA hval
  obtain ⟨v0, vs0, d0, ds0, p0, q0, hargs, rfl, rfl, h0, r0⟩ := trodAll_cons hA
  obtain ⟨v1, vs1, d1, ds1, p1, q1, rfl, rfl, rfl, h1, r1⟩ := trodAll_cons r0
  obtain ⟨v2, vs2, d2, ds2, p2, q2, rfl, rfl, rfl, h2, r2⟩ := trodAll_cons r1
  obtain ⟨rfl, rfl, rfl⟩ := trodAll_nil r2
  obtain rfl : args = #[v0, v1, v2] := by cases args; simp_all
  obtain ⟨rfl, rfl⟩ := trodVars_none hV
  obtain ⟨s0, rfl, rfl, rfl, w0⟩ := Go.ChangeMaps.open_string Tryz.underlying9 (hval 0 9 v0 rfl rfl) h0
  obtain ⟨fuel1, hf1⟩ := h1
  obtain ⟨e1, t1, he1, hP1⟩ := tree_val (hval 1 26 v1 rfl rfl) hf1
  subst he1
  obtain ⟨a2, n2, c2, rfl⟩ := okWide_slice Tryz.underlying27 (hval 2 27 v2 rfl rfl)
  obtain ⟨fuel2, hf2⟩ := h2
  obtain ⟨a2', n2', c2', ps2, e2, hP2⟩ := sets_of hf2
  simp only [Value.cells, List.cons.injEq, and_true, Value.slice.injEq] at e2
  obtain ⟨rfl, rfl, rfl⟩ := e2
  have hsm : SmallAt ps2 := fun p hp => by
    have h1 := sets_bulk hf2 hP2 p hp
    simp only [List.append_nil, Rows.uptoBulkAll] at hbulk h1
    omega
  refine (matchBoolPrefix_law s0 e1 t1 a2 n2 c2 ps2 W hP1 hP2 (fun s hs => lower_at hL s hs) hsm).mono fun e W' ⟨he, hx⟩ => ?_
  subst he
  exact ⟨_, rfl, post_law (s := Rows.fnMatchBoolPrefixSpec) laidOut (by kernel_rfl) (by kernel_rfl) Tryz.underlying4 rfl hW rfl hx⟩

theorem matchBoolPrefix_holds : Rows.FnMatchBoolPrefixUptoSaid :=
  OpenClaim.holds_of_cond 7 Tryz.f7 rfl rfl rfl rfl rfl rfl rfl ⟨rfl, rfl, rfl, rfl, rfl⟩ rfl rfl rfl rfl rfl (by kernel_rfl) Tryz.func7 (by kernel_rfl)
    (of_decide_eq_true (by kernel_rfl)) (by unfold Func.isWrapper; first | (rw [if_pos (by decide +kernel)]; kernel_rfl) | (rw [if_neg (by decide +kernel)]; exact ⟨rfl, rfl⟩))
    (fun os started H enc _ F => by rw [OpenClaim.pre_eq_preRow]; exact matchBoolPrefix_lifted os started H enc F)

/-- A match_bool_prefix query says its text in its field, and its settings: where what comes in is of bulk at most 1048576. -/
theorem matchBoolPrefix_proved : Rows.FnMatchBoolPrefixUptoCardSaid :=
  Claim7.holds_tied_plain_at .later [] _ _ _ _ matchBoolPrefix_holds (fun _ h => by cases h) (by kernel_rfl) (fun _ h => by cases h) fnMatchBoolPrefixUpto_row_tie rfl ⟨rfl, rfl⟩ (by kernel_rfl) rfl
    (fun f fn hf hfn => by
      obtain rfl : f = 7 := Option.some.inj ((show Tryz.prog.funcNamed "loop.example/pub-g01525/laws.FnMatchBoolPrefix" = some 7 by kernel_rfl).symm.trans hf) |>.symm
      obtain rfl : fn = Tryz.f7 := (Option.some.inj (Tryz.func7.symm.trans hfn)).symm
      exact ⟨by kernel_rfl, fun j t ht => by
        rw [Tryz.params7] at ht
        have hm : t ∈ [9, 26, 27] := by simpa using Array.mem_of_getElem? ht
        have hall : ([9, 26, 27].all fun u => !Tryz.prog.wantsStandIn u) = true := by kernel_rfl
        exact (show Tryz.prog.wantsStandIn t = false by simpa using List.all_eq_true.1 hall t hm)⟩)
    (by kernel_rfl)
#print axioms matchBoolPrefix_proved
end Go.Proofs.YtocfoheckgdonaaGreatDoor
