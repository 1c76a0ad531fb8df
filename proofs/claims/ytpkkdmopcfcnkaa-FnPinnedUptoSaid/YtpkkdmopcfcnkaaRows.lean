/-
  NARROWER THAN 'FOR EVERY INPUT', by the rows' own cells (each row's printed sentence says how): FnConstantScore: loops · FnBoosting: loops · FnNested: loops · FnHasParent: loops · FnHasChild: loops · FnSpanFirst: loops · FnDisMax: loops · FnSpanNear: loops · FnPinned: loops · FnPercolate: loops · FnRankFeature: loops.
  DERIVED. THE GIVEN ROWS OF THIS SEAT. 11 by the template 'for every input the law returns true; each argument reads behind the call as it read before'; 0 by the template 'total and deterministic' (their statements: YtpkkdmopcfcnkaaTotals.lean).
  GIVEN WITH THE SEED: the statements are not yours to turn. If you find one false, say at which input.
  Laid BY PROGRAM, IN A SANDBOX (cutbox-rows.mjs): the forced cells as the released guide's own fill.sh prints them over the translation f8c4f5445c3489eb… (all of the seat's roots in one cut). By AI agents, Wed Nov 11 2026. No macro, syntax, notation, axiom, sorry.
-/
import Derived.Test.YtpkkdmopcfcnkaaChecked
import GoSem.Claim
import GoSem.ClaimJoined
import GoSem.ClaimMapViews
import Derived.JoinedTies
import Derived.KernelRfl
namespace Go.Proofs.Ytpkkdmopcfcnkaa
/- THE CELL 'sum', in the pinned program and in every row, IS THE sha256 OF THE DUMP (.gsa) THAT YtpkkdmopcfcnkaaProg.lean LOADS. Nothing in Lean hashes anything: it is a label: what it is worth is what the hold of that sum in a sandbox is worth. -/
noncomputable def Try.pinned : Pinned := { name := "ytpkkdmopcfcnkaa", sum := "f8c4f5445c3489ebec04946992571763003a874158f03bd0aed58add03f9b96c", checked := Try.checked }
namespace Rows
def none {H : Type} : Left H := { results := [], args := [] }

/-- 'laws.FnConstantScore': WHATEVER THE INPUT: true; the input reads as it did. -/
def fnConstantScoreSpec : ChangeSpec := { name := "fnConstantScore", fn := fun _ => fun
  | [d1, d2] => { results := [.lit (.bool true)], args := [d1, d2] }
  | _ => none }
def fnConstantScoreRow : OpenClaim := { program := "ytpkkdmopcfcnkaa", sum := "f8c4f5445c3489ebec04946992571763003a874158f03bd0aed58add03f9b96c", func := "loop.example/pub-g01525/laws.FnConstantScore", spec := "fnConstantScore", unfollowed := true, recurses := true, loops := true, apart := false }
def FnConstantScoreSaid : Prop := fnConstantScoreRow.holds Try.pinned (OpenSpec.ofChange fnConstantScoreSpec)

/-- ITS FALSE NEIGHBOUR: 'it returns false'. Refute it at one input. -/
def fnConstantScoreWrong : ChangeSpec := { name := "fnConstantScore", fn := fun _ => fun
  | [d1, d2] => { results := [.lit (.bool false)], args := [d1, d2] }
  | _ => none }
def FnConstantScoreWrongFalsely : Prop := fnConstantScoreRow.holds Try.pinned (OpenSpec.ofChange fnConstantScoreWrong)

/-- 'laws.FnBoosting': WHATEVER THE INPUT: true; the input reads as it did. -/
def fnBoostingSpec : ChangeSpec := { name := "fnBoosting", fn := fun _ => fun
  | [d1, d2, d3] => { results := [.lit (.bool true)], args := [d1, d2, d3] }
  | _ => none }
def fnBoostingRow : OpenClaim := { program := "ytpkkdmopcfcnkaa", sum := "f8c4f5445c3489ebec04946992571763003a874158f03bd0aed58add03f9b96c", func := "loop.example/pub-g01525/laws.FnBoosting", spec := "fnBoosting", unfollowed := true, recurses := true, loops := true, apart := false }
def FnBoostingSaid : Prop := fnBoostingRow.holds Try.pinned (OpenSpec.ofChange fnBoostingSpec)

/-- ITS FALSE NEIGHBOUR: 'it returns false'. Refute it at one input. -/
def fnBoostingWrong : ChangeSpec := { name := "fnBoosting", fn := fun _ => fun
  | [d1, d2, d3] => { results := [.lit (.bool false)], args := [d1, d2, d3] }
  | _ => none }
def FnBoostingWrongFalsely : Prop := fnBoostingRow.holds Try.pinned (OpenSpec.ofChange fnBoostingWrong)

/-- 'laws.FnNested': WHATEVER THE INPUT: true; the input reads as it did. -/
def fnNestedSpec : ChangeSpec := { name := "fnNested", fn := fun _ => fun
  | [d1, d2, d3] => { results := [.lit (.bool true)], args := [d1, d2, d3] }
  | _ => none }
def fnNestedRow : OpenClaim := { program := "ytpkkdmopcfcnkaa", sum := "f8c4f5445c3489ebec04946992571763003a874158f03bd0aed58add03f9b96c", func := "loop.example/pub-g01525/laws.FnNested", spec := "fnNested", unfollowed := true, recurses := true, loops := true, apart := false }
def FnNestedSaid : Prop := fnNestedRow.holds Try.pinned (OpenSpec.ofChange fnNestedSpec)

/-- ITS FALSE NEIGHBOUR: 'it returns false'. Refute it at one input. -/
def fnNestedWrong : ChangeSpec := { name := "fnNested", fn := fun _ => fun
  | [d1, d2, d3] => { results := [.lit (.bool false)], args := [d1, d2, d3] }
  | _ => none }
def FnNestedWrongFalsely : Prop := fnNestedRow.holds Try.pinned (OpenSpec.ofChange fnNestedWrong)

/-- 'laws.FnHasParent': WHATEVER THE INPUT: true; the input reads as it did. -/
def fnHasParentSpec : ChangeSpec := { name := "fnHasParent", fn := fun _ => fun
  | [d1, d2, d3] => { results := [.lit (.bool true)], args := [d1, d2, d3] }
  | _ => none }
def fnHasParentRow : OpenClaim := { program := "ytpkkdmopcfcnkaa", sum := "f8c4f5445c3489ebec04946992571763003a874158f03bd0aed58add03f9b96c", func := "loop.example/pub-g01525/laws.FnHasParent", spec := "fnHasParent", unfollowed := true, recurses := true, loops := true, apart := false }
def FnHasParentSaid : Prop := fnHasParentRow.holds Try.pinned (OpenSpec.ofChange fnHasParentSpec)

/-- ITS FALSE NEIGHBOUR: 'it returns false'. Refute it at one input. -/
def fnHasParentWrong : ChangeSpec := { name := "fnHasParent", fn := fun _ => fun
  | [d1, d2, d3] => { results := [.lit (.bool false)], args := [d1, d2, d3] }
  | _ => none }
def FnHasParentWrongFalsely : Prop := fnHasParentRow.holds Try.pinned (OpenSpec.ofChange fnHasParentWrong)

/-- 'laws.FnHasChild': WHATEVER THE INPUT: true; the input reads as it did. -/
def fnHasChildSpec : ChangeSpec := { name := "fnHasChild", fn := fun _ => fun
  | [d1, d2, d3] => { results := [.lit (.bool true)], args := [d1, d2, d3] }
  | _ => none }
def fnHasChildRow : OpenClaim := { program := "ytpkkdmopcfcnkaa", sum := "f8c4f5445c3489ebec04946992571763003a874158f03bd0aed58add03f9b96c", func := "loop.example/pub-g01525/laws.FnHasChild", spec := "fnHasChild", unfollowed := true, recurses := true, loops := true, apart := false }
def FnHasChildSaid : Prop := fnHasChildRow.holds Try.pinned (OpenSpec.ofChange fnHasChildSpec)

/-- ITS FALSE NEIGHBOUR: 'it returns false'. Refute it at one input. -/
def fnHasChildWrong : ChangeSpec := { name := "fnHasChild", fn := fun _ => fun
  | [d1, d2, d3] => { results := [.lit (.bool false)], args := [d1, d2, d3] }
  | _ => none }
def FnHasChildWrongFalsely : Prop := fnHasChildRow.holds Try.pinned (OpenSpec.ofChange fnHasChildWrong)

/-- 'laws.FnSpanFirst': WHATEVER THE INPUT: true; the input reads as it did. -/
def fnSpanFirstSpec : ChangeSpec := { name := "fnSpanFirst", fn := fun _ => fun
  | [d1, d2, d3] => { results := [.lit (.bool true)], args := [d1, d2, d3] }
  | _ => none }
def fnSpanFirstRow : OpenClaim := { program := "ytpkkdmopcfcnkaa", sum := "f8c4f5445c3489ebec04946992571763003a874158f03bd0aed58add03f9b96c", func := "loop.example/pub-g01525/laws.FnSpanFirst", spec := "fnSpanFirst", unfollowed := true, recurses := true, loops := true, apart := false }
def FnSpanFirstSaid : Prop := fnSpanFirstRow.holds Try.pinned (OpenSpec.ofChange fnSpanFirstSpec)

/-- ITS FALSE NEIGHBOUR: 'it returns false'. Refute it at one input. -/
def fnSpanFirstWrong : ChangeSpec := { name := "fnSpanFirst", fn := fun _ => fun
  | [d1, d2, d3] => { results := [.lit (.bool false)], args := [d1, d2, d3] }
  | _ => none }
def FnSpanFirstWrongFalsely : Prop := fnSpanFirstRow.holds Try.pinned (OpenSpec.ofChange fnSpanFirstWrong)

/-- 'laws.FnDisMax': WHATEVER THE INPUT: true; the input reads as it did. -/
def fnDisMaxSpec : ChangeSpec := { name := "fnDisMax", fn := fun _ => fun
  | [d1, d2] => { results := [.lit (.bool true)], args := [d1, d2] }
  | _ => none }
def fnDisMaxRow : OpenClaim := { program := "ytpkkdmopcfcnkaa", sum := "f8c4f5445c3489ebec04946992571763003a874158f03bd0aed58add03f9b96c", func := "loop.example/pub-g01525/laws.FnDisMax", spec := "fnDisMax", unfollowed := true, recurses := true, loops := true, apart := false }
def FnDisMaxSaid : Prop := fnDisMaxRow.holds Try.pinned (OpenSpec.ofChange fnDisMaxSpec)

/-- ITS FALSE NEIGHBOUR: 'it returns false'. Refute it at one input. -/
def fnDisMaxWrong : ChangeSpec := { name := "fnDisMax", fn := fun _ => fun
  | [d1, d2] => { results := [.lit (.bool false)], args := [d1, d2] }
  | _ => none }
def FnDisMaxWrongFalsely : Prop := fnDisMaxRow.holds Try.pinned (OpenSpec.ofChange fnDisMaxWrong)

/-- 'laws.FnSpanNear': WHATEVER THE INPUT: true; the input reads as it did. -/
def fnSpanNearSpec : ChangeSpec := { name := "fnSpanNear", fn := fun _ => fun
  | [d1, d2] => { results := [.lit (.bool true)], args := [d1, d2] }
  | _ => none }
def fnSpanNearRow : OpenClaim := { program := "ytpkkdmopcfcnkaa", sum := "f8c4f5445c3489ebec04946992571763003a874158f03bd0aed58add03f9b96c", func := "loop.example/pub-g01525/laws.FnSpanNear", spec := "fnSpanNear", unfollowed := true, recurses := true, loops := true, apart := false }
def FnSpanNearSaid : Prop := fnSpanNearRow.holds Try.pinned (OpenSpec.ofChange fnSpanNearSpec)

/-- ITS FALSE NEIGHBOUR: 'it returns false'. Refute it at one input. -/
def fnSpanNearWrong : ChangeSpec := { name := "fnSpanNear", fn := fun _ => fun
  | [d1, d2] => { results := [.lit (.bool false)], args := [d1, d2] }
  | _ => none }
def FnSpanNearWrongFalsely : Prop := fnSpanNearRow.holds Try.pinned (OpenSpec.ofChange fnSpanNearWrong)

/-- 'laws.FnPinned': WHATEVER THE INPUT: true; the input reads as it did. -/
def fnPinnedSpec : ChangeSpec := { name := "fnPinned", fn := fun _ => fun
  | [d1, d2] => { results := [.lit (.bool true)], args := [d1, d2] }
  | _ => none }
def fnPinnedRow : OpenClaim := { program := "ytpkkdmopcfcnkaa", sum := "f8c4f5445c3489ebec04946992571763003a874158f03bd0aed58add03f9b96c", func := "loop.example/pub-g01525/laws.FnPinned", spec := "fnPinned", unfollowed := true, recurses := true, loops := true, apart := false }
def FnPinnedSaid : Prop := fnPinnedRow.holds Try.pinned (OpenSpec.ofChange fnPinnedSpec)

/-- ITS FALSE NEIGHBOUR: 'it returns false'. Refute it at one input. -/
def fnPinnedWrong : ChangeSpec := { name := "fnPinned", fn := fun _ => fun
  | [d1, d2] => { results := [.lit (.bool false)], args := [d1, d2] }
  | _ => none }
def FnPinnedWrongFalsely : Prop := fnPinnedRow.holds Try.pinned (OpenSpec.ofChange fnPinnedWrong)

/-- 'laws.FnPercolate': WHATEVER THE INPUT: true; the input reads as it did. -/
def fnPercolateSpec : ChangeSpec := { name := "fnPercolate", fn := fun _ => fun
  | [d1, d2, d3] => { results := [.lit (.bool true)], args := [d1, d2, d3] }
  | _ => none }
def fnPercolateRow : OpenClaim := { program := "ytpkkdmopcfcnkaa", sum := "f8c4f5445c3489ebec04946992571763003a874158f03bd0aed58add03f9b96c", func := "loop.example/pub-g01525/laws.FnPercolate", spec := "fnPercolate", recurses := true, loops := true, apart := false }
def FnPercolateSaid : Prop := fnPercolateRow.holds Try.pinned (OpenSpec.ofChange fnPercolateSpec)

/-- ITS FALSE NEIGHBOUR: 'it returns false'. Refute it at one input. -/
def fnPercolateWrong : ChangeSpec := { name := "fnPercolate", fn := fun _ => fun
  | [d1, d2, d3] => { results := [.lit (.bool false)], args := [d1, d2, d3] }
  | _ => none }
def FnPercolateWrongFalsely : Prop := fnPercolateRow.holds Try.pinned (OpenSpec.ofChange fnPercolateWrong)

/-- 'laws.FnRankFeature': WHATEVER THE INPUT: true; the input reads as it did. -/
def fnRankFeatureSpec : ChangeSpec := { name := "fnRankFeature", fn := fun _ => fun
  | [d1, d2, d3] => { results := [.lit (.bool true)], args := [d1, d2, d3] }
  | _ => none }
def fnRankFeatureRow : OpenClaim := { program := "ytpkkdmopcfcnkaa", sum := "f8c4f5445c3489ebec04946992571763003a874158f03bd0aed58add03f9b96c", func := "loop.example/pub-g01525/laws.FnRankFeature", spec := "fnRankFeature", unfollowed := true, recurses := true, loops := true, apart := false }
def FnRankFeatureSaid : Prop := fnRankFeatureRow.holds Try.pinned (OpenSpec.ofChange fnRankFeatureSpec)

/-- ITS FALSE NEIGHBOUR: 'it returns false'. Refute it at one input. -/
def fnRankFeatureWrong : ChangeSpec := { name := "fnRankFeature", fn := fun _ => fun
  | [d1, d2, d3] => { results := [.lit (.bool false)], args := [d1, d2, d3] }
  | _ => none }
def FnRankFeatureWrongFalsely : Prop := fnRankFeatureRow.holds Try.pinned (OpenSpec.ofChange fnRankFeatureWrong)

/- THE SECOND FORM. 'bulk': how many values and letters a reading holds, each counted each time it is reached (what is shared counts as often as it is met; a slice's spare places count too). A statement '..UptoSaid' is the law's where the arguments, and the package variables that the reading takes, are together of bulk at most 1048576: NARROWER than '..Said'. Prove '..Said' where nothing that the law and all that it calls make is longer than what came in: it says more and counts as full. Else prove '..UptoSaid'. A law counts once. -/
mutual
def uptoBulk {H : Type} : DataW H → Nat
  | .lit (.string bytes) => bytes.length + 1
  | .lit _ => 1
  | .nil => 1
  | .ptr d => uptoBulk d + 1
  | .slice elems spare => uptoBulkAll elems + uptoBulkAll spare + 1
  | .agg parts => uptoBulkAll parts + 1
  | .iface _ d => uptoBulk d + 1
  | .map entries => uptoBulkEntries entries + 1
  | .held _ => 1
def uptoBulkAll {H : Type} : List (DataW H) → Nat
  | [] => 0
  | d :: r => uptoBulk d + uptoBulkAll r
def uptoBulkEntries {H : Type} : List (Lit × DataW H) → Nat
  | [] => 0
  | x :: r => uptoBulkEntry x + uptoBulkEntries r
def uptoBulkEntry {H : Type} : Lit × DataW H → Nat
  | (.string bytes, d) => bytes.length + uptoBulk d + 1
  | (_, d) => uptoBulk d + 1
 end
def uptoSmall : (H : Type) → List (DataW H) → Bool := fun _ ds => decide (uptoBulkAll ds ≤ 1048576)
def OpenSpec.upto (s : _root_.Go.ChangeSpec) : _root_.Go.OpenSpec := { _root_.Go.OpenSpec.ofChange s with cond := some uptoSmall }

/-- 'laws.FnConstantScore', WHERE WHAT IT READS IS OF BULK AT MOST 1048576: true; the input reads as it did. -/
def fnConstantScoreUptoRow : OpenClaim := { program := "ytpkkdmopcfcnkaa", sum := "f8c4f5445c3489ebec04946992571763003a874158f03bd0aed58add03f9b96c", func := "loop.example/pub-g01525/laws.FnConstantScore", spec := "fnConstantScore", unfollowed := true, recurses := true, loops := true, apart := false, narrowed := true }
def FnConstantScoreUptoSaid : Prop := fnConstantScoreUptoRow.holds Try.pinned (OpenSpec.upto fnConstantScoreSpec)

/-- 'laws.FnBoosting', WHERE WHAT IT READS IS OF BULK AT MOST 1048576: true; the input reads as it did. -/
def fnBoostingUptoRow : OpenClaim := { program := "ytpkkdmopcfcnkaa", sum := "f8c4f5445c3489ebec04946992571763003a874158f03bd0aed58add03f9b96c", func := "loop.example/pub-g01525/laws.FnBoosting", spec := "fnBoosting", unfollowed := true, recurses := true, loops := true, apart := false, narrowed := true }
def FnBoostingUptoSaid : Prop := fnBoostingUptoRow.holds Try.pinned (OpenSpec.upto fnBoostingSpec)

/-- 'laws.FnNested', WHERE WHAT IT READS IS OF BULK AT MOST 1048576: true; the input reads as it did. -/
def fnNestedUptoRow : OpenClaim := { program := "ytpkkdmopcfcnkaa", sum := "f8c4f5445c3489ebec04946992571763003a874158f03bd0aed58add03f9b96c", func := "loop.example/pub-g01525/laws.FnNested", spec := "fnNested", unfollowed := true, recurses := true, loops := true, apart := false, narrowed := true }
def FnNestedUptoSaid : Prop := fnNestedUptoRow.holds Try.pinned (OpenSpec.upto fnNestedSpec)

/-- 'laws.FnHasParent', WHERE WHAT IT READS IS OF BULK AT MOST 1048576: true; the input reads as it did. -/
def fnHasParentUptoRow : OpenClaim := { program := "ytpkkdmopcfcnkaa", sum := "f8c4f5445c3489ebec04946992571763003a874158f03bd0aed58add03f9b96c", func := "loop.example/pub-g01525/laws.FnHasParent", spec := "fnHasParent", unfollowed := true, recurses := true, loops := true, apart := false, narrowed := true }
def FnHasParentUptoSaid : Prop := fnHasParentUptoRow.holds Try.pinned (OpenSpec.upto fnHasParentSpec)

/-- 'laws.FnHasChild', WHERE WHAT IT READS IS OF BULK AT MOST 1048576: true; the input reads as it did. -/
def fnHasChildUptoRow : OpenClaim := { program := "ytpkkdmopcfcnkaa", sum := "f8c4f5445c3489ebec04946992571763003a874158f03bd0aed58add03f9b96c", func := "loop.example/pub-g01525/laws.FnHasChild", spec := "fnHasChild", unfollowed := true, recurses := true, loops := true, apart := false, narrowed := true }
def FnHasChildUptoSaid : Prop := fnHasChildUptoRow.holds Try.pinned (OpenSpec.upto fnHasChildSpec)

/-- 'laws.FnSpanFirst', WHERE WHAT IT READS IS OF BULK AT MOST 1048576: true; the input reads as it did. -/
def fnSpanFirstUptoRow : OpenClaim := { program := "ytpkkdmopcfcnkaa", sum := "f8c4f5445c3489ebec04946992571763003a874158f03bd0aed58add03f9b96c", func := "loop.example/pub-g01525/laws.FnSpanFirst", spec := "fnSpanFirst", unfollowed := true, recurses := true, loops := true, apart := false, narrowed := true }
def FnSpanFirstUptoSaid : Prop := fnSpanFirstUptoRow.holds Try.pinned (OpenSpec.upto fnSpanFirstSpec)

/-- 'laws.FnDisMax', WHERE WHAT IT READS IS OF BULK AT MOST 1048576: true; the input reads as it did. -/
def fnDisMaxUptoRow : OpenClaim := { program := "ytpkkdmopcfcnkaa", sum := "f8c4f5445c3489ebec04946992571763003a874158f03bd0aed58add03f9b96c", func := "loop.example/pub-g01525/laws.FnDisMax", spec := "fnDisMax", unfollowed := true, recurses := true, loops := true, apart := false, narrowed := true }
def FnDisMaxUptoSaid : Prop := fnDisMaxUptoRow.holds Try.pinned (OpenSpec.upto fnDisMaxSpec)

/-- 'laws.FnSpanNear', WHERE WHAT IT READS IS OF BULK AT MOST 1048576: true; the input reads as it did. -/
def fnSpanNearUptoRow : OpenClaim := { program := "ytpkkdmopcfcnkaa", sum := "f8c4f5445c3489ebec04946992571763003a874158f03bd0aed58add03f9b96c", func := "loop.example/pub-g01525/laws.FnSpanNear", spec := "fnSpanNear", unfollowed := true, recurses := true, loops := true, apart := false, narrowed := true }
def FnSpanNearUptoSaid : Prop := fnSpanNearUptoRow.holds Try.pinned (OpenSpec.upto fnSpanNearSpec)

/-- 'laws.FnPinned', WHERE WHAT IT READS IS OF BULK AT MOST 1048576: true; the input reads as it did. -/
def fnPinnedUptoRow : OpenClaim := { program := "ytpkkdmopcfcnkaa", sum := "f8c4f5445c3489ebec04946992571763003a874158f03bd0aed58add03f9b96c", func := "loop.example/pub-g01525/laws.FnPinned", spec := "fnPinned", unfollowed := true, recurses := true, loops := true, apart := false, narrowed := true }
def FnPinnedUptoSaid : Prop := fnPinnedUptoRow.holds Try.pinned (OpenSpec.upto fnPinnedSpec)

/-- 'laws.FnPercolate', WHERE WHAT IT READS IS OF BULK AT MOST 1048576: true; the input reads as it did. -/
def fnPercolateUptoRow : OpenClaim := { program := "ytpkkdmopcfcnkaa", sum := "f8c4f5445c3489ebec04946992571763003a874158f03bd0aed58add03f9b96c", func := "loop.example/pub-g01525/laws.FnPercolate", spec := "fnPercolate", recurses := true, loops := true, apart := false, narrowed := true }
def FnPercolateUptoSaid : Prop := fnPercolateUptoRow.holds Try.pinned (OpenSpec.upto fnPercolateSpec)

/-- 'laws.FnRankFeature', WHERE WHAT IT READS IS OF BULK AT MOST 1048576: true; the input reads as it did. -/
def fnRankFeatureUptoRow : OpenClaim := { program := "ytpkkdmopcfcnkaa", sum := "f8c4f5445c3489ebec04946992571763003a874158f03bd0aed58add03f9b96c", func := "loop.example/pub-g01525/laws.FnRankFeature", spec := "fnRankFeature", unfollowed := true, recurses := true, loops := true, apart := false, narrowed := true }
def FnRankFeatureUptoSaid : Prop := fnRankFeatureUptoRow.holds Try.pinned (OpenSpec.upto fnRankFeatureSpec)

end Rows
end Go.Proofs.Ytpkkdmopcfcnkaa
