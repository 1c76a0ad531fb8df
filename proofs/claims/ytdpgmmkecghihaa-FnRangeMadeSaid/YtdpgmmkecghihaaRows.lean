/-
  NARROWER THAN 'FOR EVERY INPUT', by the rows' own cells (each row's printed sentence says how): FnSlice: loops · FnTermsOfTexts: loops · FnIds: loops · FnParentId: loops · FnTermTurned: loops · FnTerms: loops · FnTermsMade: loops · FnGeoDistance: loops · FnDistanceFeature: loops · FnFuzzyTurned: loops · FnPercolate: loops · FnRangeMade: loops.
  DERIVED. THE GIVEN ROWS OF THIS SEAT. 12 by the template 'for every input the law returns true; each argument reads behind the call as it read before'; 0 by the template 'total and deterministic' (their statements: YtdpgmmkecghihaaTotals.lean).
  GIVEN WITH THE SEED: the statements are not yours to turn. If you find one false, say at which input.
  Laid BY PROGRAM, IN A SANDBOX (cutbox-rows.mjs): the forced cells as the released guide's own fill.sh prints them over the translation 122dcf29e27457b0… (all of the seat's roots in one cut). By AI agents, Wed Nov 11 2026. No macro, syntax, notation, axiom, sorry.
-/
import Derived.Test.YtdpgmmkecghihaaChecked
import GoSem.Claim
import GoSem.ClaimJoined
import GoSem.ClaimMapViews
import Derived.JoinedTies
import Derived.KernelRfl
namespace Go.Proofs.Ytdpgmmkecghihaa
/- THE CELL 'sum', in the pinned program and in every row, IS THE sha256 OF THE DUMP (.gsa) THAT YtdpgmmkecghihaaProg.lean LOADS. Nothing in Lean hashes anything: it is a label: what it is worth is what the hold of that sum in a sandbox is worth. -/
noncomputable def Try.pinned : Pinned := { name := "ytdpgmmkecghihaa", sum := "122dcf29e27457b0a4bb9784cc04bcfffb5dc6a93afc06cf81f83a6059668cc6", checked := Try.checked }
namespace Rows
def none {H : Type} : Left H := { results := [], args := [] }

/-- 'laws.FnSlice': WHATEVER THE INPUT: true; the input reads as it did. -/
def fnSliceSpec : ChangeSpec := { name := "fnSlice", fn := fun _ => fun
  | [d] => { results := [.lit (.bool true)], args := [d] }
  | _ => none }
def fnSliceRow : OpenClaim := { program := "ytdpgmmkecghihaa", sum := "122dcf29e27457b0a4bb9784cc04bcfffb5dc6a93afc06cf81f83a6059668cc6", func := "loop.example/pub-g01525/laws.FnSlice", spec := "fnSlice", recurses := true, loops := true, apart := false }
def FnSliceSaid : Prop := fnSliceRow.holds Try.pinned (OpenSpec.ofChange fnSliceSpec)

/-- ITS FALSE NEIGHBOUR: 'it returns false'. Refute it at one input. -/
def fnSliceWrong : ChangeSpec := { name := "fnSlice", fn := fun _ => fun
  | [d] => { results := [.lit (.bool false)], args := [d] }
  | _ => none }
def FnSliceWrongFalsely : Prop := fnSliceRow.holds Try.pinned (OpenSpec.ofChange fnSliceWrong)

/-- 'laws.FnTermsOfTexts': WHATEVER THE INPUT: true; the input reads as it did. -/
def fnTermsOfTextsSpec : ChangeSpec := { name := "fnTermsOfTexts", fn := fun _ => fun
  | [d1, d2, d3] => { results := [.lit (.bool true)], args := [d1, d2, d3] }
  | _ => none }
def fnTermsOfTextsRow : OpenClaim := { program := "ytdpgmmkecghihaa", sum := "122dcf29e27457b0a4bb9784cc04bcfffb5dc6a93afc06cf81f83a6059668cc6", func := "loop.example/pub-g01525/laws.FnTermsOfTexts", spec := "fnTermsOfTexts", recurses := true, loops := true, apart := false }
def FnTermsOfTextsSaid : Prop := fnTermsOfTextsRow.holds Try.pinned (OpenSpec.ofChange fnTermsOfTextsSpec)

/-- ITS FALSE NEIGHBOUR: 'it returns false'. Refute it at one input. -/
def fnTermsOfTextsWrong : ChangeSpec := { name := "fnTermsOfTexts", fn := fun _ => fun
  | [d1, d2, d3] => { results := [.lit (.bool false)], args := [d1, d2, d3] }
  | _ => none }
def FnTermsOfTextsWrongFalsely : Prop := fnTermsOfTextsRow.holds Try.pinned (OpenSpec.ofChange fnTermsOfTextsWrong)

/-- 'laws.FnIds': WHATEVER THE INPUT: true; the input reads as it did. -/
def fnIdsSpec : ChangeSpec := { name := "fnIds", fn := fun _ => fun
  | [d1, d2] => { results := [.lit (.bool true)], args := [d1, d2] }
  | _ => none }
def fnIdsRow : OpenClaim := { program := "ytdpgmmkecghihaa", sum := "122dcf29e27457b0a4bb9784cc04bcfffb5dc6a93afc06cf81f83a6059668cc6", func := "loop.example/pub-g01525/laws.FnIds", spec := "fnIds", recurses := true, loops := true, apart := false }
def FnIdsSaid : Prop := fnIdsRow.holds Try.pinned (OpenSpec.ofChange fnIdsSpec)

/-- ITS FALSE NEIGHBOUR: 'it returns false'. Refute it at one input. -/
def fnIdsWrong : ChangeSpec := { name := "fnIds", fn := fun _ => fun
  | [d1, d2] => { results := [.lit (.bool false)], args := [d1, d2] }
  | _ => none }
def FnIdsWrongFalsely : Prop := fnIdsRow.holds Try.pinned (OpenSpec.ofChange fnIdsWrong)

/-- 'laws.FnParentId': WHATEVER THE INPUT: true; the input reads as it did. -/
def fnParentIdSpec : ChangeSpec := { name := "fnParentId", fn := fun _ => fun
  | [d1, d2, d3] => { results := [.lit (.bool true)], args := [d1, d2, d3] }
  | _ => none }
def fnParentIdRow : OpenClaim := { program := "ytdpgmmkecghihaa", sum := "122dcf29e27457b0a4bb9784cc04bcfffb5dc6a93afc06cf81f83a6059668cc6", func := "loop.example/pub-g01525/laws.FnParentId", spec := "fnParentId", recurses := true, loops := true, apart := false }
def FnParentIdSaid : Prop := fnParentIdRow.holds Try.pinned (OpenSpec.ofChange fnParentIdSpec)

/-- ITS FALSE NEIGHBOUR: 'it returns false'. Refute it at one input. -/
def fnParentIdWrong : ChangeSpec := { name := "fnParentId", fn := fun _ => fun
  | [d1, d2, d3] => { results := [.lit (.bool false)], args := [d1, d2, d3] }
  | _ => none }
def FnParentIdWrongFalsely : Prop := fnParentIdRow.holds Try.pinned (OpenSpec.ofChange fnParentIdWrong)

/-- 'laws.FnTermTurned': WHATEVER THE INPUT: true; the input reads as it did. -/
def fnTermTurnedSpec : ChangeSpec := { name := "fnTermTurned", fn := fun _ => fun
  | [d1, d2, d3] => { results := [.lit (.bool true)], args := [d1, d2, d3] }
  | _ => none }
def fnTermTurnedRow : OpenClaim := { program := "ytdpgmmkecghihaa", sum := "122dcf29e27457b0a4bb9784cc04bcfffb5dc6a93afc06cf81f83a6059668cc6", func := "loop.example/pub-g01525/laws.FnTermTurned", spec := "fnTermTurned", recurses := true, loops := true, apart := false }
def FnTermTurnedSaid : Prop := fnTermTurnedRow.holds Try.pinned (OpenSpec.ofChange fnTermTurnedSpec)

/-- ITS FALSE NEIGHBOUR: 'it returns false'. Refute it at one input. -/
def fnTermTurnedWrong : ChangeSpec := { name := "fnTermTurned", fn := fun _ => fun
  | [d1, d2, d3] => { results := [.lit (.bool false)], args := [d1, d2, d3] }
  | _ => none }
def FnTermTurnedWrongFalsely : Prop := fnTermTurnedRow.holds Try.pinned (OpenSpec.ofChange fnTermTurnedWrong)

/-- 'laws.FnTerms': WHATEVER THE INPUT: true; the input reads as it did. -/
def fnTermsSpec : ChangeSpec := { name := "fnTerms", fn := fun _ => fun
  | [d1, d2, d3] => { results := [.lit (.bool true)], args := [d1, d2, d3] }
  | _ => none }
def fnTermsRow : OpenClaim := { program := "ytdpgmmkecghihaa", sum := "122dcf29e27457b0a4bb9784cc04bcfffb5dc6a93afc06cf81f83a6059668cc6", func := "loop.example/pub-g01525/laws.FnTerms", spec := "fnTerms", recurses := true, loops := true, apart := false }
def FnTermsSaid : Prop := fnTermsRow.holds Try.pinned (OpenSpec.ofChange fnTermsSpec)

/-- ITS FALSE NEIGHBOUR: 'it returns false'. Refute it at one input. -/
def fnTermsWrong : ChangeSpec := { name := "fnTerms", fn := fun _ => fun
  | [d1, d2, d3] => { results := [.lit (.bool false)], args := [d1, d2, d3] }
  | _ => none }
def FnTermsWrongFalsely : Prop := fnTermsRow.holds Try.pinned (OpenSpec.ofChange fnTermsWrong)

/-- 'laws.FnTermsMade': WHATEVER THE INPUT: true; the input reads as it did. -/
def fnTermsMadeSpec : ChangeSpec := { name := "fnTermsMade", fn := fun _ => fun
  | [d1, d2, d3] => { results := [.lit (.bool true)], args := [d1, d2, d3] }
  | _ => none }
def fnTermsMadeRow : OpenClaim := { program := "ytdpgmmkecghihaa", sum := "122dcf29e27457b0a4bb9784cc04bcfffb5dc6a93afc06cf81f83a6059668cc6", func := "loop.example/pub-g01525/laws.FnTermsMade", spec := "fnTermsMade", recurses := true, loops := true, apart := false }
def FnTermsMadeSaid : Prop := fnTermsMadeRow.holds Try.pinned (OpenSpec.ofChange fnTermsMadeSpec)

/-- ITS FALSE NEIGHBOUR: 'it returns false'. Refute it at one input. -/
def fnTermsMadeWrong : ChangeSpec := { name := "fnTermsMade", fn := fun _ => fun
  | [d1, d2, d3] => { results := [.lit (.bool false)], args := [d1, d2, d3] }
  | _ => none }
def FnTermsMadeWrongFalsely : Prop := fnTermsMadeRow.holds Try.pinned (OpenSpec.ofChange fnTermsMadeWrong)

/-- 'laws.FnGeoDistance': WHATEVER THE INPUT: true; the input reads as it did. -/
def fnGeoDistanceSpec : ChangeSpec := { name := "fnGeoDistance", fn := fun _ => fun
  | [d1, d2] => { results := [.lit (.bool true)], args := [d1, d2] }
  | _ => none }
def fnGeoDistanceRow : OpenClaim := { program := "ytdpgmmkecghihaa", sum := "122dcf29e27457b0a4bb9784cc04bcfffb5dc6a93afc06cf81f83a6059668cc6", func := "loop.example/pub-g01525/laws.FnGeoDistance", spec := "fnGeoDistance", recurses := true, loops := true, apart := false }
def FnGeoDistanceSaid : Prop := fnGeoDistanceRow.holds Try.pinned (OpenSpec.ofChange fnGeoDistanceSpec)

/-- ITS FALSE NEIGHBOUR: 'it returns false'. Refute it at one input. -/
def fnGeoDistanceWrong : ChangeSpec := { name := "fnGeoDistance", fn := fun _ => fun
  | [d1, d2] => { results := [.lit (.bool false)], args := [d1, d2] }
  | _ => none }
def FnGeoDistanceWrongFalsely : Prop := fnGeoDistanceRow.holds Try.pinned (OpenSpec.ofChange fnGeoDistanceWrong)

/-- 'laws.FnDistanceFeature': WHATEVER THE INPUT: true; the input reads as it did. -/
def fnDistanceFeatureSpec : ChangeSpec := { name := "fnDistanceFeature", fn := fun _ => fun
  | [d1, d2, d3, d4] => { results := [.lit (.bool true)], args := [d1, d2, d3, d4] }
  | _ => none }
def fnDistanceFeatureRow : OpenClaim := { program := "ytdpgmmkecghihaa", sum := "122dcf29e27457b0a4bb9784cc04bcfffb5dc6a93afc06cf81f83a6059668cc6", func := "loop.example/pub-g01525/laws.FnDistanceFeature", spec := "fnDistanceFeature", recurses := true, loops := true, apart := false }
def FnDistanceFeatureSaid : Prop := fnDistanceFeatureRow.holds Try.pinned (OpenSpec.ofChange fnDistanceFeatureSpec)

/-- ITS FALSE NEIGHBOUR: 'it returns false'. Refute it at one input. -/
def fnDistanceFeatureWrong : ChangeSpec := { name := "fnDistanceFeature", fn := fun _ => fun
  | [d1, d2, d3, d4] => { results := [.lit (.bool false)], args := [d1, d2, d3, d4] }
  | _ => none }
def FnDistanceFeatureWrongFalsely : Prop := fnDistanceFeatureRow.holds Try.pinned (OpenSpec.ofChange fnDistanceFeatureWrong)

/-- 'laws.FnFuzzyTurned': WHATEVER THE INPUT: true; the input reads as it did. -/
def fnFuzzyTurnedSpec : ChangeSpec := { name := "fnFuzzyTurned", fn := fun _ => fun
  | [d1, d2, d3] => { results := [.lit (.bool true)], args := [d1, d2, d3] }
  | _ => none }
def fnFuzzyTurnedRow : OpenClaim := { program := "ytdpgmmkecghihaa", sum := "122dcf29e27457b0a4bb9784cc04bcfffb5dc6a93afc06cf81f83a6059668cc6", func := "loop.example/pub-g01525/laws.FnFuzzyTurned", spec := "fnFuzzyTurned", recurses := true, loops := true, apart := false }
def FnFuzzyTurnedSaid : Prop := fnFuzzyTurnedRow.holds Try.pinned (OpenSpec.ofChange fnFuzzyTurnedSpec)

/-- ITS FALSE NEIGHBOUR: 'it returns false'. Refute it at one input. -/
def fnFuzzyTurnedWrong : ChangeSpec := { name := "fnFuzzyTurned", fn := fun _ => fun
  | [d1, d2, d3] => { results := [.lit (.bool false)], args := [d1, d2, d3] }
  | _ => none }
def FnFuzzyTurnedWrongFalsely : Prop := fnFuzzyTurnedRow.holds Try.pinned (OpenSpec.ofChange fnFuzzyTurnedWrong)

/-- 'laws.FnPercolate': WHATEVER THE INPUT: true; the input reads as it did. -/
def fnPercolateSpec : ChangeSpec := { name := "fnPercolate", fn := fun _ => fun
  | [d1, d2, d3] => { results := [.lit (.bool true)], args := [d1, d2, d3] }
  | _ => none }
def fnPercolateRow : OpenClaim := { program := "ytdpgmmkecghihaa", sum := "122dcf29e27457b0a4bb9784cc04bcfffb5dc6a93afc06cf81f83a6059668cc6", func := "loop.example/pub-g01525/laws.FnPercolate", spec := "fnPercolate", recurses := true, loops := true, apart := false }
def FnPercolateSaid : Prop := fnPercolateRow.holds Try.pinned (OpenSpec.ofChange fnPercolateSpec)

/-- ITS FALSE NEIGHBOUR: 'it returns false'. Refute it at one input. -/
def fnPercolateWrong : ChangeSpec := { name := "fnPercolate", fn := fun _ => fun
  | [d1, d2, d3] => { results := [.lit (.bool false)], args := [d1, d2, d3] }
  | _ => none }
def FnPercolateWrongFalsely : Prop := fnPercolateRow.holds Try.pinned (OpenSpec.ofChange fnPercolateWrong)

/-- 'laws.FnRangeMade': WHATEVER THE INPUT: true; the input reads as it did. -/
def fnRangeMadeSpec : ChangeSpec := { name := "fnRangeMade", fn := fun _ => fun
  | [d1, d2, d3, d4] => { results := [.lit (.bool true)], args := [d1, d2, d3, d4] }
  | _ => none }
def fnRangeMadeRow : OpenClaim := { program := "ytdpgmmkecghihaa", sum := "122dcf29e27457b0a4bb9784cc04bcfffb5dc6a93afc06cf81f83a6059668cc6", func := "loop.example/pub-g01525/laws.FnRangeMade", spec := "fnRangeMade", recurses := true, loops := true, apart := false }
def FnRangeMadeSaid : Prop := fnRangeMadeRow.holds Try.pinned (OpenSpec.ofChange fnRangeMadeSpec)

/-- ITS FALSE NEIGHBOUR: 'it returns false'. Refute it at one input. -/
def fnRangeMadeWrong : ChangeSpec := { name := "fnRangeMade", fn := fun _ => fun
  | [d1, d2, d3, d4] => { results := [.lit (.bool false)], args := [d1, d2, d3, d4] }
  | _ => none }
def FnRangeMadeWrongFalsely : Prop := fnRangeMadeRow.holds Try.pinned (OpenSpec.ofChange fnRangeMadeWrong)

/- THE SECOND FORM. 'bulk': how many values and letters a reading holds, each counted each time it is reached (what is shared counts as often as it is met; a slice's spare places count too). A statement '..UptoSaid' is the law's where the arguments, and the package variables that the reading takes, are together of bulk at most 1048576: NARROWER than '..Said'. Prove '..Said' where nothing that the law and all that it calls make is longer than what came in: it says more and counts as full. Else prove '..UptoSaid'. A law counts once. -/
mutual
def uptoBulk {H : Type} : DataW H → Nat
  | .lit (.string bytes) => bytes.length + 1
  | .lit _ => 1
  | .nil => 1
  | .ptr d => uptoBulk d + 1
  | .slice elems spare => uptoBulkAll elems + uptoBulkAll spare + 1
  | .agg parts => uptoBulkAll parts + 1
  | .iface _ d => uptoBulk d + 1
  | .map entries => uptoBulkEntries entries + 1
  | .held _ => 1
def uptoBulkAll {H : Type} : List (DataW H) → Nat
  | [] => 0
  | d :: r => uptoBulk d + uptoBulkAll r
def uptoBulkEntries {H : Type} : List (Lit × DataW H) → Nat
  | [] => 0
  | x :: r => uptoBulkEntry x + uptoBulkEntries r
def uptoBulkEntry {H : Type} : Lit × DataW H → Nat
  | (.string bytes, d) => bytes.length + uptoBulk d + 1
  | (_, d) => uptoBulk d + 1
 end
def uptoSmall : (H : Type) → List (DataW H) → Bool := fun _ ds => decide (uptoBulkAll ds ≤ 1048576)
def OpenSpec.upto (s : _root_.Go.ChangeSpec) : _root_.Go.OpenSpec := { _root_.Go.OpenSpec.ofChange s with cond := some uptoSmall }

/-- 'laws.FnSlice', WHERE WHAT IT READS IS OF BULK AT MOST 1048576: true; the input reads as it did. -/
def fnSliceUptoRow : OpenClaim := { program := "ytdpgmmkecghihaa", sum := "122dcf29e27457b0a4bb9784cc04bcfffb5dc6a93afc06cf81f83a6059668cc6", func := "loop.example/pub-g01525/laws.FnSlice", spec := "fnSlice", recurses := true, loops := true, apart := false, narrowed := true }
def FnSliceUptoSaid : Prop := fnSliceUptoRow.holds Try.pinned (OpenSpec.upto fnSliceSpec)

/-- 'laws.FnTermsOfTexts', WHERE WHAT IT READS IS OF BULK AT MOST 1048576: true; the input reads as it did. -/
def fnTermsOfTextsUptoRow : OpenClaim := { program := "ytdpgmmkecghihaa", sum := "122dcf29e27457b0a4bb9784cc04bcfffb5dc6a93afc06cf81f83a6059668cc6", func := "loop.example/pub-g01525/laws.FnTermsOfTexts", spec := "fnTermsOfTexts", recurses := true, loops := true, apart := false, narrowed := true }
def FnTermsOfTextsUptoSaid : Prop := fnTermsOfTextsUptoRow.holds Try.pinned (OpenSpec.upto fnTermsOfTextsSpec)

/-- 'laws.FnIds', WHERE WHAT IT READS IS OF BULK AT MOST 1048576: true; the input reads as it did. -/
def fnIdsUptoRow : OpenClaim := { program := "ytdpgmmkecghihaa", sum := "122dcf29e27457b0a4bb9784cc04bcfffb5dc6a93afc06cf81f83a6059668cc6", func := "loop.example/pub-g01525/laws.FnIds", spec := "fnIds", recurses := true, loops := true, apart := false, narrowed := true }
def FnIdsUptoSaid : Prop := fnIdsUptoRow.holds Try.pinned (OpenSpec.upto fnIdsSpec)

/-- 'laws.FnParentId', WHERE WHAT IT READS IS OF BULK AT MOST 1048576: true; the input reads as it did. -/
def fnParentIdUptoRow : OpenClaim := { program := "ytdpgmmkecghihaa", sum := "122dcf29e27457b0a4bb9784cc04bcfffb5dc6a93afc06cf81f83a6059668cc6", func := "loop.example/pub-g01525/laws.FnParentId", spec := "fnParentId", recurses := true, loops := true, apart := false, narrowed := true }
def FnParentIdUptoSaid : Prop := fnParentIdUptoRow.holds Try.pinned (OpenSpec.upto fnParentIdSpec)

/-- 'laws.FnTermTurned', WHERE WHAT IT READS IS OF BULK AT MOST 1048576: true; the input reads as it did. -/
def fnTermTurnedUptoRow : OpenClaim := { program := "ytdpgmmkecghihaa", sum := "122dcf29e27457b0a4bb9784cc04bcfffb5dc6a93afc06cf81f83a6059668cc6", func := "loop.example/pub-g01525/laws.FnTermTurned", spec := "fnTermTurned", recurses := true, loops := true, apart := false, narrowed := true }
def FnTermTurnedUptoSaid : Prop := fnTermTurnedUptoRow.holds Try.pinned (OpenSpec.upto fnTermTurnedSpec)

/-- 'laws.FnTerms', WHERE WHAT IT READS IS OF BULK AT MOST 1048576: true; the input reads as it did. -/
def fnTermsUptoRow : OpenClaim := { program := "ytdpgmmkecghihaa", sum := "122dcf29e27457b0a4bb9784cc04bcfffb5dc6a93afc06cf81f83a6059668cc6", func := "loop.example/pub-g01525/laws.FnTerms", spec := "fnTerms", recurses := true, loops := true, apart := false, narrowed := true }
def FnTermsUptoSaid : Prop := fnTermsUptoRow.holds Try.pinned (OpenSpec.upto fnTermsSpec)

/-- 'laws.FnTermsMade', WHERE WHAT IT READS IS OF BULK AT MOST 1048576: true; the input reads as it did. -/
def fnTermsMadeUptoRow : OpenClaim := { program := "ytdpgmmkecghihaa", sum := "122dcf29e27457b0a4bb9784cc04bcfffb5dc6a93afc06cf81f83a6059668cc6", func := "loop.example/pub-g01525/laws.FnTermsMade", spec := "fnTermsMade", recurses := true, loops := true, apart := false, narrowed := true }
def FnTermsMadeUptoSaid : Prop := fnTermsMadeUptoRow.holds Try.pinned (OpenSpec.upto fnTermsMadeSpec)

/-- 'laws.FnGeoDistance', WHERE WHAT IT READS IS OF BULK AT MOST 1048576: true; the input reads as it did. -/
def fnGeoDistanceUptoRow : OpenClaim := { program := "ytdpgmmkecghihaa", sum := "122dcf29e27457b0a4bb9784cc04bcfffb5dc6a93afc06cf81f83a6059668cc6", func := "loop.example/pub-g01525/laws.FnGeoDistance", spec := "fnGeoDistance", recurses := true, loops := true, apart := false, narrowed := true }
def FnGeoDistanceUptoSaid : Prop := fnGeoDistanceUptoRow.holds Try.pinned (OpenSpec.upto fnGeoDistanceSpec)

/-- 'laws.FnDistanceFeature', WHERE WHAT IT READS IS OF BULK AT MOST 1048576: true; the input reads as it did. -/
def fnDistanceFeatureUptoRow : OpenClaim := { program := "ytdpgmmkecghihaa", sum := "122dcf29e27457b0a4bb9784cc04bcfffb5dc6a93afc06cf81f83a6059668cc6", func := "loop.example/pub-g01525/laws.FnDistanceFeature", spec := "fnDistanceFeature", recurses := true, loops := true, apart := false, narrowed := true }
def FnDistanceFeatureUptoSaid : Prop := fnDistanceFeatureUptoRow.holds Try.pinned (OpenSpec.upto fnDistanceFeatureSpec)

/-- 'laws.FnFuzzyTurned', WHERE WHAT IT READS IS OF BULK AT MOST 1048576: true; the input reads as it did. -/
def fnFuzzyTurnedUptoRow : OpenClaim := { program := "ytdpgmmkecghihaa", sum := "122dcf29e27457b0a4bb9784cc04bcfffb5dc6a93afc06cf81f83a6059668cc6", func := "loop.example/pub-g01525/laws.FnFuzzyTurned", spec := "fnFuzzyTurned", recurses := true, loops := true, apart := false, narrowed := true }
def FnFuzzyTurnedUptoSaid : Prop := fnFuzzyTurnedUptoRow.holds Try.pinned (OpenSpec.upto fnFuzzyTurnedSpec)

/-- 'laws.FnPercolate', WHERE WHAT IT READS IS OF BULK AT MOST 1048576: true; the input reads as it did. -/
def fnPercolateUptoRow : OpenClaim := { program := "ytdpgmmkecghihaa", sum := "122dcf29e27457b0a4bb9784cc04bcfffb5dc6a93afc06cf81f83a6059668cc6", func := "loop.example/pub-g01525/laws.FnPercolate", spec := "fnPercolate", recurses := true, loops := true, apart := false, narrowed := true }
def FnPercolateUptoSaid : Prop := fnPercolateUptoRow.holds Try.pinned (OpenSpec.upto fnPercolateSpec)

/-- 'laws.FnRangeMade', WHERE WHAT IT READS IS OF BULK AT MOST 1048576: true; the input reads as it did. -/
def fnRangeMadeUptoRow : OpenClaim := { program := "ytdpgmmkecghihaa", sum := "122dcf29e27457b0a4bb9784cc04bcfffb5dc6a93afc06cf81f83a6059668cc6", func := "loop.example/pub-g01525/laws.FnRangeMade", spec := "fnRangeMade", recurses := true, loops := true, apart := false, narrowed := true }
def FnRangeMadeUptoSaid : Prop := fnRangeMadeUptoRow.holds Try.pinned (OpenSpec.upto fnRangeMadeSpec)

end Rows
end Go.Proofs.Ytdpgmmkecghihaa
