/-
  NARROWER THAN 'FOR EVERY INPUT', by the rows' own cells (each row's printed sentence says how): FnRulePrefix: loops · FnRuleWildcard: loops · FnRuleMatch: loops · FnRuleFuzzy: loops · FnRuleAllOf: loops · FnIntervals: loops.
  DERIVED. THE GIVEN ROWS OF THIS SEAT. 8 by the template 'for every input the law returns true; each argument reads behind the call as it read before'; 0 by the template 'total and deterministic' (their statements: YtegnnbpobcmgcaaGreatTotals.lean).
  GIVEN WITH THE SEED: the statements are not yours to turn. If you find one false, say at which input.
  Laid BY PROGRAM, IN A SANDBOX (cutbox-rows.mjs): the forced cells as the released guide's own fill.sh prints them over the translation dd8e445126f6efb3… (all of the seat's roots in one cut). By AI agents, Wed Nov 11 2026. No macro, syntax, notation, axiom, sorry.
-/
import Derived.Test.YtegnnbpobcmgcaaGreatChecked
import GoSem.Claim
import GoSem.ClaimJoined
import GoSem.ClaimMapViews
import Derived.JoinedTies
import Derived.KernelRfl
namespace Go.Proofs.YtegnnbpobcmgcaaGreat
/- THE CELL 'sum', in the pinned program and in every row, IS THE sha256 OF THE DUMP (.gsa) THAT YtegnnbpobcmgcaaGreatProg.lean LOADS. Nothing in Lean hashes anything: it is a label: what it is worth is what the hold of that sum in a sandbox is worth. -/
noncomputable def Tryz.pinned : Pinned := { name := "ytegnnbpobcmgcaagreat", sum := "dd8e445126f6efb3f03f3d432d7e7064d92b2cc5a2b271b26380e2cb4d7c50c6", checked := Tryz.checked }
namespace Rows
def none {H : Type} : Left H := { results := [], args := [] }

/-- 'laws.FnRulePrefix': WHATEVER THE INPUT: true; the input reads as it did. -/
def fnRulePrefixSpec : ChangeSpec := { name := "fnRulePrefix", fn := fun _ => fun
  | [d1, d2, d3] => { results := [.lit (.bool true)], args := [d1, d2, d3] }
  | _ => none }
def fnRulePrefixRow : OpenClaim := { program := "ytegnnbpobcmgcaagreat", sum := "dd8e445126f6efb3f03f3d432d7e7064d92b2cc5a2b271b26380e2cb4d7c50c6", func := "loop.example/pub-g01525/laws.FnRulePrefix", spec := "fnRulePrefix", unfollowed := true, recurses := true, loops := true, apart := false }
def FnRulePrefixSaid : Prop := fnRulePrefixRow.holds Tryz.pinned (OpenSpec.ofChange fnRulePrefixSpec)

/-- ITS FALSE NEIGHBOUR: 'it returns false'. Refute it at one input. -/
def fnRulePrefixWrong : ChangeSpec := { name := "fnRulePrefix", fn := fun _ => fun
  | [d1, d2, d3] => { results := [.lit (.bool false)], args := [d1, d2, d3] }
  | _ => none }
def FnRulePrefixWrongFalsely : Prop := fnRulePrefixRow.holds Tryz.pinned (OpenSpec.ofChange fnRulePrefixWrong)

/-- 'laws.FnRuleWildcard': WHATEVER THE INPUT: true; the input reads as it did. -/
def fnRuleWildcardSpec : ChangeSpec := { name := "fnRuleWildcard", fn := fun _ => fun
  | [d1, d2, d3] => { results := [.lit (.bool true)], args := [d1, d2, d3] }
  | _ => none }
def fnRuleWildcardRow : OpenClaim := { program := "ytegnnbpobcmgcaagreat", sum := "dd8e445126f6efb3f03f3d432d7e7064d92b2cc5a2b271b26380e2cb4d7c50c6", func := "loop.example/pub-g01525/laws.FnRuleWildcard", spec := "fnRuleWildcard", unfollowed := true, recurses := true, loops := true, apart := false }
def FnRuleWildcardSaid : Prop := fnRuleWildcardRow.holds Tryz.pinned (OpenSpec.ofChange fnRuleWildcardSpec)

/-- ITS FALSE NEIGHBOUR: 'it returns false'. Refute it at one input. -/
def fnRuleWildcardWrong : ChangeSpec := { name := "fnRuleWildcard", fn := fun _ => fun
  | [d1, d2, d3] => { results := [.lit (.bool false)], args := [d1, d2, d3] }
  | _ => none }
def FnRuleWildcardWrongFalsely : Prop := fnRuleWildcardRow.holds Tryz.pinned (OpenSpec.ofChange fnRuleWildcardWrong)

/-- 'laws.FnRuleMatch': WHATEVER THE INPUT: true; the input reads as it did. -/
def fnRuleMatchSpec : ChangeSpec := { name := "fnRuleMatch", fn := fun _ => fun
  | [d1, d2, d3] => { results := [.lit (.bool true)], args := [d1, d2, d3] }
  | _ => none }
def fnRuleMatchRow : OpenClaim := { program := "ytegnnbpobcmgcaagreat", sum := "dd8e445126f6efb3f03f3d432d7e7064d92b2cc5a2b271b26380e2cb4d7c50c6", func := "loop.example/pub-g01525/laws.FnRuleMatch", spec := "fnRuleMatch", unfollowed := true, recurses := true, loops := true, apart := false }
def FnRuleMatchSaid : Prop := fnRuleMatchRow.holds Tryz.pinned (OpenSpec.ofChange fnRuleMatchSpec)

/-- ITS FALSE NEIGHBOUR: 'it returns false'. Refute it at one input. -/
def fnRuleMatchWrong : ChangeSpec := { name := "fnRuleMatch", fn := fun _ => fun
  | [d1, d2, d3] => { results := [.lit (.bool false)], args := [d1, d2, d3] }
  | _ => none }
def FnRuleMatchWrongFalsely : Prop := fnRuleMatchRow.holds Tryz.pinned (OpenSpec.ofChange fnRuleMatchWrong)

/-- 'laws.FnRuleFuzzy': WHATEVER THE INPUT: true; the input reads as it did. -/
def fnRuleFuzzySpec : ChangeSpec := { name := "fnRuleFuzzy", fn := fun _ => fun
  | [d1, d2, d3] => { results := [.lit (.bool true)], args := [d1, d2, d3] }
  | _ => none }
def fnRuleFuzzyRow : OpenClaim := { program := "ytegnnbpobcmgcaagreat", sum := "dd8e445126f6efb3f03f3d432d7e7064d92b2cc5a2b271b26380e2cb4d7c50c6", func := "loop.example/pub-g01525/laws.FnRuleFuzzy", spec := "fnRuleFuzzy", unfollowed := true, recurses := true, loops := true, apart := false }
def FnRuleFuzzySaid : Prop := fnRuleFuzzyRow.holds Tryz.pinned (OpenSpec.ofChange fnRuleFuzzySpec)

/-- ITS FALSE NEIGHBOUR: 'it returns false'. Refute it at one input. -/
def fnRuleFuzzyWrong : ChangeSpec := { name := "fnRuleFuzzy", fn := fun _ => fun
  | [d1, d2, d3] => { results := [.lit (.bool false)], args := [d1, d2, d3] }
  | _ => none }
def FnRuleFuzzyWrongFalsely : Prop := fnRuleFuzzyRow.holds Tryz.pinned (OpenSpec.ofChange fnRuleFuzzyWrong)

/-- 'laws.FnRuleAllOf': WHATEVER THE INPUT: true; the input reads as it did. -/
def fnRuleAllOfSpec : ChangeSpec := { name := "fnRuleAllOf", fn := fun _ => fun
  | [d1, d2, d3] => { results := [.lit (.bool true)], args := [d1, d2, d3] }
  | _ => none }
def fnRuleAllOfRow : OpenClaim := { program := "ytegnnbpobcmgcaagreat", sum := "dd8e445126f6efb3f03f3d432d7e7064d92b2cc5a2b271b26380e2cb4d7c50c6", func := "loop.example/pub-g01525/laws.FnRuleAllOf", spec := "fnRuleAllOf", unfollowed := true, recurses := true, loops := true, apart := false }
def FnRuleAllOfSaid : Prop := fnRuleAllOfRow.holds Tryz.pinned (OpenSpec.ofChange fnRuleAllOfSpec)

/-- ITS FALSE NEIGHBOUR: 'it returns false'. Refute it at one input. -/
def fnRuleAllOfWrong : ChangeSpec := { name := "fnRuleAllOf", fn := fun _ => fun
  | [d1, d2, d3] => { results := [.lit (.bool false)], args := [d1, d2, d3] }
  | _ => none }
def FnRuleAllOfWrongFalsely : Prop := fnRuleAllOfRow.holds Tryz.pinned (OpenSpec.ofChange fnRuleAllOfWrong)

/-- 'laws.FnRuleAnyOf': WHATEVER THE INPUT: true; the input reads as it did. -/
def fnRuleAnyOfSpec : ChangeSpec := { name := "fnRuleAnyOf", fn := fun _ => fun
  | [d1, d2] => { results := [.lit (.bool true)], args := [d1, d2] }
  | _ => none }
def fnRuleAnyOfRow : OpenClaim := { program := "ytegnnbpobcmgcaagreat", sum := "dd8e445126f6efb3f03f3d432d7e7064d92b2cc5a2b271b26380e2cb4d7c50c6", func := "loop.example/pub-g01525/laws.FnRuleAnyOf", spec := "fnRuleAnyOf", unfollowed := true, recurses := true, apart := false }
def FnRuleAnyOfSaid : Prop := fnRuleAnyOfRow.holds Tryz.pinned (OpenSpec.ofChange fnRuleAnyOfSpec)

/-- ITS FALSE NEIGHBOUR: 'it returns false'. Refute it at one input. -/
def fnRuleAnyOfWrong : ChangeSpec := { name := "fnRuleAnyOf", fn := fun _ => fun
  | [d1, d2] => { results := [.lit (.bool false)], args := [d1, d2] }
  | _ => none }
def FnRuleAnyOfWrongFalsely : Prop := fnRuleAnyOfRow.holds Tryz.pinned (OpenSpec.ofChange fnRuleAnyOfWrong)

/-- 'laws.FnRuleFilter': WHATEVER THE INPUT: true; the input reads as it did. -/
def fnRuleFilterSpec : ChangeSpec := { name := "fnRuleFilter", fn := fun _ => fun
  | [d1, d2, d3, d4] => { results := [.lit (.bool true)], args := [d1, d2, d3, d4] }
  | _ => none }
def fnRuleFilterRow : OpenClaim := { program := "ytegnnbpobcmgcaagreat", sum := "dd8e445126f6efb3f03f3d432d7e7064d92b2cc5a2b271b26380e2cb4d7c50c6", func := "loop.example/pub-g01525/laws.FnRuleFilter", spec := "fnRuleFilter", unfollowed := true, recurses := true, apart := false }
def FnRuleFilterSaid : Prop := fnRuleFilterRow.holds Tryz.pinned (OpenSpec.ofChange fnRuleFilterSpec)

/-- ITS FALSE NEIGHBOUR: 'it returns false'. Refute it at one input. -/
def fnRuleFilterWrong : ChangeSpec := { name := "fnRuleFilter", fn := fun _ => fun
  | [d1, d2, d3, d4] => { results := [.lit (.bool false)], args := [d1, d2, d3, d4] }
  | _ => none }
def FnRuleFilterWrongFalsely : Prop := fnRuleFilterRow.holds Tryz.pinned (OpenSpec.ofChange fnRuleFilterWrong)

/-- 'laws.FnIntervals': WHATEVER THE INPUT: true; the input reads as it did. -/
def fnIntervalsSpec : ChangeSpec := { name := "fnIntervals", fn := fun _ => fun
  | [d1, d2] => { results := [.lit (.bool true)], args := [d1, d2] }
  | _ => none }
def fnIntervalsRow : OpenClaim := { program := "ytegnnbpobcmgcaagreat", sum := "dd8e445126f6efb3f03f3d432d7e7064d92b2cc5a2b271b26380e2cb4d7c50c6", func := "loop.example/pub-g01525/laws.FnIntervals", spec := "fnIntervals", unfollowed := true, recurses := true, loops := true, apart := false }
def FnIntervalsSaid : Prop := fnIntervalsRow.holds Tryz.pinned (OpenSpec.ofChange fnIntervalsSpec)

/-- ITS FALSE NEIGHBOUR: 'it returns false'. Refute it at one input. -/
def fnIntervalsWrong : ChangeSpec := { name := "fnIntervals", fn := fun _ => fun
  | [d1, d2] => { results := [.lit (.bool false)], args := [d1, d2] }
  | _ => none }
def FnIntervalsWrongFalsely : Prop := fnIntervalsRow.holds Tryz.pinned (OpenSpec.ofChange fnIntervalsWrong)

/- THE SECOND FORM. 'bulk': how many values and letters a reading holds, each counted each time it is reached (what is shared counts as often as it is met; a slice's spare places count too). A statement '..UptoSaid' is the law's where the arguments, and the package variables that the reading takes, are together of bulk at most 1048576: NARROWER than '..Said'. Prove '..Said' where nothing that the law and all that it calls make is longer than what came in: it says more and counts as full. Else prove '..UptoSaid'. A law counts once. -/
mutual
def uptoBulk {H : Type} : DataW H → Nat
  | .lit (.string bytes) => bytes.length + 1
  | .lit _ => 1
  | .nil => 1
  | .ptr d => uptoBulk d + 1
  | .slice elems spare => uptoBulkAll elems + uptoBulkAll spare + 1
  | .agg parts => uptoBulkAll parts + 1
  | .iface _ d => uptoBulk d + 1
  | .map entries => uptoBulkEntries entries + 1
  | .held _ => 1
def uptoBulkAll {H : Type} : List (DataW H) → Nat
  | [] => 0
  | d :: r => uptoBulk d + uptoBulkAll r
def uptoBulkEntries {H : Type} : List (Lit × DataW H) → Nat
  | [] => 0
  | x :: r => uptoBulkEntry x + uptoBulkEntries r
def uptoBulkEntry {H : Type} : Lit × DataW H → Nat
  | (.string bytes, d) => bytes.length + uptoBulk d + 1
  | (_, d) => uptoBulk d + 1
 end
def uptoSmall : (H : Type) → List (DataW H) → Bool := fun _ ds => decide (uptoBulkAll ds ≤ 1048576)
def OpenSpec.upto (s : _root_.Go.ChangeSpec) : _root_.Go.OpenSpec := { _root_.Go.OpenSpec.ofChange s with cond := some uptoSmall }

/-- 'laws.FnRulePrefix', WHERE WHAT IT READS IS OF BULK AT MOST 1048576: true; the input reads as it did. -/
def fnRulePrefixUptoRow : OpenClaim := { program := "ytegnnbpobcmgcaagreat", sum := "dd8e445126f6efb3f03f3d432d7e7064d92b2cc5a2b271b26380e2cb4d7c50c6", func := "loop.example/pub-g01525/laws.FnRulePrefix", spec := "fnRulePrefix", unfollowed := true, recurses := true, loops := true, apart := false, narrowed := true }
def FnRulePrefixUptoSaid : Prop := fnRulePrefixUptoRow.holds Tryz.pinned (OpenSpec.upto fnRulePrefixSpec)

/-- 'laws.FnRuleWildcard', WHERE WHAT IT READS IS OF BULK AT MOST 1048576: true; the input reads as it did. -/
def fnRuleWildcardUptoRow : OpenClaim := { program := "ytegnnbpobcmgcaagreat", sum := "dd8e445126f6efb3f03f3d432d7e7064d92b2cc5a2b271b26380e2cb4d7c50c6", func := "loop.example/pub-g01525/laws.FnRuleWildcard", spec := "fnRuleWildcard", unfollowed := true, recurses := true, loops := true, apart := false, narrowed := true }
def FnRuleWildcardUptoSaid : Prop := fnRuleWildcardUptoRow.holds Tryz.pinned (OpenSpec.upto fnRuleWildcardSpec)

/-- 'laws.FnRuleMatch', WHERE WHAT IT READS IS OF BULK AT MOST 1048576: true; the input reads as it did. -/
def fnRuleMatchUptoRow : OpenClaim := { program := "ytegnnbpobcmgcaagreat", sum := "dd8e445126f6efb3f03f3d432d7e7064d92b2cc5a2b271b26380e2cb4d7c50c6", func := "loop.example/pub-g01525/laws.FnRuleMatch", spec := "fnRuleMatch", unfollowed := true, recurses := true, loops := true, apart := false, narrowed := true }
def FnRuleMatchUptoSaid : Prop := fnRuleMatchUptoRow.holds Tryz.pinned (OpenSpec.upto fnRuleMatchSpec)

/-- 'laws.FnRuleFuzzy', WHERE WHAT IT READS IS OF BULK AT MOST 1048576: true; the input reads as it did. -/
def fnRuleFuzzyUptoRow : OpenClaim := { program := "ytegnnbpobcmgcaagreat", sum := "dd8e445126f6efb3f03f3d432d7e7064d92b2cc5a2b271b26380e2cb4d7c50c6", func := "loop.example/pub-g01525/laws.FnRuleFuzzy", spec := "fnRuleFuzzy", unfollowed := true, recurses := true, loops := true, apart := false, narrowed := true }
def FnRuleFuzzyUptoSaid : Prop := fnRuleFuzzyUptoRow.holds Tryz.pinned (OpenSpec.upto fnRuleFuzzySpec)

/-- 'laws.FnRuleAllOf', WHERE WHAT IT READS IS OF BULK AT MOST 1048576: true; the input reads as it did. -/
def fnRuleAllOfUptoRow : OpenClaim := { program := "ytegnnbpobcmgcaagreat", sum := "dd8e445126f6efb3f03f3d432d7e7064d92b2cc5a2b271b26380e2cb4d7c50c6", func := "loop.example/pub-g01525/laws.FnRuleAllOf", spec := "fnRuleAllOf", unfollowed := true, recurses := true, loops := true, apart := false, narrowed := true }
def FnRuleAllOfUptoSaid : Prop := fnRuleAllOfUptoRow.holds Tryz.pinned (OpenSpec.upto fnRuleAllOfSpec)

/-- 'laws.FnRuleAnyOf', WHERE WHAT IT READS IS OF BULK AT MOST 1048576: true; the input reads as it did. -/
def fnRuleAnyOfUptoRow : OpenClaim := { program := "ytegnnbpobcmgcaagreat", sum := "dd8e445126f6efb3f03f3d432d7e7064d92b2cc5a2b271b26380e2cb4d7c50c6", func := "loop.example/pub-g01525/laws.FnRuleAnyOf", spec := "fnRuleAnyOf", unfollowed := true, recurses := true, apart := false, narrowed := true }
def FnRuleAnyOfUptoSaid : Prop := fnRuleAnyOfUptoRow.holds Tryz.pinned (OpenSpec.upto fnRuleAnyOfSpec)

/-- 'laws.FnRuleFilter', WHERE WHAT IT READS IS OF BULK AT MOST 1048576: true; the input reads as it did. -/
def fnRuleFilterUptoRow : OpenClaim := { program := "ytegnnbpobcmgcaagreat", sum := "dd8e445126f6efb3f03f3d432d7e7064d92b2cc5a2b271b26380e2cb4d7c50c6", func := "loop.example/pub-g01525/laws.FnRuleFilter", spec := "fnRuleFilter", unfollowed := true, recurses := true, apart := false, narrowed := true }
def FnRuleFilterUptoSaid : Prop := fnRuleFilterUptoRow.holds Tryz.pinned (OpenSpec.upto fnRuleFilterSpec)

/-- 'laws.FnIntervals', WHERE WHAT IT READS IS OF BULK AT MOST 1048576: true; the input reads as it did. -/
def fnIntervalsUptoRow : OpenClaim := { program := "ytegnnbpobcmgcaagreat", sum := "dd8e445126f6efb3f03f3d432d7e7064d92b2cc5a2b271b26380e2cb4d7c50c6", func := "loop.example/pub-g01525/laws.FnIntervals", spec := "fnIntervals", unfollowed := true, recurses := true, loops := true, apart := false, narrowed := true }
def FnIntervalsUptoSaid : Prop := fnIntervalsUptoRow.holds Tryz.pinned (OpenSpec.upto fnIntervalsSpec)

end Rows
end Go.Proofs.YtegnnbpobcmgcaaGreat
