/-
  NARROWER THAN 'FOR EVERY INPUT', by the rows' own cells (each row's printed sentence says how): FnMatchPhrase: loops, laid · FnMatchPhrasePrefix: loops, laid · FnTermsSet: loops, laid · FnFuzzy: loops, laid · FnMatchBoolPrefix: loops, laid · FnRange: loops, laid · FnMatch: loops, laid.
  DERIVED. THE GIVEN ROWS OF THIS SEAT. 7 by the template 'for every input the law returns true; each argument reads behind the call as it read before'; 0 by the template 'total and deterministic' (their statements: YtocfoheckgdonaaGreatDoorTotals.lean).
  GIVEN WITH THE SEED: the statements are not yours to turn. If you find one false, say at which input.
  Laid BY PROGRAM, IN A SANDBOX (cutbox-rows.mjs): the forced cells as the released guide's own fill.sh prints them over the translation bc6f3088a4313a18… (all of the seat's roots in one cut). By AI agents, Wed Nov 11 2026. No macro, syntax, notation, axiom, sorry.
-/
import Derived.Test.YtocfoheckgdonaaGreatDoorChecked
import GoSem.PinnedTables
import GoSem.Claim
import GoSem.ClaimJoined
import GoSem.ClaimMapViews
import Derived.JoinedTies
import Derived.KernelRfl
namespace Go.Proofs.YtocfoheckgdonaaGreatDoor
/- THE CELL 'sum', in the pinned program and in every row, IS THE sha256 OF THE DUMP (.gsa) THAT YtocfoheckgdonaaGreatDoorProg.lean LOADS. Nothing in Lean hashes anything: it is a label: what it is worth is what the hold of that sum in a sandbox is worth. -/
noncomputable def Tryz.pinned : Pinned := { name := "ytocfoheckgdonaagreatdoor", sum := "bc6f3088a4313a18e555ead5d05c455ce1470f8aee1502be8aefb7cdd74c9d87", checked := Tryz.checked }
namespace Rows
def none {H : Type} : Left H := { results := [], args := [] }

/- WHAT THE LISTED PACKAGE-LEVEL VARIABLES READ AS WHEN THE CALL BEGINS. Each datum BY PROGRAM (the guide's laid-datum.mjs) off the statement by which the dump's own 'gosem.cut.vars' lays the variable. In a bare row this is a premise. The card (YtocfoheckgdonaaGreatDoorCards.lean) ties it to the program's text. -/
def laid_unicode_utf8_acceptRanges {H : Type} : DataW H := .agg [.agg [.lit (.int .u8 128), .lit (.int .u8 191)], .agg [.lit (.int .u8 160), .lit (.int .u8 191)], .agg [.lit (.int .u8 128), .lit (.int .u8 159)], .agg [.lit (.int .u8 144), .lit (.int .u8 191)], .agg [.lit (.int .u8 128), .lit (.int .u8 143)], .agg [.lit (.int .u8 0), .lit (.int .u8 0)], .agg [.lit (.int .u8 0), .lit (.int .u8 0)], .agg [.lit (.int .u8 0), .lit (.int .u8 0)], .agg [.lit (.int .u8 0), .lit (.int .u8 0)], .agg [.lit (.int .u8 0), .lit (.int .u8 0)], .agg [.lit (.int .u8 0), .lit (.int .u8 0)], .agg [.lit (.int .u8 0), .lit (.int .u8 0)], .agg [.lit (.int .u8 0), .lit (.int .u8 0)], .agg [.lit (.int .u8 0), .lit (.int .u8 0)], .agg [.lit (.int .u8 0), .lit (.int .u8 0)], .agg [.lit (.int .u8 0), .lit (.int .u8 0)]]
/-- One of Go's own tables, pinned by name: the form's constant. -/
def laid_unicode_CaseRanges : DataW Unit := Go.Pinned.caseRanges
/-- One of Go's own tables, pinned by name: the form's constant. -/
def laid_unicode_utf8_first : DataW Unit := Go.Pinned.utf8First

/-- 'laws.FnMatchPhrase': WHATEVER THE INPUT: true; the input reads as it did. -/
def fnMatchPhraseSpec : ChangeSpec := { name := "fnMatchPhrase", fn := fun _ => fun
  | [d1, d2, d3] => { results := [.lit (.bool true)], args := [d1, d2, d3] }
  | _ => none }
def fnMatchPhraseRow : OpenClaim := { program := "ytocfoheckgdonaagreatdoor", sum := "bc6f3088a4313a18e555ead5d05c455ce1470f8aee1502be8aefb7cdd74c9d87", func := "loop.example/pub-g01525/laws.FnMatchPhrase", spec := "fnMatchPhrase", inPlace := ["internal/abi.NoEscape", "internal/bytealg.MakeNoZero"], unfollowed := true, recurses := true, named := ["unicode/utf8.first", "unicode/utf8.acceptRanges", "unicode.CaseRanges"], loops := true, apart := false, laid := [("unicode/utf8.acceptRanges", laid_unicode_utf8_acceptRanges), ("unicode.CaseRanges", laid_unicode_CaseRanges), ("unicode/utf8.first", laid_unicode_utf8_first)] }
def FnMatchPhraseSaid : Prop := fnMatchPhraseRow.holds Tryz.pinned (OpenSpec.ofChange fnMatchPhraseSpec)

/-- ITS FALSE NEIGHBOUR: 'it returns false'. Refute it at one input. -/
def fnMatchPhraseWrong : ChangeSpec := { name := "fnMatchPhrase", fn := fun _ => fun
  | [d1, d2, d3] => { results := [.lit (.bool false)], args := [d1, d2, d3] }
  | _ => none }
def FnMatchPhraseWrongFalsely : Prop := fnMatchPhraseRow.holds Tryz.pinned (OpenSpec.ofChange fnMatchPhraseWrong)

/-- 'laws.FnMatchPhrasePrefix': WHATEVER THE INPUT: true; the input reads as it did. -/
def fnMatchPhrasePrefixSpec : ChangeSpec := { name := "fnMatchPhrasePrefix", fn := fun _ => fun
  | [d1, d2, d3] => { results := [.lit (.bool true)], args := [d1, d2, d3] }
  | _ => none }
def fnMatchPhrasePrefixRow : OpenClaim := { program := "ytocfoheckgdonaagreatdoor", sum := "bc6f3088a4313a18e555ead5d05c455ce1470f8aee1502be8aefb7cdd74c9d87", func := "loop.example/pub-g01525/laws.FnMatchPhrasePrefix", spec := "fnMatchPhrasePrefix", inPlace := ["internal/abi.NoEscape", "internal/bytealg.MakeNoZero"], unfollowed := true, recurses := true, named := ["unicode/utf8.first", "unicode/utf8.acceptRanges", "unicode.CaseRanges"], loops := true, apart := false, laid := [("unicode/utf8.acceptRanges", laid_unicode_utf8_acceptRanges), ("unicode.CaseRanges", laid_unicode_CaseRanges), ("unicode/utf8.first", laid_unicode_utf8_first)] }
def FnMatchPhrasePrefixSaid : Prop := fnMatchPhrasePrefixRow.holds Tryz.pinned (OpenSpec.ofChange fnMatchPhrasePrefixSpec)

/-- ITS FALSE NEIGHBOUR: 'it returns false'. Refute it at one input. -/
def fnMatchPhrasePrefixWrong : ChangeSpec := { name := "fnMatchPhrasePrefix", fn := fun _ => fun
  | [d1, d2, d3] => { results := [.lit (.bool false)], args := [d1, d2, d3] }
  | _ => none }
def FnMatchPhrasePrefixWrongFalsely : Prop := fnMatchPhrasePrefixRow.holds Tryz.pinned (OpenSpec.ofChange fnMatchPhrasePrefixWrong)

/-- 'laws.FnTermsSet': WHATEVER THE INPUT: true; the input reads as it did. -/
def fnTermsSetSpec : ChangeSpec := { name := "fnTermsSet", fn := fun _ => fun
  | [d1, d2, d3] => { results := [.lit (.bool true)], args := [d1, d2, d3] }
  | _ => none }
def fnTermsSetRow : OpenClaim := { program := "ytocfoheckgdonaagreatdoor", sum := "bc6f3088a4313a18e555ead5d05c455ce1470f8aee1502be8aefb7cdd74c9d87", func := "loop.example/pub-g01525/laws.FnTermsSet", spec := "fnTermsSet", inPlace := ["internal/abi.NoEscape", "internal/bytealg.MakeNoZero"], unfollowed := true, recurses := true, named := ["unicode/utf8.first", "unicode/utf8.acceptRanges", "unicode.CaseRanges"], loops := true, apart := false, laid := [("unicode/utf8.acceptRanges", laid_unicode_utf8_acceptRanges), ("unicode.CaseRanges", laid_unicode_CaseRanges), ("unicode/utf8.first", laid_unicode_utf8_first)] }
def FnTermsSetSaid : Prop := fnTermsSetRow.holds Tryz.pinned (OpenSpec.ofChange fnTermsSetSpec)

/-- ITS FALSE NEIGHBOUR: 'it returns false'. Refute it at one input. -/
def fnTermsSetWrong : ChangeSpec := { name := "fnTermsSet", fn := fun _ => fun
  | [d1, d2, d3] => { results := [.lit (.bool false)], args := [d1, d2, d3] }
  | _ => none }
def FnTermsSetWrongFalsely : Prop := fnTermsSetRow.holds Tryz.pinned (OpenSpec.ofChange fnTermsSetWrong)

/-- 'laws.FnFuzzy': WHATEVER THE INPUT: true; the input reads as it did. -/
def fnFuzzySpec : ChangeSpec := { name := "fnFuzzy", fn := fun _ => fun
  | [d1, d2, d3] => { results := [.lit (.bool true)], args := [d1, d2, d3] }
  | _ => none }
def fnFuzzyRow : OpenClaim := { program := "ytocfoheckgdonaagreatdoor", sum := "bc6f3088a4313a18e555ead5d05c455ce1470f8aee1502be8aefb7cdd74c9d87", func := "loop.example/pub-g01525/laws.FnFuzzy", spec := "fnFuzzy", inPlace := ["internal/abi.NoEscape", "internal/bytealg.MakeNoZero"], unfollowed := true, recurses := true, named := ["unicode/utf8.first", "unicode/utf8.acceptRanges", "unicode.CaseRanges"], loops := true, apart := false, laid := [("unicode/utf8.acceptRanges", laid_unicode_utf8_acceptRanges), ("unicode.CaseRanges", laid_unicode_CaseRanges), ("unicode/utf8.first", laid_unicode_utf8_first)] }
def FnFuzzySaid : Prop := fnFuzzyRow.holds Tryz.pinned (OpenSpec.ofChange fnFuzzySpec)

/-- ITS FALSE NEIGHBOUR: 'it returns false'. Refute it at one input. -/
def fnFuzzyWrong : ChangeSpec := { name := "fnFuzzy", fn := fun _ => fun
  | [d1, d2, d3] => { results := [.lit (.bool false)], args := [d1, d2, d3] }
  | _ => none }
def FnFuzzyWrongFalsely : Prop := fnFuzzyRow.holds Tryz.pinned (OpenSpec.ofChange fnFuzzyWrong)

/-- 'laws.FnMatchBoolPrefix': WHATEVER THE INPUT: true; the input reads as it did. -/
def fnMatchBoolPrefixSpec : ChangeSpec := { name := "fnMatchBoolPrefix", fn := fun _ => fun
  | [d1, d2, d3] => { results := [.lit (.bool true)], args := [d1, d2, d3] }
  | _ => none }
def fnMatchBoolPrefixRow : OpenClaim := { program := "ytocfoheckgdonaagreatdoor", sum := "bc6f3088a4313a18e555ead5d05c455ce1470f8aee1502be8aefb7cdd74c9d87", func := "loop.example/pub-g01525/laws.FnMatchBoolPrefix", spec := "fnMatchBoolPrefix", inPlace := ["internal/abi.NoEscape", "internal/bytealg.MakeNoZero"], unfollowed := true, recurses := true, named := ["unicode/utf8.first", "unicode/utf8.acceptRanges", "unicode.CaseRanges"], loops := true, apart := false, laid := [("unicode/utf8.acceptRanges", laid_unicode_utf8_acceptRanges), ("unicode.CaseRanges", laid_unicode_CaseRanges), ("unicode/utf8.first", laid_unicode_utf8_first)] }
def FnMatchBoolPrefixSaid : Prop := fnMatchBoolPrefixRow.holds Tryz.pinned (OpenSpec.ofChange fnMatchBoolPrefixSpec)

/-- ITS FALSE NEIGHBOUR: 'it returns false'. Refute it at one input. -/
def fnMatchBoolPrefixWrong : ChangeSpec := { name := "fnMatchBoolPrefix", fn := fun _ => fun
  | [d1, d2, d3] => { results := [.lit (.bool false)], args := [d1, d2, d3] }
  | _ => none }
def FnMatchBoolPrefixWrongFalsely : Prop := fnMatchBoolPrefixRow.holds Tryz.pinned (OpenSpec.ofChange fnMatchBoolPrefixWrong)

/-- 'laws.FnRange': WHATEVER THE INPUT: true; the input reads as it did. -/
def fnRangeSpec : ChangeSpec := { name := "fnRange", fn := fun _ => fun
  | [d1, d2] => { results := [.lit (.bool true)], args := [d1, d2] }
  | _ => none }
def fnRangeRow : OpenClaim := { program := "ytocfoheckgdonaagreatdoor", sum := "bc6f3088a4313a18e555ead5d05c455ce1470f8aee1502be8aefb7cdd74c9d87", func := "loop.example/pub-g01525/laws.FnRange", spec := "fnRange", inPlace := ["internal/abi.NoEscape", "internal/bytealg.MakeNoZero"], unfollowed := true, recurses := true, named := ["unicode/utf8.first", "unicode/utf8.acceptRanges", "unicode.CaseRanges"], loops := true, apart := false, laid := [("unicode/utf8.acceptRanges", laid_unicode_utf8_acceptRanges), ("unicode.CaseRanges", laid_unicode_CaseRanges), ("unicode/utf8.first", laid_unicode_utf8_first)] }
def FnRangeSaid : Prop := fnRangeRow.holds Tryz.pinned (OpenSpec.ofChange fnRangeSpec)

/-- ITS FALSE NEIGHBOUR: 'it returns false'. Refute it at one input. -/
def fnRangeWrong : ChangeSpec := { name := "fnRange", fn := fun _ => fun
  | [d1, d2] => { results := [.lit (.bool false)], args := [d1, d2] }
  | _ => none }
def FnRangeWrongFalsely : Prop := fnRangeRow.holds Tryz.pinned (OpenSpec.ofChange fnRangeWrong)

/-- 'laws.FnMatch': WHATEVER THE INPUT: true; the input reads as it did. -/
def fnMatchSpec : ChangeSpec := { name := "fnMatch", fn := fun _ => fun
  | [d1, d2, d3] => { results := [.lit (.bool true)], args := [d1, d2, d3] }
  | _ => none }
def fnMatchRow : OpenClaim := { program := "ytocfoheckgdonaagreatdoor", sum := "bc6f3088a4313a18e555ead5d05c455ce1470f8aee1502be8aefb7cdd74c9d87", func := "loop.example/pub-g01525/laws.FnMatch", spec := "fnMatch", inPlace := ["internal/abi.NoEscape", "internal/bytealg.MakeNoZero"], unfollowed := true, recurses := true, named := ["unicode/utf8.first", "unicode/utf8.acceptRanges", "unicode.CaseRanges"], loops := true, apart := false, laid := [("unicode/utf8.acceptRanges", laid_unicode_utf8_acceptRanges), ("unicode.CaseRanges", laid_unicode_CaseRanges), ("unicode/utf8.first", laid_unicode_utf8_first)] }
def FnMatchSaid : Prop := fnMatchRow.holds Tryz.pinned (OpenSpec.ofChange fnMatchSpec)

/-- ITS FALSE NEIGHBOUR: 'it returns false'. Refute it at one input. -/
def fnMatchWrong : ChangeSpec := { name := "fnMatch", fn := fun _ => fun
  | [d1, d2, d3] => { results := [.lit (.bool false)], args := [d1, d2, d3] }
  | _ => none }
def FnMatchWrongFalsely : Prop := fnMatchRow.holds Tryz.pinned (OpenSpec.ofChange fnMatchWrong)

/- THE SECOND FORM. 'bulk': how many values and letters a reading holds, each counted each time it is reached (what is shared counts as often as it is met; a slice's spare places count too). A statement '..UptoSaid' is the law's where the arguments, and the package variables that the reading takes, are together of bulk at most 1048576: NARROWER than '..Said'. Prove '..Said' where nothing that the law and all that it calls make is longer than what came in: it says more and counts as full. Else prove '..UptoSaid'. A law counts once. -/
mutual
def uptoBulk {H : Type} : DataW H → Nat
  | .lit (.string bytes) => bytes.length + 1
  | .lit _ => 1
  | .nil => 1
  | .ptr d => uptoBulk d + 1
  | .slice elems spare => uptoBulkAll elems + uptoBulkAll spare + 1
  | .agg parts => uptoBulkAll parts + 1
  | .iface _ d => uptoBulk d + 1
  | .map entries => uptoBulkEntries entries + 1
  | .held _ => 1
def uptoBulkAll {H : Type} : List (DataW H) → Nat
  | [] => 0
  | d :: r => uptoBulk d + uptoBulkAll r
def uptoBulkEntries {H : Type} : List (Lit × DataW H) → Nat
  | [] => 0
  | x :: r => uptoBulkEntry x + uptoBulkEntries r
def uptoBulkEntry {H : Type} : Lit × DataW H → Nat
  | (.string bytes, d) => bytes.length + uptoBulk d + 1
  | (_, d) => uptoBulk d + 1
 end
def uptoSmall : (H : Type) → List (DataW H) → Bool := fun _ ds => decide (uptoBulkAll ds ≤ 1048576)
def OpenSpec.upto (s : _root_.Go.ChangeSpec) : _root_.Go.OpenSpec := { _root_.Go.OpenSpec.ofChange s with cond := some uptoSmall }

/-- 'laws.FnMatchPhrase', WHERE WHAT IT READS IS OF BULK AT MOST 1048576: true; the input reads as it did. -/
def fnMatchPhraseUptoRow : OpenClaim := { program := "ytocfoheckgdonaagreatdoor", sum := "bc6f3088a4313a18e555ead5d05c455ce1470f8aee1502be8aefb7cdd74c9d87", func := "loop.example/pub-g01525/laws.FnMatchPhrase", spec := "fnMatchPhrase", inPlace := ["internal/abi.NoEscape", "internal/bytealg.MakeNoZero"], unfollowed := true, recurses := true, named := ["unicode/utf8.first", "unicode/utf8.acceptRanges", "unicode.CaseRanges"], loops := true, apart := false, laid := [("unicode/utf8.acceptRanges", laid_unicode_utf8_acceptRanges), ("unicode.CaseRanges", laid_unicode_CaseRanges), ("unicode/utf8.first", laid_unicode_utf8_first)], narrowed := true }
def FnMatchPhraseUptoSaid : Prop := fnMatchPhraseUptoRow.holds Tryz.pinned (OpenSpec.upto fnMatchPhraseSpec)

/-- 'laws.FnMatchPhrasePrefix', WHERE WHAT IT READS IS OF BULK AT MOST 1048576: true; the input reads as it did. -/
def fnMatchPhrasePrefixUptoRow : OpenClaim := { program := "ytocfoheckgdonaagreatdoor", sum := "bc6f3088a4313a18e555ead5d05c455ce1470f8aee1502be8aefb7cdd74c9d87", func := "loop.example/pub-g01525/laws.FnMatchPhrasePrefix", spec := "fnMatchPhrasePrefix", inPlace := ["internal/abi.NoEscape", "internal/bytealg.MakeNoZero"], unfollowed := true, recurses := true, named := ["unicode/utf8.first", "unicode/utf8.acceptRanges", "unicode.CaseRanges"], loops := true, apart := false, laid := [("unicode/utf8.acceptRanges", laid_unicode_utf8_acceptRanges), ("unicode.CaseRanges", laid_unicode_CaseRanges), ("unicode/utf8.first", laid_unicode_utf8_first)], narrowed := true }
def FnMatchPhrasePrefixUptoSaid : Prop := fnMatchPhrasePrefixUptoRow.holds Tryz.pinned (OpenSpec.upto fnMatchPhrasePrefixSpec)

/-- 'laws.FnTermsSet', WHERE WHAT IT READS IS OF BULK AT MOST 1048576: true; the input reads as it did. -/
def fnTermsSetUptoRow : OpenClaim := { program := "ytocfoheckgdonaagreatdoor", sum := "bc6f3088a4313a18e555ead5d05c455ce1470f8aee1502be8aefb7cdd74c9d87", func := "loop.example/pub-g01525/laws.FnTermsSet", spec := "fnTermsSet", inPlace := ["internal/abi.NoEscape", "internal/bytealg.MakeNoZero"], unfollowed := true, recurses := true, named := ["unicode/utf8.first", "unicode/utf8.acceptRanges", "unicode.CaseRanges"], loops := true, apart := false, laid := [("unicode/utf8.acceptRanges", laid_unicode_utf8_acceptRanges), ("unicode.CaseRanges", laid_unicode_CaseRanges), ("unicode/utf8.first", laid_unicode_utf8_first)], narrowed := true }
def FnTermsSetUptoSaid : Prop := fnTermsSetUptoRow.holds Tryz.pinned (OpenSpec.upto fnTermsSetSpec)

/-- 'laws.FnFuzzy', WHERE WHAT IT READS IS OF BULK AT MOST 1048576: true; the input reads as it did. -/
def fnFuzzyUptoRow : OpenClaim := { program := "ytocfoheckgdonaagreatdoor", sum := "bc6f3088a4313a18e555ead5d05c455ce1470f8aee1502be8aefb7cdd74c9d87", func := "loop.example/pub-g01525/laws.FnFuzzy", spec := "fnFuzzy", inPlace := ["internal/abi.NoEscape", "internal/bytealg.MakeNoZero"], unfollowed := true, recurses := true, named := ["unicode/utf8.first", "unicode/utf8.acceptRanges", "unicode.CaseRanges"], loops := true, apart := false, laid := [("unicode/utf8.acceptRanges", laid_unicode_utf8_acceptRanges), ("unicode.CaseRanges", laid_unicode_CaseRanges), ("unicode/utf8.first", laid_unicode_utf8_first)], narrowed := true }
def FnFuzzyUptoSaid : Prop := fnFuzzyUptoRow.holds Tryz.pinned (OpenSpec.upto fnFuzzySpec)

/-- 'laws.FnMatchBoolPrefix', WHERE WHAT IT READS IS OF BULK AT MOST 1048576: true; the input reads as it did. -/
def fnMatchBoolPrefixUptoRow : OpenClaim := { program := "ytocfoheckgdonaagreatdoor", sum := "bc6f3088a4313a18e555ead5d05c455ce1470f8aee1502be8aefb7cdd74c9d87", func := "loop.example/pub-g01525/laws.FnMatchBoolPrefix", spec := "fnMatchBoolPrefix", inPlace := ["internal/abi.NoEscape", "internal/bytealg.MakeNoZero"], unfollowed := true, recurses := true, named := ["unicode/utf8.first", "unicode/utf8.acceptRanges", "unicode.CaseRanges"], loops := true, apart := false, laid := [("unicode/utf8.acceptRanges", laid_unicode_utf8_acceptRanges), ("unicode.CaseRanges", laid_unicode_CaseRanges), ("unicode/utf8.first", laid_unicode_utf8_first)], narrowed := true }
def FnMatchBoolPrefixUptoSaid : Prop := fnMatchBoolPrefixUptoRow.holds Tryz.pinned (OpenSpec.upto fnMatchBoolPrefixSpec)

/-- 'laws.FnRange', WHERE WHAT IT READS IS OF BULK AT MOST 1048576: true; the input reads as it did. -/
def fnRangeUptoRow : OpenClaim := { program := "ytocfoheckgdonaagreatdoor", sum := "bc6f3088a4313a18e555ead5d05c455ce1470f8aee1502be8aefb7cdd74c9d87", func := "loop.example/pub-g01525/laws.FnRange", spec := "fnRange", inPlace := ["internal/abi.NoEscape", "internal/bytealg.MakeNoZero"], unfollowed := true, recurses := true, named := ["unicode/utf8.first", "unicode/utf8.acceptRanges", "unicode.CaseRanges"], loops := true, apart := false, laid := [("unicode/utf8.acceptRanges", laid_unicode_utf8_acceptRanges), ("unicode.CaseRanges", laid_unicode_CaseRanges), ("unicode/utf8.first", laid_unicode_utf8_first)], narrowed := true }
def FnRangeUptoSaid : Prop := fnRangeUptoRow.holds Tryz.pinned (OpenSpec.upto fnRangeSpec)

/-- 'laws.FnMatch', WHERE WHAT IT READS IS OF BULK AT MOST 1048576: true; the input reads as it did. -/
def fnMatchUptoRow : OpenClaim := { program := "ytocfoheckgdonaagreatdoor", sum := "bc6f3088a4313a18e555ead5d05c455ce1470f8aee1502be8aefb7cdd74c9d87", func := "loop.example/pub-g01525/laws.FnMatch", spec := "fnMatch", inPlace := ["internal/abi.NoEscape", "internal/bytealg.MakeNoZero"], unfollowed := true, recurses := true, named := ["unicode/utf8.first", "unicode/utf8.acceptRanges", "unicode.CaseRanges"], loops := true, apart := false, laid := [("unicode/utf8.acceptRanges", laid_unicode_utf8_acceptRanges), ("unicode.CaseRanges", laid_unicode_CaseRanges), ("unicode/utf8.first", laid_unicode_utf8_first)], narrowed := true }
def FnMatchUptoSaid : Prop := fnMatchUptoRow.holds Tryz.pinned (OpenSpec.upto fnMatchSpec)

end Rows
end Go.Proofs.YtocfoheckgdonaaGreatDoor
