/-
  NARROWER THAN 'FOR EVERY INPUT', by the rows' own cells (each row's printed sentence says how): FnPrefix: loops, laid · FnSpanTerm: loops, laid · FnWildcard: loops, laid · FnRegexp: loops, laid · FnTerm: loops, laid.
  DERIVED. THE GIVEN ROWS OF THIS SEAT. 5 by the template 'for every input the law returns true; each argument reads behind the call as it read before'; 0 by the template 'total and deterministic' (their statements: YtocfoheckgdonaaDoorTotals.lean).
  GIVEN WITH THE SEED: the statements are not yours to turn. If you find one false, say at which input.
  Laid BY PROGRAM, IN A SANDBOX (cutbox-rows.mjs): the forced cells as the released guide's own fill.sh prints them over the translation b5aaebc16037b532… (all of the seat's roots in one cut). By AI agents, Wed Nov 11 2026. No macro, syntax, notation, axiom, sorry.
-/
import Derived.Test.YtocfoheckgdonaaDoorChecked
import GoSem.PinnedTables
import GoSem.Claim
import GoSem.ClaimJoined
import GoSem.ClaimMapViews
import Derived.JoinedTies
import Derived.KernelRfl
namespace Go.Proofs.YtocfoheckgdonaaDoor
/- THE CELL 'sum', in the pinned program and in every row, IS THE sha256 OF THE DUMP (.gsa) THAT YtocfoheckgdonaaDoorProg.lean LOADS. Nothing in Lean hashes anything: it is a label: what it is worth is what the hold of that sum in a sandbox is worth. -/
noncomputable def Tryd.pinned : Pinned := { name := "ytocfoheckgdonaadoor", sum := "b5aaebc16037b53267fa4a6f258e83327b35aee6d5aebfa79252abc23c434160", checked := Tryd.checked }
namespace Rows
def none {H : Type} : Left H := { results := [], args := [] }

/- WHAT THE LISTED PACKAGE-LEVEL VARIABLES READ AS WHEN THE CALL BEGINS. Each datum BY PROGRAM (the guide's laid-datum.mjs) off the statement by which the dump's own 'gosem.cut.vars' lays the variable. In a bare row this is a premise. The card (YtocfoheckgdonaaDoorCards.lean) ties it to the program's text. -/
def laid_unicode_utf8_acceptRanges {H : Type} : DataW H := .agg [.agg [.lit (.int .u8 128), .lit (.int .u8 191)], .agg [.lit (.int .u8 160), .lit (.int .u8 191)], .agg [.lit (.int .u8 128), .lit (.int .u8 159)], .agg [.lit (.int .u8 144), .lit (.int .u8 191)], .agg [.lit (.int .u8 128), .lit (.int .u8 143)], .agg [.lit (.int .u8 0), .lit (.int .u8 0)], .agg [.lit (.int .u8 0), .lit (.int .u8 0)], .agg [.lit (.int .u8 0), .lit (.int .u8 0)], .agg [.lit (.int .u8 0), .lit (.int .u8 0)], .agg [.lit (.int .u8 0), .lit (.int .u8 0)], .agg [.lit (.int .u8 0), .lit (.int .u8 0)], .agg [.lit (.int .u8 0), .lit (.int .u8 0)], .agg [.lit (.int .u8 0), .lit (.int .u8 0)], .agg [.lit (.int .u8 0), .lit (.int .u8 0)], .agg [.lit (.int .u8 0), .lit (.int .u8 0)], .agg [.lit (.int .u8 0), .lit (.int .u8 0)]]
/-- One of Go's own tables, pinned by name: the form's constant. -/
def laid_unicode_CaseRanges : DataW Unit := Go.Pinned.caseRanges
/-- One of Go's own tables, pinned by name: the form's constant. -/
def laid_unicode_utf8_first : DataW Unit := Go.Pinned.utf8First

/-- 'laws.FnPrefix': WHATEVER THE INPUT: true; the input reads as it did. -/
def fnPrefixSpec : ChangeSpec := { name := "fnPrefix", fn := fun _ => fun
  | [d1, d2, d3] => { results := [.lit (.bool true)], args := [d1, d2, d3] }
  | _ => none }
def fnPrefixRow : OpenClaim := { program := "ytocfoheckgdonaadoor", sum := "b5aaebc16037b53267fa4a6f258e83327b35aee6d5aebfa79252abc23c434160", func := "loop.example/pub-g01525/laws.FnPrefix", spec := "fnPrefix", inPlace := ["internal/abi.NoEscape", "internal/bytealg.MakeNoZero"], unfollowed := true, recurses := true, named := ["unicode/utf8.first", "unicode/utf8.acceptRanges", "unicode.CaseRanges"], loops := true, apart := false, laid := [("unicode/utf8.acceptRanges", laid_unicode_utf8_acceptRanges), ("unicode.CaseRanges", laid_unicode_CaseRanges), ("unicode/utf8.first", laid_unicode_utf8_first)] }
def FnPrefixSaid : Prop := fnPrefixRow.holds Tryd.pinned (OpenSpec.ofChange fnPrefixSpec)

/-- ITS FALSE NEIGHBOUR: 'it returns false'. Refute it at one input. -/
def fnPrefixWrong : ChangeSpec := { name := "fnPrefix", fn := fun _ => fun
  | [d1, d2, d3] => { results := [.lit (.bool false)], args := [d1, d2, d3] }
  | _ => none }
def FnPrefixWrongFalsely : Prop := fnPrefixRow.holds Tryd.pinned (OpenSpec.ofChange fnPrefixWrong)

/-- 'laws.FnSpanTerm': WHATEVER THE INPUT: true; the input reads as it did. -/
def fnSpanTermSpec : ChangeSpec := { name := "fnSpanTerm", fn := fun _ => fun
  | [d1, d2, d3] => { results := [.lit (.bool true)], args := [d1, d2, d3] }
  | _ => none }
def fnSpanTermRow : OpenClaim := { program := "ytocfoheckgdonaadoor", sum := "b5aaebc16037b53267fa4a6f258e83327b35aee6d5aebfa79252abc23c434160", func := "loop.example/pub-g01525/laws.FnSpanTerm", spec := "fnSpanTerm", inPlace := ["internal/abi.NoEscape", "internal/bytealg.MakeNoZero"], unfollowed := true, recurses := true, named := ["unicode/utf8.first", "unicode/utf8.acceptRanges", "unicode.CaseRanges"], loops := true, apart := false, laid := [("unicode/utf8.acceptRanges", laid_unicode_utf8_acceptRanges), ("unicode.CaseRanges", laid_unicode_CaseRanges), ("unicode/utf8.first", laid_unicode_utf8_first)] }
def FnSpanTermSaid : Prop := fnSpanTermRow.holds Tryd.pinned (OpenSpec.ofChange fnSpanTermSpec)

/-- ITS FALSE NEIGHBOUR: 'it returns false'. Refute it at one input. -/
def fnSpanTermWrong : ChangeSpec := { name := "fnSpanTerm", fn := fun _ => fun
  | [d1, d2, d3] => { results := [.lit (.bool false)], args := [d1, d2, d3] }
  | _ => none }
def FnSpanTermWrongFalsely : Prop := fnSpanTermRow.holds Tryd.pinned (OpenSpec.ofChange fnSpanTermWrong)

/-- 'laws.FnWildcard': WHATEVER THE INPUT: true; the input reads as it did. -/
def fnWildcardSpec : ChangeSpec := { name := "fnWildcard", fn := fun _ => fun
  | [d1, d2, d3] => { results := [.lit (.bool true)], args := [d1, d2, d3] }
  | _ => none }
def fnWildcardRow : OpenClaim := { program := "ytocfoheckgdonaadoor", sum := "b5aaebc16037b53267fa4a6f258e83327b35aee6d5aebfa79252abc23c434160", func := "loop.example/pub-g01525/laws.FnWildcard", spec := "fnWildcard", inPlace := ["internal/abi.NoEscape", "internal/bytealg.MakeNoZero"], unfollowed := true, recurses := true, named := ["unicode/utf8.first", "unicode/utf8.acceptRanges", "unicode.CaseRanges"], loops := true, apart := false, laid := [("unicode/utf8.acceptRanges", laid_unicode_utf8_acceptRanges), ("unicode.CaseRanges", laid_unicode_CaseRanges), ("unicode/utf8.first", laid_unicode_utf8_first)] }
def FnWildcardSaid : Prop := fnWildcardRow.holds Tryd.pinned (OpenSpec.ofChange fnWildcardSpec)

/-- ITS FALSE NEIGHBOUR: 'it returns false'. Refute it at one input. -/
def fnWildcardWrong : ChangeSpec := { name := "fnWildcard", fn := fun _ => fun
  | [d1, d2, d3] => { results := [.lit (.bool false)], args := [d1, d2, d3] }
  | _ => none }
def FnWildcardWrongFalsely : Prop := fnWildcardRow.holds Tryd.pinned (OpenSpec.ofChange fnWildcardWrong)

/-- 'laws.FnRegexp': WHATEVER THE INPUT: true; the input reads as it did. -/
def fnRegexpSpec : ChangeSpec := { name := "fnRegexp", fn := fun _ => fun
  | [d1, d2, d3] => { results := [.lit (.bool true)], args := [d1, d2, d3] }
  | _ => none }
def fnRegexpRow : OpenClaim := { program := "ytocfoheckgdonaadoor", sum := "b5aaebc16037b53267fa4a6f258e83327b35aee6d5aebfa79252abc23c434160", func := "loop.example/pub-g01525/laws.FnRegexp", spec := "fnRegexp", inPlace := ["internal/abi.NoEscape", "internal/bytealg.MakeNoZero"], unfollowed := true, recurses := true, named := ["unicode/utf8.first", "unicode/utf8.acceptRanges", "unicode.CaseRanges"], loops := true, apart := false, laid := [("unicode/utf8.acceptRanges", laid_unicode_utf8_acceptRanges), ("unicode.CaseRanges", laid_unicode_CaseRanges), ("unicode/utf8.first", laid_unicode_utf8_first)] }
def FnRegexpSaid : Prop := fnRegexpRow.holds Tryd.pinned (OpenSpec.ofChange fnRegexpSpec)

/-- ITS FALSE NEIGHBOUR: 'it returns false'. Refute it at one input. -/
def fnRegexpWrong : ChangeSpec := { name := "fnRegexp", fn := fun _ => fun
  | [d1, d2, d3] => { results := [.lit (.bool false)], args := [d1, d2, d3] }
  | _ => none }
def FnRegexpWrongFalsely : Prop := fnRegexpRow.holds Tryd.pinned (OpenSpec.ofChange fnRegexpWrong)

/-- 'laws.FnTerm': WHATEVER THE INPUT: true; the input reads as it did. -/
def fnTermSpec : ChangeSpec := { name := "fnTerm", fn := fun _ => fun
  | [d1, d2, d3] => { results := [.lit (.bool true)], args := [d1, d2, d3] }
  | _ => none }
def fnTermRow : OpenClaim := { program := "ytocfoheckgdonaadoor", sum := "b5aaebc16037b53267fa4a6f258e83327b35aee6d5aebfa79252abc23c434160", func := "loop.example/pub-g01525/laws.FnTerm", spec := "fnTerm", inPlace := ["internal/abi.NoEscape", "internal/bytealg.MakeNoZero"], unfollowed := true, recurses := true, named := ["unicode/utf8.first", "unicode/utf8.acceptRanges", "unicode.CaseRanges"], loops := true, apart := false, laid := [("unicode/utf8.acceptRanges", laid_unicode_utf8_acceptRanges), ("unicode.CaseRanges", laid_unicode_CaseRanges), ("unicode/utf8.first", laid_unicode_utf8_first)] }
def FnTermSaid : Prop := fnTermRow.holds Tryd.pinned (OpenSpec.ofChange fnTermSpec)

/-- ITS FALSE NEIGHBOUR: 'it returns false'. Refute it at one input. -/
def fnTermWrong : ChangeSpec := { name := "fnTerm", fn := fun _ => fun
  | [d1, d2, d3] => { results := [.lit (.bool false)], args := [d1, d2, d3] }
  | _ => none }
def FnTermWrongFalsely : Prop := fnTermRow.holds Tryd.pinned (OpenSpec.ofChange fnTermWrong)

/- THE SECOND FORM. 'bulk': how many values and letters a reading holds, each counted each time it is reached (what is shared counts as often as it is met; a slice's spare places count too). A statement '..UptoSaid' is the law's where the arguments, and the package variables that the reading takes, are together of bulk at most 1048576: NARROWER than '..Said'. Prove '..Said' where nothing that the law and all that it calls make is longer than what came in: it says more and counts as full. Else prove '..UptoSaid'. A law counts once. -/
mutual
def uptoBulk {H : Type} : DataW H → Nat
  | .lit (.string bytes) => bytes.length + 1
  | .lit _ => 1
  | .nil => 1
  | .ptr d => uptoBulk d + 1
  | .slice elems spare => uptoBulkAll elems + uptoBulkAll spare + 1
  | .agg parts => uptoBulkAll parts + 1
  | .iface _ d => uptoBulk d + 1
  | .map entries => uptoBulkEntries entries + 1
  | .held _ => 1
def uptoBulkAll {H : Type} : List (DataW H) → Nat
  | [] => 0
  | d :: r => uptoBulk d + uptoBulkAll r
def uptoBulkEntries {H : Type} : List (Lit × DataW H) → Nat
  | [] => 0
  | x :: r => uptoBulkEntry x + uptoBulkEntries r
def uptoBulkEntry {H : Type} : Lit × DataW H → Nat
  | (.string bytes, d) => bytes.length + uptoBulk d + 1
  | (_, d) => uptoBulk d + 1
 end
def uptoSmall : (H : Type) → List (DataW H) → Bool := fun _ ds => decide (uptoBulkAll ds ≤ 1048576)
def OpenSpec.upto (s : _root_.Go.ChangeSpec) : _root_.Go.OpenSpec := { _root_.Go.OpenSpec.ofChange s with cond := some uptoSmall }

/-- 'laws.FnPrefix', WHERE WHAT IT READS IS OF BULK AT MOST 1048576: true; the input reads as it did. -/
def fnPrefixUptoRow : OpenClaim := { program := "ytocfoheckgdonaadoor", sum := "b5aaebc16037b53267fa4a6f258e83327b35aee6d5aebfa79252abc23c434160", func := "loop.example/pub-g01525/laws.FnPrefix", spec := "fnPrefix", inPlace := ["internal/abi.NoEscape", "internal/bytealg.MakeNoZero"], unfollowed := true, recurses := true, named := ["unicode/utf8.first", "unicode/utf8.acceptRanges", "unicode.CaseRanges"], loops := true, apart := false, laid := [("unicode/utf8.acceptRanges", laid_unicode_utf8_acceptRanges), ("unicode.CaseRanges", laid_unicode_CaseRanges), ("unicode/utf8.first", laid_unicode_utf8_first)], narrowed := true }
def FnPrefixUptoSaid : Prop := fnPrefixUptoRow.holds Tryd.pinned (OpenSpec.upto fnPrefixSpec)

/-- 'laws.FnSpanTerm', WHERE WHAT IT READS IS OF BULK AT MOST 1048576: true; the input reads as it did. -/
def fnSpanTermUptoRow : OpenClaim := { program := "ytocfoheckgdonaadoor", sum := "b5aaebc16037b53267fa4a6f258e83327b35aee6d5aebfa79252abc23c434160", func := "loop.example/pub-g01525/laws.FnSpanTerm", spec := "fnSpanTerm", inPlace := ["internal/abi.NoEscape", "internal/bytealg.MakeNoZero"], unfollowed := true, recurses := true, named := ["unicode/utf8.first", "unicode/utf8.acceptRanges", "unicode.CaseRanges"], loops := true, apart := false, laid := [("unicode/utf8.acceptRanges", laid_unicode_utf8_acceptRanges), ("unicode.CaseRanges", laid_unicode_CaseRanges), ("unicode/utf8.first", laid_unicode_utf8_first)], narrowed := true }
def FnSpanTermUptoSaid : Prop := fnSpanTermUptoRow.holds Tryd.pinned (OpenSpec.upto fnSpanTermSpec)

/-- 'laws.FnWildcard', WHERE WHAT IT READS IS OF BULK AT MOST 1048576: true; the input reads as it did. -/
def fnWildcardUptoRow : OpenClaim := { program := "ytocfoheckgdonaadoor", sum := "b5aaebc16037b53267fa4a6f258e83327b35aee6d5aebfa79252abc23c434160", func := "loop.example/pub-g01525/laws.FnWildcard", spec := "fnWildcard", inPlace := ["internal/abi.NoEscape", "internal/bytealg.MakeNoZero"], unfollowed := true, recurses := true, named := ["unicode/utf8.first", "unicode/utf8.acceptRanges", "unicode.CaseRanges"], loops := true, apart := false, laid := [("unicode/utf8.acceptRanges", laid_unicode_utf8_acceptRanges), ("unicode.CaseRanges", laid_unicode_CaseRanges), ("unicode/utf8.first", laid_unicode_utf8_first)], narrowed := true }
def FnWildcardUptoSaid : Prop := fnWildcardUptoRow.holds Tryd.pinned (OpenSpec.upto fnWildcardSpec)

/-- 'laws.FnRegexp', WHERE WHAT IT READS IS OF BULK AT MOST 1048576: true; the input reads as it did. -/
def fnRegexpUptoRow : OpenClaim := { program := "ytocfoheckgdonaadoor", sum := "b5aaebc16037b53267fa4a6f258e83327b35aee6d5aebfa79252abc23c434160", func := "loop.example/pub-g01525/laws.FnRegexp", spec := "fnRegexp", inPlace := ["internal/abi.NoEscape", "internal/bytealg.MakeNoZero"], unfollowed := true, recurses := true, named := ["unicode/utf8.first", "unicode/utf8.acceptRanges", "unicode.CaseRanges"], loops := true, apart := false, laid := [("unicode/utf8.acceptRanges", laid_unicode_utf8_acceptRanges), ("unicode.CaseRanges", laid_unicode_CaseRanges), ("unicode/utf8.first", laid_unicode_utf8_first)], narrowed := true }
def FnRegexpUptoSaid : Prop := fnRegexpUptoRow.holds Tryd.pinned (OpenSpec.upto fnRegexpSpec)

/-- 'laws.FnTerm', WHERE WHAT IT READS IS OF BULK AT MOST 1048576: true; the input reads as it did. -/
def fnTermUptoRow : OpenClaim := { program := "ytocfoheckgdonaadoor", sum := "b5aaebc16037b53267fa4a6f258e83327b35aee6d5aebfa79252abc23c434160", func := "loop.example/pub-g01525/laws.FnTerm", spec := "fnTerm", inPlace := ["internal/abi.NoEscape", "internal/bytealg.MakeNoZero"], unfollowed := true, recurses := true, named := ["unicode/utf8.first", "unicode/utf8.acceptRanges", "unicode.CaseRanges"], loops := true, apart := false, laid := [("unicode/utf8.acceptRanges", laid_unicode_utf8_acceptRanges), ("unicode.CaseRanges", laid_unicode_CaseRanges), ("unicode/utf8.first", laid_unicode_utf8_first)], narrowed := true }
def FnTermUptoSaid : Prop := fnTermUptoRow.holds Tryd.pinned (OpenSpec.upto fnTermSpec)

end Rows
end Go.Proofs.YtocfoheckgdonaaDoor
