/-
  NARROWER THAN 'FOR EVERY INPUT', by the rows' own cells (each row's printed sentence says how): FnGeoBoundingBox: loops · FnMoreLikeThis: loops.
  DERIVED. THE GIVEN ROWS OF THIS SEAT. 2 by the template 'for every input the law returns true; each argument reads behind the call as it read before'; 0 by the template 'total and deterministic' (their statements: YtfngaoicoecncaaTotals.lean).
  GIVEN WITH THE SEED: the statements are not yours to turn. If you find one false, say at which input.
  Laid BY PROGRAM, IN A SANDBOX (cutbox-rows.mjs): the forced cells as the released guide's own fill.sh prints them over the translation c5de9e922c8fd053… (all of the seat's roots in one cut). By AI agents, Wed Nov 11 2026. No macro, syntax, notation, axiom, sorry.
-/
import Derived.Test.YtfngaoicoecncaaChecked
import GoSem.Claim
import GoSem.ClaimJoined
import GoSem.ClaimMapViews
import Derived.JoinedTies
import Derived.KernelRfl
namespace Go.Proofs.Ytfngaoicoecncaa
/- THE CELL 'sum', in the pinned program and in every row, IS THE sha256 OF THE DUMP (.gsa) THAT YtfngaoicoecncaaProg.lean LOADS. Nothing in Lean hashes anything: it is a label: what it is worth is what the hold of that sum in a sandbox is worth. -/
noncomputable def Try.pinned : Pinned := { name := "ytfngaoicoecncaa", sum := "c5de9e922c8fd05300de2438b9068a19b5e03bfc18a3e07ea1b920f3fe75e759", checked := Try.checked }
namespace Rows
def none {H : Type} : Left H := { results := [], args := [] }

/-- 'laws.FnGeoBoundingBox': WHATEVER THE INPUT: true; the input reads as it did. -/
def fnGeoBoundingBoxSpec : ChangeSpec := { name := "fnGeoBoundingBox", fn := fun _ => fun
  | [d1, d2] => { results := [.lit (.bool true)], args := [d1, d2] }
  | _ => none }
def fnGeoBoundingBoxRow : OpenClaim := { program := "ytfngaoicoecncaa", sum := "c5de9e922c8fd05300de2438b9068a19b5e03bfc18a3e07ea1b920f3fe75e759", func := "loop.example/pub-g01525/laws.FnGeoBoundingBox", spec := "fnGeoBoundingBox", recurses := true, loops := true, apart := false }
def FnGeoBoundingBoxSaid : Prop := fnGeoBoundingBoxRow.holds Try.pinned (OpenSpec.ofChange fnGeoBoundingBoxSpec)

/-- ITS FALSE NEIGHBOUR: 'it returns false'. Refute it at one input. -/
def fnGeoBoundingBoxWrong : ChangeSpec := { name := "fnGeoBoundingBox", fn := fun _ => fun
  | [d1, d2] => { results := [.lit (.bool false)], args := [d1, d2] }
  | _ => none }
def FnGeoBoundingBoxWrongFalsely : Prop := fnGeoBoundingBoxRow.holds Try.pinned (OpenSpec.ofChange fnGeoBoundingBoxWrong)

/-- 'laws.FnMoreLikeThis': WHATEVER THE INPUT: true; the input reads as it did. -/
def fnMoreLikeThisSpec : ChangeSpec := { name := "fnMoreLikeThis", fn := fun _ => fun
  | [d1, d2, d3, d4, d5, d6] => { results := [.lit (.bool true)], args := [d1, d2, d3, d4, d5, d6] }
  | _ => none }
def fnMoreLikeThisRow : OpenClaim := { program := "ytfngaoicoecncaa", sum := "c5de9e922c8fd05300de2438b9068a19b5e03bfc18a3e07ea1b920f3fe75e759", func := "loop.example/pub-g01525/laws.FnMoreLikeThis", spec := "fnMoreLikeThis", recurses := true, loops := true, apart := false }
def FnMoreLikeThisSaid : Prop := fnMoreLikeThisRow.holds Try.pinned (OpenSpec.ofChange fnMoreLikeThisSpec)

/-- ITS FALSE NEIGHBOUR: 'it returns false'. Refute it at one input. -/
def fnMoreLikeThisWrong : ChangeSpec := { name := "fnMoreLikeThis", fn := fun _ => fun
  | [d1, d2, d3, d4, d5, d6] => { results := [.lit (.bool false)], args := [d1, d2, d3, d4, d5, d6] }
  | _ => none }
def FnMoreLikeThisWrongFalsely : Prop := fnMoreLikeThisRow.holds Try.pinned (OpenSpec.ofChange fnMoreLikeThisWrong)

/- THE SECOND FORM. 'bulk': how many values and letters a reading holds, each counted each time it is reached (what is shared counts as often as it is met; a slice's spare places count too). A statement '..UptoSaid' is the law's where the arguments, and the package variables that the reading takes, are together of bulk at most 1048576: NARROWER than '..Said'. Prove '..Said' where nothing that the law and all that it calls make is longer than what came in: it says more and counts as full. Else prove '..UptoSaid'. A law counts once. -/
mutual
def uptoBulk {H : Type} : DataW H → Nat
  | .lit (.string bytes) => bytes.length + 1
  | .lit _ => 1
  | .nil => 1
  | .ptr d => uptoBulk d + 1
  | .slice elems spare => uptoBulkAll elems + uptoBulkAll spare + 1
  | .agg parts => uptoBulkAll parts + 1
  | .iface _ d => uptoBulk d + 1
  | .map entries => uptoBulkEntries entries + 1
  | .held _ => 1
def uptoBulkAll {H : Type} : List (DataW H) → Nat
  | [] => 0
  | d :: r => uptoBulk d + uptoBulkAll r
def uptoBulkEntries {H : Type} : List (Lit × DataW H) → Nat
  | [] => 0
  | x :: r => uptoBulkEntry x + uptoBulkEntries r
def uptoBulkEntry {H : Type} : Lit × DataW H → Nat
  | (.string bytes, d) => bytes.length + uptoBulk d + 1
  | (_, d) => uptoBulk d + 1
 end
def uptoSmall : (H : Type) → List (DataW H) → Bool := fun _ ds => decide (uptoBulkAll ds ≤ 1048576)
def OpenSpec.upto (s : _root_.Go.ChangeSpec) : _root_.Go.OpenSpec := { _root_.Go.OpenSpec.ofChange s with cond := some uptoSmall }

/-- 'laws.FnGeoBoundingBox', WHERE WHAT IT READS IS OF BULK AT MOST 1048576: true; the input reads as it did. -/
def fnGeoBoundingBoxUptoRow : OpenClaim := { program := "ytfngaoicoecncaa", sum := "c5de9e922c8fd05300de2438b9068a19b5e03bfc18a3e07ea1b920f3fe75e759", func := "loop.example/pub-g01525/laws.FnGeoBoundingBox", spec := "fnGeoBoundingBox", recurses := true, loops := true, apart := false, narrowed := true }
def FnGeoBoundingBoxUptoSaid : Prop := fnGeoBoundingBoxUptoRow.holds Try.pinned (OpenSpec.upto fnGeoBoundingBoxSpec)

/-- 'laws.FnMoreLikeThis', WHERE WHAT IT READS IS OF BULK AT MOST 1048576: true; the input reads as it did. -/
def fnMoreLikeThisUptoRow : OpenClaim := { program := "ytfngaoicoecncaa", sum := "c5de9e922c8fd05300de2438b9068a19b5e03bfc18a3e07ea1b920f3fe75e759", func := "loop.example/pub-g01525/laws.FnMoreLikeThis", spec := "fnMoreLikeThis", recurses := true, loops := true, apart := false, narrowed := true }
def FnMoreLikeThisUptoSaid : Prop := fnMoreLikeThisUptoRow.holds Try.pinned (OpenSpec.upto fnMoreLikeThisSpec)

end Rows
end Go.Proofs.Ytfngaoicoecncaa
