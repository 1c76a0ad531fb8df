/-
  DERIVED. GIVEN WITH THE SEED: THE CARDS: each row of YtocfoheckgdonaaDoorRows.lean that lists a variable, with what it lists TIED to the program's text (the seventh form; the later family's looks); each row that meets fmt, with fmt's text TOLD by the authors' own Lean function (tested against real Go, not proved from fmt's source: count such statements apart). THE CARD IS WHAT COUNTS. Prove the row's statement (the work); the ties are given (YtocfoheckgdonaaDoorTie.lean); close each card by the builder's one call (the guide's Derived/Test/ToyasCard.lean, 'card_holds'). Laid BY PROGRAM, IN A SANDBOX (cutbox-door.mjs). By AI agents, Wed Nov 11 2026. No macro, syntax, notation, axiom, sorry.
-/
import Derived.Test.YtocfoheckgdonaaDoorRows
import GoSem.ClaimSeven
namespace Go.Proofs.YtocfoheckgdonaaDoor
namespace Rows

/-- THE TIED CARD OF 'laws.FnPrefix'. -/
def fnPrefixCard : Claim7 := { stood := { row := fnPrefixRow, standIns := [], harness := (true, "698155d1a43780a056b1859c36b567d2d946df0d195d362d9241d25a2fc963e3"), looks := true }, kinds := [], alts := [], laidByText := true, laidKinds := [.data, .pinned, .pinned], laidTests := true, laidLooks := .later }
def FnPrefixCardSaid : Prop := Claim7.holds Tryd.pinned (.plain (OpenSpec.ofChange fnPrefixSpec)) fnPrefixCard

/-- THE TIED CARD OF 'laws.FnSpanTerm'. -/
def fnSpanTermCard : Claim7 := { stood := { row := fnSpanTermRow, standIns := [], harness := (true, "698155d1a43780a056b1859c36b567d2d946df0d195d362d9241d25a2fc963e3"), looks := true }, kinds := [], alts := [], laidByText := true, laidKinds := [.data, .pinned, .pinned], laidTests := true, laidLooks := .later }
def FnSpanTermCardSaid : Prop := Claim7.holds Tryd.pinned (.plain (OpenSpec.ofChange fnSpanTermSpec)) fnSpanTermCard

/-- THE TIED CARD OF 'laws.FnWildcard'. -/
def fnWildcardCard : Claim7 := { stood := { row := fnWildcardRow, standIns := [], harness := (true, "698155d1a43780a056b1859c36b567d2d946df0d195d362d9241d25a2fc963e3"), looks := true }, kinds := [], alts := [], laidByText := true, laidKinds := [.data, .pinned, .pinned], laidTests := true, laidLooks := .later }
def FnWildcardCardSaid : Prop := Claim7.holds Tryd.pinned (.plain (OpenSpec.ofChange fnWildcardSpec)) fnWildcardCard

/-- THE TIED CARD OF 'laws.FnRegexp'. -/
def fnRegexpCard : Claim7 := { stood := { row := fnRegexpRow, standIns := [], harness := (true, "698155d1a43780a056b1859c36b567d2d946df0d195d362d9241d25a2fc963e3"), looks := true }, kinds := [], alts := [], laidByText := true, laidKinds := [.data, .pinned, .pinned], laidTests := true, laidLooks := .later }
def FnRegexpCardSaid : Prop := Claim7.holds Tryd.pinned (.plain (OpenSpec.ofChange fnRegexpSpec)) fnRegexpCard

/-- THE TIED CARD OF 'laws.FnTerm'. -/
def fnTermCard : Claim7 := { stood := { row := fnTermRow, standIns := [], harness := (true, "698155d1a43780a056b1859c36b567d2d946df0d195d362d9241d25a2fc963e3"), looks := true }, kinds := [], alts := [], laidByText := true, laidKinds := [.data, .pinned, .pinned], laidTests := true, laidLooks := .later }
def FnTermCardSaid : Prop := Claim7.holds Tryd.pinned (.plain (OpenSpec.ofChange fnTermSpec)) fnTermCard

/-- THE SECOND FORM's CARD OF 'laws.FnPrefix'. -/
def fnPrefixUptoCard : Claim7 := { stood := { row := fnPrefixUptoRow, standIns := [], harness := (true, "698155d1a43780a056b1859c36b567d2d946df0d195d362d9241d25a2fc963e3"), looks := true }, kinds := [], alts := [], laidByText := true, laidKinds := [.data, .pinned, .pinned], laidTests := true, laidLooks := .later }
def FnPrefixUptoCardSaid : Prop := Claim7.holds Tryd.pinned (.plain (OpenSpec.upto fnPrefixSpec)) fnPrefixUptoCard

/-- THE SECOND FORM's CARD OF 'laws.FnSpanTerm'. -/
def fnSpanTermUptoCard : Claim7 := { stood := { row := fnSpanTermUptoRow, standIns := [], harness := (true, "698155d1a43780a056b1859c36b567d2d946df0d195d362d9241d25a2fc963e3"), looks := true }, kinds := [], alts := [], laidByText := true, laidKinds := [.data, .pinned, .pinned], laidTests := true, laidLooks := .later }
def FnSpanTermUptoCardSaid : Prop := Claim7.holds Tryd.pinned (.plain (OpenSpec.upto fnSpanTermSpec)) fnSpanTermUptoCard

/-- THE SECOND FORM's CARD OF 'laws.FnWildcard'. -/
def fnWildcardUptoCard : Claim7 := { stood := { row := fnWildcardUptoRow, standIns := [], harness := (true, "698155d1a43780a056b1859c36b567d2d946df0d195d362d9241d25a2fc963e3"), looks := true }, kinds := [], alts := [], laidByText := true, laidKinds := [.data, .pinned, .pinned], laidTests := true, laidLooks := .later }
def FnWildcardUptoCardSaid : Prop := Claim7.holds Tryd.pinned (.plain (OpenSpec.upto fnWildcardSpec)) fnWildcardUptoCard

/-- THE SECOND FORM's CARD OF 'laws.FnRegexp'. -/
def fnRegexpUptoCard : Claim7 := { stood := { row := fnRegexpUptoRow, standIns := [], harness := (true, "698155d1a43780a056b1859c36b567d2d946df0d195d362d9241d25a2fc963e3"), looks := true }, kinds := [], alts := [], laidByText := true, laidKinds := [.data, .pinned, .pinned], laidTests := true, laidLooks := .later }
def FnRegexpUptoCardSaid : Prop := Claim7.holds Tryd.pinned (.plain (OpenSpec.upto fnRegexpSpec)) fnRegexpUptoCard

/-- THE SECOND FORM's CARD OF 'laws.FnTerm'. -/
def fnTermUptoCard : Claim7 := { stood := { row := fnTermUptoRow, standIns := [], harness := (true, "698155d1a43780a056b1859c36b567d2d946df0d195d362d9241d25a2fc963e3"), looks := true }, kinds := [], alts := [], laidByText := true, laidKinds := [.data, .pinned, .pinned], laidTests := true, laidLooks := .later }
def FnTermUptoCardSaid : Prop := Claim7.holds Tryd.pinned (.plain (OpenSpec.upto fnTermSpec)) fnTermUptoCard
end Rows
end Go.Proofs.YtocfoheckgdonaaDoor
