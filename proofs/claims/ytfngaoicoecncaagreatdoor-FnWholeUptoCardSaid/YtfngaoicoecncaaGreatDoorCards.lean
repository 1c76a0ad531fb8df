/-
  DERIVED. GIVEN WITH THE SEED: THE CARDS: each row of YtfngaoicoecncaaGreatDoorRows.lean that lists a variable, with what it lists TIED to the program's text (the seventh form; the later family's looks); each row that meets fmt, with fmt's text TOLD by the authors' own Lean function (tested against real Go, not proved from fmt's source: count such statements apart). THE CARD IS WHAT COUNTS. Prove the row's statement (the work); the ties are given (YtfngaoicoecncaaGreatDoorTie.lean); close each card by the builder's one call (the guide's Derived/Test/ToyasCard.lean, 'card_holds'). Laid BY PROGRAM, IN A SANDBOX (cutbox-door.mjs). By AI agents, Wed Nov 11 2026. No macro, syntax, notation, axiom, sorry.
-/
import Derived.Test.YtfngaoicoecncaaGreatDoorRows
import GoSem.ClaimSeven
namespace Go.Proofs.YtfngaoicoecncaaGreatDoor
namespace Rows

/-- THE TIED CARD OF 'laws.FnCommonTerms'. -/
def fnCommonTermsCard : Claim7 := { stood := { row := fnCommonTermsRow, standIns := [], harness := (true, "0e72169f29ffd5b329a3872a141050015efdd29307b76621f00efced8b52fa0d"), looks := true }, kinds := [], alts := [], laidByText := true, laidKinds := [.data, .pinned, .pinned], laidTests := true, laidLooks := .later }
def FnCommonTermsCardSaid : Prop := Claim7.holds Tryz.pinned (.plain (OpenSpec.ofChange fnCommonTermsSpec)) fnCommonTermsCard

/-- THE TIED CARD OF 'laws.FnWholeMade'. -/
def fnWholeMadeCard : Claim7 := { stood := { row := fnWholeMadeRow, standIns := [], harness := (true, "0e72169f29ffd5b329a3872a141050015efdd29307b76621f00efced8b52fa0d"), looks := true }, kinds := [], alts := [], laidByText := true, laidKinds := [.data, .data, .data], laidTests := true, laidLooks := .later }
def FnWholeMadeCardSaid : Prop := Claim7.holds Tryz.pinned (.plain (OpenSpec.ofChange fnWholeMadeSpec)) fnWholeMadeCard

/-- THE TIED CARD OF 'laws.FnWhole'. -/
def fnWholeCard : Claim7 := { stood := { row := fnWholeRow, standIns := [], harness := (true, "0e72169f29ffd5b329a3872a141050015efdd29307b76621f00efced8b52fa0d"), looks := true }, kinds := [], alts := [], laidByText := true, laidKinds := [.data, .pinned, .pinned], laidTests := true, laidLooks := .later }
def FnWholeCardSaid : Prop := Claim7.holds Tryz.pinned (.plain (OpenSpec.ofChange fnWholeSpec)) fnWholeCard

/-- THE SECOND FORM's CARD OF 'laws.FnCommonTerms'. -/
def fnCommonTermsUptoCard : Claim7 := { stood := { row := fnCommonTermsUptoRow, standIns := [], harness := (true, "0e72169f29ffd5b329a3872a141050015efdd29307b76621f00efced8b52fa0d"), looks := true }, kinds := [], alts := [], laidByText := true, laidKinds := [.data, .pinned, .pinned], laidTests := true, laidLooks := .later }
def FnCommonTermsUptoCardSaid : Prop := Claim7.holds Tryz.pinned (.plain (OpenSpec.upto fnCommonTermsSpec)) fnCommonTermsUptoCard

/-- THE SECOND FORM's CARD OF 'laws.FnWholeMade'. -/
def fnWholeMadeUptoCard : Claim7 := { stood := { row := fnWholeMadeUptoRow, standIns := [], harness := (true, "0e72169f29ffd5b329a3872a141050015efdd29307b76621f00efced8b52fa0d"), looks := true }, kinds := [], alts := [], laidByText := true, laidKinds := [.data, .data, .data], laidTests := true, laidLooks := .later }
def FnWholeMadeUptoCardSaid : Prop := Claim7.holds Tryz.pinned (.plain (OpenSpec.upto fnWholeMadeSpec)) fnWholeMadeUptoCard

/-- THE SECOND FORM's CARD OF 'laws.FnWhole'. -/
def fnWholeUptoCard : Claim7 := { stood := { row := fnWholeUptoRow, standIns := [], harness := (true, "0e72169f29ffd5b329a3872a141050015efdd29307b76621f00efced8b52fa0d"), looks := true }, kinds := [], alts := [], laidByText := true, laidKinds := [.data, .pinned, .pinned], laidTests := true, laidLooks := .later }
def FnWholeUptoCardSaid : Prop := Claim7.holds Tryz.pinned (.plain (OpenSpec.upto fnWholeSpec)) fnWholeUptoCard
end Rows
end Go.Proofs.YtfngaoicoecncaaGreatDoor
