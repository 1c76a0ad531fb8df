/-
  DERIVED. GIVEN WITH THE SEED: THE CARDS: each row of YtfngaoicoecncaaDoorRows.lean that lists a variable, with what it lists TIED to the program's text (the seventh form; the later family's looks); each row that meets fmt, with fmt's text TOLD by the authors' own Lean function (tested against real Go, not proved from fmt's source: count such statements apart). THE CARD IS WHAT COUNTS. Prove the row's statement (the work); the ties are given (YtfngaoicoecncaaDoorTie.lean); close each card by the builder's one call (the guide's Derived/Test/ToyasCard.lean, 'card_holds'). Laid BY PROGRAM, IN A SANDBOX (cutbox-door.mjs). By AI agents, Wed Nov 11 2026. No macro, syntax, notation, axiom, sorry.
-/
import Derived.Test.YtfngaoicoecncaaDoorRows
import GoSem.ClaimSeven
namespace Go.Proofs.YtfngaoicoecncaaDoor
namespace Rows

/-- THE TIED CARD OF 'laws.FnBoolTurned'. -/
def fnBoolTurnedCard : Claim7 := { stood := { row := fnBoolTurnedRow, standIns := [], harness := (true, "e7331c4cbca8641be4b2816cd849ba8879b266da95f93f0a6f44cc783fcf266b"), looks := true }, kinds := [], alts := [], laidByText := true, laidKinds := [.data, .data, .data], laidTests := true, laidLooks := .later }
def FnBoolTurnedCardSaid : Prop := Claim7.holds Tryd.pinned (.plain (OpenSpec.ofChange fnBoolTurnedSpec)) fnBoolTurnedCard

/-- THE SECOND FORM's CARD OF 'laws.FnBoolTurned'. -/
def fnBoolTurnedUptoCard : Claim7 := { stood := { row := fnBoolTurnedUptoRow, standIns := [], harness := (true, "e7331c4cbca8641be4b2816cd849ba8879b266da95f93f0a6f44cc783fcf266b"), looks := true }, kinds := [], alts := [], laidByText := true, laidKinds := [.data, .data, .data], laidTests := true, laidLooks := .later }
def FnBoolTurnedUptoCardSaid : Prop := Claim7.holds Tryd.pinned (.plain (OpenSpec.upto fnBoolTurnedSpec)) fnBoolTurnedUptoCard
end Rows
end Go.Proofs.YtfngaoicoecncaaDoor
