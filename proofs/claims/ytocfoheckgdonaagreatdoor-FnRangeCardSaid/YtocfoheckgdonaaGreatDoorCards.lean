/-
  DERIVED. GIVEN WITH THE SEED: THE CARDS: each row of YtocfoheckgdonaaGreatDoorRows.lean that lists a variable, with what it lists TIED to the program's text (the seventh form; the later family's looks); each row that meets fmt, with fmt's text TOLD by the authors' own Lean function (tested against real Go, not proved from fmt's source: count such statements apart). THE CARD IS WHAT COUNTS. Prove the row's statement (the work); the ties are given (YtocfoheckgdonaaGreatDoorTie.lean); close each card by the builder's one call (the guide's Derived/Test/ToyasCard.lean, 'card_holds'). Laid BY PROGRAM, IN A SANDBOX (cutbox-door.mjs). By AI agents, Wed Nov 11 2026. No macro, syntax, notation, axiom, sorry.
-/
import Derived.Test.YtocfoheckgdonaaGreatDoorRows
import GoSem.ClaimSeven
namespace Go.Proofs.YtocfoheckgdonaaGreatDoor
namespace Rows

/-- THE TIED CARD OF 'laws.FnMatchPhrase'. -/
def fnMatchPhraseCard : Claim7 := { stood := { row := fnMatchPhraseRow, standIns := [], harness := (true, "5758a10310aaf0962d5dce9ba19d56dd47e24c5d401f389f96b9967660956630"), looks := true }, kinds := [], alts := [], laidByText := true, laidKinds := [.data, .pinned, .pinned], laidTests := true, laidLooks := .later }
def FnMatchPhraseCardSaid : Prop := Claim7.holds Tryz.pinned (.plain (OpenSpec.ofChange fnMatchPhraseSpec)) fnMatchPhraseCard

/-- THE TIED CARD OF 'laws.FnMatchPhrasePrefix'. -/
def fnMatchPhrasePrefixCard : Claim7 := { stood := { row := fnMatchPhrasePrefixRow, standIns := [], harness := (true, "5758a10310aaf0962d5dce9ba19d56dd47e24c5d401f389f96b9967660956630"), looks := true }, kinds := [], alts := [], laidByText := true, laidKinds := [.data, .pinned, .pinned], laidTests := true, laidLooks := .later }
def FnMatchPhrasePrefixCardSaid : Prop := Claim7.holds Tryz.pinned (.plain (OpenSpec.ofChange fnMatchPhrasePrefixSpec)) fnMatchPhrasePrefixCard

/-- THE TIED CARD OF 'laws.FnTermsSet'. -/
def fnTermsSetCard : Claim7 := { stood := { row := fnTermsSetRow, standIns := [], harness := (true, "5758a10310aaf0962d5dce9ba19d56dd47e24c5d401f389f96b9967660956630"), looks := true }, kinds := [], alts := [], laidByText := true, laidKinds := [.data, .pinned, .pinned], laidTests := true, laidLooks := .later }
def FnTermsSetCardSaid : Prop := Claim7.holds Tryz.pinned (.plain (OpenSpec.ofChange fnTermsSetSpec)) fnTermsSetCard

/-- THE TIED CARD OF 'laws.FnFuzzy'. -/
def fnFuzzyCard : Claim7 := { stood := { row := fnFuzzyRow, standIns := [], harness := (true, "5758a10310aaf0962d5dce9ba19d56dd47e24c5d401f389f96b9967660956630"), looks := true }, kinds := [], alts := [], laidByText := true, laidKinds := [.data, .pinned, .pinned], laidTests := true, laidLooks := .later }
def FnFuzzyCardSaid : Prop := Claim7.holds Tryz.pinned (.plain (OpenSpec.ofChange fnFuzzySpec)) fnFuzzyCard

/-- THE TIED CARD OF 'laws.FnMatchBoolPrefix'. -/
def fnMatchBoolPrefixCard : Claim7 := { stood := { row := fnMatchBoolPrefixRow, standIns := [], harness := (true, "5758a10310aaf0962d5dce9ba19d56dd47e24c5d401f389f96b9967660956630"), looks := true }, kinds := [], alts := [], laidByText := true, laidKinds := [.data, .pinned, .pinned], laidTests := true, laidLooks := .later }
def FnMatchBoolPrefixCardSaid : Prop := Claim7.holds Tryz.pinned (.plain (OpenSpec.ofChange fnMatchBoolPrefixSpec)) fnMatchBoolPrefixCard

/-- THE TIED CARD OF 'laws.FnRange'. -/
def fnRangeCard : Claim7 := { stood := { row := fnRangeRow, standIns := [], harness := (true, "5758a10310aaf0962d5dce9ba19d56dd47e24c5d401f389f96b9967660956630"), looks := true }, kinds := [], alts := [], laidByText := true, laidKinds := [.data, .pinned, .pinned], laidTests := true, laidLooks := .later }
def FnRangeCardSaid : Prop := Claim7.holds Tryz.pinned (.plain (OpenSpec.ofChange fnRangeSpec)) fnRangeCard

/-- THE TIED CARD OF 'laws.FnMatch'. -/
def fnMatchCard : Claim7 := { stood := { row := fnMatchRow, standIns := [], harness := (true, "5758a10310aaf0962d5dce9ba19d56dd47e24c5d401f389f96b9967660956630"), looks := true }, kinds := [], alts := [], laidByText := true, laidKinds := [.data, .pinned, .pinned], laidTests := true, laidLooks := .later }
def FnMatchCardSaid : Prop := Claim7.holds Tryz.pinned (.plain (OpenSpec.ofChange fnMatchSpec)) fnMatchCard

/-- THE SECOND FORM's CARD OF 'laws.FnMatchPhrase'. -/
def fnMatchPhraseUptoCard : Claim7 := { stood := { row := fnMatchPhraseUptoRow, standIns := [], harness := (true, "5758a10310aaf0962d5dce9ba19d56dd47e24c5d401f389f96b9967660956630"), looks := true }, kinds := [], alts := [], laidByText := true, laidKinds := [.data, .pinned, .pinned], laidTests := true, laidLooks := .later }
def FnMatchPhraseUptoCardSaid : Prop := Claim7.holds Tryz.pinned (.plain (OpenSpec.upto fnMatchPhraseSpec)) fnMatchPhraseUptoCard

/-- THE SECOND FORM's CARD OF 'laws.FnMatchPhrasePrefix'. -/
def fnMatchPhrasePrefixUptoCard : Claim7 := { stood := { row := fnMatchPhrasePrefixUptoRow, standIns := [], harness := (true, "5758a10310aaf0962d5dce9ba19d56dd47e24c5d401f389f96b9967660956630"), looks := true }, kinds := [], alts := [], laidByText := true, laidKinds := [.data, .pinned, .pinned], laidTests := true, laidLooks := .later }
def FnMatchPhrasePrefixUptoCardSaid : Prop := Claim7.holds Tryz.pinned (.plain (OpenSpec.upto fnMatchPhrasePrefixSpec)) fnMatchPhrasePrefixUptoCard

/-- THE SECOND FORM's CARD OF 'laws.FnTermsSet'. -/
def fnTermsSetUptoCard : Claim7 := { stood := { row := fnTermsSetUptoRow, standIns := [], harness := (true, "5758a10310aaf0962d5dce9ba19d56dd47e24c5d401f389f96b9967660956630"), looks := true }, kinds := [], alts := [], laidByText := true, laidKinds := [.data, .pinned, .pinned], laidTests := true, laidLooks := .later }
def FnTermsSetUptoCardSaid : Prop := Claim7.holds Tryz.pinned (.plain (OpenSpec.upto fnTermsSetSpec)) fnTermsSetUptoCard

/-- THE SECOND FORM's CARD OF 'laws.FnFuzzy'. -/
def fnFuzzyUptoCard : Claim7 := { stood := { row := fnFuzzyUptoRow, standIns := [], harness := (true, "5758a10310aaf0962d5dce9ba19d56dd47e24c5d401f389f96b9967660956630"), looks := true }, kinds := [], alts := [], laidByText := true, laidKinds := [.data, .pinned, .pinned], laidTests := true, laidLooks := .later }
def FnFuzzyUptoCardSaid : Prop := Claim7.holds Tryz.pinned (.plain (OpenSpec.upto fnFuzzySpec)) fnFuzzyUptoCard

/-- THE SECOND FORM's CARD OF 'laws.FnMatchBoolPrefix'. -/
def fnMatchBoolPrefixUptoCard : Claim7 := { stood := { row := fnMatchBoolPrefixUptoRow, standIns := [], harness := (true, "5758a10310aaf0962d5dce9ba19d56dd47e24c5d401f389f96b9967660956630"), looks := true }, kinds := [], alts := [], laidByText := true, laidKinds := [.data, .pinned, .pinned], laidTests := true, laidLooks := .later }
def FnMatchBoolPrefixUptoCardSaid : Prop := Claim7.holds Tryz.pinned (.plain (OpenSpec.upto fnMatchBoolPrefixSpec)) fnMatchBoolPrefixUptoCard

/-- THE SECOND FORM's CARD OF 'laws.FnRange'. -/
def fnRangeUptoCard : Claim7 := { stood := { row := fnRangeUptoRow, standIns := [], harness := (true, "5758a10310aaf0962d5dce9ba19d56dd47e24c5d401f389f96b9967660956630"), looks := true }, kinds := [], alts := [], laidByText := true, laidKinds := [.data, .pinned, .pinned], laidTests := true, laidLooks := .later }
def FnRangeUptoCardSaid : Prop := Claim7.holds Tryz.pinned (.plain (OpenSpec.upto fnRangeSpec)) fnRangeUptoCard

/-- THE SECOND FORM's CARD OF 'laws.FnMatch'. -/
def fnMatchUptoCard : Claim7 := { stood := { row := fnMatchUptoRow, standIns := [], harness := (true, "5758a10310aaf0962d5dce9ba19d56dd47e24c5d401f389f96b9967660956630"), looks := true }, kinds := [], alts := [], laidByText := true, laidKinds := [.data, .pinned, .pinned], laidTests := true, laidLooks := .later }
def FnMatchUptoCardSaid : Prop := Claim7.holds Tryz.pinned (.plain (OpenSpec.upto fnMatchSpec)) fnMatchUptoCard
end Rows
end Go.Proofs.YtocfoheckgdonaaGreatDoor
