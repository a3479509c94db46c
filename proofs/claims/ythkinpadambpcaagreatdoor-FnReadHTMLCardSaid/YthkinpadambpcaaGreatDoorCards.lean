/-
  DERIVED. GIVEN WITH THE SEED: THE CARDS: each row of YthkinpadambpcaaGreatDoorRows.lean that lists a variable, with what it lists TIED to the program's text (the seventh form; the later family's looks); each row that meets fmt, with fmt's text TOLD by the authors' own Lean function (tested against real Go, not proved from fmt's source: count such statements apart). THE CARD IS WHAT COUNTS. Prove the row's statement (the work); the ties are given (YthkinpadambpcaaGreatDoorTie.lean); close each card by the builder's one call (the guide's Derived/Test/ToyasCard.lean, 'card_holds'). Laid BY PROGRAM, IN A SANDBOX (cutbox-door.mjs). By AI agents, Wed Nov 11 2026. No macro, syntax, notation, axiom, sorry.
-/
import Derived.Test.YthkinpadambpcaaGreatDoorRows
import GoSem.ClaimSeven
namespace Go.Proofs.YthkinpadambpcaaGreatDoor
namespace Rows

/-- THE TIED CARD OF 'laws.FnReadHTML'. -/
def fnReadHTMLCard : Claim7 := { stood := { row := fnReadHTMLRow, standIns := [], harness := (true, "742a88d460712671f9ccf462a2544ed9b8853289496da7ae7af2a2a008790100"), looks := true }, kinds := [], alts := [], laidByText := true, laidKinds := [.data, .data, .data, .pinned, .pinned], laidTests := true, laidLooks := .later }
def FnReadHTMLCardSaid : Prop := Claim7.holds Tryz.pinned (.plain (OpenSpec.ofChange fnReadHTMLSpec)) fnReadHTMLCard

/-- THE TIED CARD OF 'laws.FnReadPattern'. -/
def fnReadPatternCard : Claim7 := { stood := { row := fnReadPatternRow, standIns := [], harness := (true, "742a88d460712671f9ccf462a2544ed9b8853289496da7ae7af2a2a008790100"), looks := true }, kinds := [], alts := [], laidByText := true, laidKinds := [.data, .data, .data, .pinned, .pinned], laidTests := true, laidLooks := .later }
def FnReadPatternCardSaid : Prop := Claim7.holds Tryz.pinned (.plain (OpenSpec.ofChange fnReadPatternSpec)) fnReadPatternCard

/-- THE TIED CARD OF 'laws.FnReadQuoted'. -/
def fnReadQuotedCard : Claim7 := { stood := { row := fnReadQuotedRow, standIns := [], harness := (true, "742a88d460712671f9ccf462a2544ed9b8853289496da7ae7af2a2a008790100"), looks := true }, kinds := [], alts := [], laidByText := true, laidKinds := [.data, .data, .data, .pinned, .pinned], laidTests := true, laidLooks := .later }
def FnReadQuotedCardSaid : Prop := Claim7.holds Tryz.pinned (.plain (OpenSpec.ofChange fnReadQuotedSpec)) fnReadQuotedCard

/-- THE TIED CARD OF 'laws.FnReadString'. -/
def fnReadStringCard : Claim7 := { stood := { row := fnReadStringRow, standIns := [], harness := (true, "742a88d460712671f9ccf462a2544ed9b8853289496da7ae7af2a2a008790100"), looks := true }, kinds := [], alts := [], laidByText := true, laidKinds := [.data, .data, .data, .pinned, .pinned], laidTests := true, laidLooks := .later }
def FnReadStringCardSaid : Prop := Claim7.holds Tryz.pinned (.plain (OpenSpec.ofChange fnReadStringSpec)) fnReadStringCard

/-- THE SECOND FORM's CARD OF 'laws.FnReadHTML'. -/
def fnReadHTMLUptoCard : Claim7 := { stood := { row := fnReadHTMLUptoRow, standIns := [], harness := (true, "742a88d460712671f9ccf462a2544ed9b8853289496da7ae7af2a2a008790100"), looks := true }, kinds := [], alts := [], laidByText := true, laidKinds := [.data, .data, .data, .pinned, .pinned], laidTests := true, laidLooks := .later }
def FnReadHTMLUptoCardSaid : Prop := Claim7.holds Tryz.pinned (.plain (OpenSpec.upto fnReadHTMLSpec)) fnReadHTMLUptoCard

/-- THE SECOND FORM's CARD OF 'laws.FnReadPattern'. -/
def fnReadPatternUptoCard : Claim7 := { stood := { row := fnReadPatternUptoRow, standIns := [], harness := (true, "742a88d460712671f9ccf462a2544ed9b8853289496da7ae7af2a2a008790100"), looks := true }, kinds := [], alts := [], laidByText := true, laidKinds := [.data, .data, .data, .pinned, .pinned], laidTests := true, laidLooks := .later }
def FnReadPatternUptoCardSaid : Prop := Claim7.holds Tryz.pinned (.plain (OpenSpec.upto fnReadPatternSpec)) fnReadPatternUptoCard

/-- THE SECOND FORM's CARD OF 'laws.FnReadQuoted'. -/
def fnReadQuotedUptoCard : Claim7 := { stood := { row := fnReadQuotedUptoRow, standIns := [], harness := (true, "742a88d460712671f9ccf462a2544ed9b8853289496da7ae7af2a2a008790100"), looks := true }, kinds := [], alts := [], laidByText := true, laidKinds := [.data, .data, .data, .pinned, .pinned], laidTests := true, laidLooks := .later }
def FnReadQuotedUptoCardSaid : Prop := Claim7.holds Tryz.pinned (.plain (OpenSpec.upto fnReadQuotedSpec)) fnReadQuotedUptoCard

/-- THE SECOND FORM's CARD OF 'laws.FnReadString'. -/
def fnReadStringUptoCard : Claim7 := { stood := { row := fnReadStringUptoRow, standIns := [], harness := (true, "742a88d460712671f9ccf462a2544ed9b8853289496da7ae7af2a2a008790100"), looks := true }, kinds := [], alts := [], laidByText := true, laidKinds := [.data, .data, .data, .pinned, .pinned], laidTests := true, laidLooks := .later }
def FnReadStringUptoCardSaid : Prop := Claim7.holds Tryz.pinned (.plain (OpenSpec.upto fnReadStringSpec)) fnReadStringUptoCard
end Rows
end Go.Proofs.YthkinpadambpcaaGreatDoor
