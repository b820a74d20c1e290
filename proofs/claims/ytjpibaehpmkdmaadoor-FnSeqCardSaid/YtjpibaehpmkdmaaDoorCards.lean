/-
  DERIVED. GIVEN WITH THE SEED: THE CARDS: each row of YtjpibaehpmkdmaaDoorRows.lean that lists a variable, with what it lists TIED to the program's text (the seventh form; the later family's looks); each row that meets fmt, with fmt's text TOLD by the authors' own Lean function (tested against real Go, not proved from fmt's source: count such statements apart). THE CARD IS WHAT COUNTS. Prove the row's statement (the work); the ties are given (YtjpibaehpmkdmaaDoorTie.lean); close each card by the builder's one call (the guide's Derived/Test/ToyasCard.lean, 'card_holds'). Laid BY PROGRAM, IN A SANDBOX (cutbox-door.mjs). By AI agents, Wed Nov 11 2026. No macro, syntax, notation, axiom, sorry.
-/
import Derived.Test.YtjpibaehpmkdmaaDoorRows
import GoSem.ClaimSeven
namespace Go.Proofs.YtjpibaehpmkdmaaDoor
namespace Rows

/-- THE TIED CARD OF 'laws.FnCapitalized'. -/
def fnCapitalizedCard : Claim7 := { stood := { row := fnCapitalizedRow, standIns := [], harness := (true, "5cd306a0319f0af4f03fa79f6607bd6d76fb0b8a888b6ed1659d432c84344d9d"), looks := false }, kinds := [], alts := [], laidByText := true, laidKinds := [.data, .listed, .pinned, .pinned], laidTests := true, laidLooks := .later }
def FnCapitalizedCardSaid : Prop := Claim7.holds Tryd.pinned (.plain (OpenSpec.ofChange fnCapitalizedSpec)) fnCapitalizedCard

/-- THE TIED CARD OF 'laws.FnWrap'. -/
def fnWrapCard : Claim7 := { stood := { row := fnWrapRow, standIns := [], harness := (true, "5cd306a0319f0af4f03fa79f6607bd6d76fb0b8a888b6ed1659d432c84344d9d"), looks := false }, kinds := [], alts := [], laidByText := true, laidKinds := [.sentinel], laidTests := true, laidLooks := .later }
def FnWrapCardSaid : Prop := Claim7.holds Tryd.pinned (.plain (OpenSpec.ofChange fnWrapSpec)) fnWrapCard

/-- THE TIED CARD OF 'laws.FnSeq'. -/
def fnSeqCard : Claim7 := { stood := { row := fnSeqRow, standIns := [], harness := (true, "5cd306a0319f0af4f03fa79f6607bd6d76fb0b8a888b6ed1659d432c84344d9d"), looks := false }, kinds := [], alts := [], laidByText := true, laidKinds := [.data, .data, .data], laidTests := true, laidLooks := .later }
def FnSeqCardSaid : Prop := Claim7.holds Tryd.pinned (.plain (OpenSpec.ofChange fnSeqSpec)) fnSeqCard

/-- THE TIED CARD OF 'laws.FnPatterns'. -/
def fnPatternsCard : Claim7 := { stood := { row := fnPatternsRow, standIns := [], harness := (true, "5cd306a0319f0af4f03fa79f6607bd6d76fb0b8a888b6ed1659d432c84344d9d"), looks := false }, kinds := [], alts := [], laidByText := true, laidKinds := [.data, .pinned], laidTests := true, laidLooks := .later }
def FnPatternsCardSaid : Prop := Claim7.holds Tryd.pinned (.plain (OpenSpec.ofChange fnPatternsSpec)) fnPatternsCard

/-- THE SECOND FORM's CARD OF 'laws.FnCapitalized'. -/
def fnCapitalizedUptoCard : Claim7 := { stood := { row := fnCapitalizedUptoRow, standIns := [], harness := (true, "5cd306a0319f0af4f03fa79f6607bd6d76fb0b8a888b6ed1659d432c84344d9d"), looks := false }, kinds := [], alts := [], laidByText := true, laidKinds := [.data, .listed, .pinned, .pinned], laidTests := true, laidLooks := .later }
def FnCapitalizedUptoCardSaid : Prop := Claim7.holds Tryd.pinned (.plain (OpenSpec.upto fnCapitalizedSpec)) fnCapitalizedUptoCard

/-- THE SECOND FORM's CARD OF 'laws.FnWrap'. -/
def fnWrapUptoCard : Claim7 := { stood := { row := fnWrapUptoRow, standIns := [], harness := (true, "5cd306a0319f0af4f03fa79f6607bd6d76fb0b8a888b6ed1659d432c84344d9d"), looks := false }, kinds := [], alts := [], laidByText := true, laidKinds := [.sentinel], laidTests := true, laidLooks := .later }
def FnWrapUptoCardSaid : Prop := Claim7.holds Tryd.pinned (.plain (OpenSpec.upto fnWrapSpec)) fnWrapUptoCard

/-- THE SECOND FORM's CARD OF 'laws.FnSeq'. -/
def fnSeqUptoCard : Claim7 := { stood := { row := fnSeqUptoRow, standIns := [], harness := (true, "5cd306a0319f0af4f03fa79f6607bd6d76fb0b8a888b6ed1659d432c84344d9d"), looks := false }, kinds := [], alts := [], laidByText := true, laidKinds := [.data, .data, .data], laidTests := true, laidLooks := .later }
def FnSeqUptoCardSaid : Prop := Claim7.holds Tryd.pinned (.plain (OpenSpec.upto fnSeqSpec)) fnSeqUptoCard

/-- THE SECOND FORM's CARD OF 'laws.FnPatterns'. -/
def fnPatternsUptoCard : Claim7 := { stood := { row := fnPatternsUptoRow, standIns := [], harness := (true, "5cd306a0319f0af4f03fa79f6607bd6d76fb0b8a888b6ed1659d432c84344d9d"), looks := false }, kinds := [], alts := [], laidByText := true, laidKinds := [.data, .pinned], laidTests := true, laidLooks := .later }
def FnPatternsUptoCardSaid : Prop := Claim7.holds Tryd.pinned (.plain (OpenSpec.upto fnPatternsSpec)) fnPatternsUptoCard
end Rows
end Go.Proofs.YtjpibaehpmkdmaaDoor
