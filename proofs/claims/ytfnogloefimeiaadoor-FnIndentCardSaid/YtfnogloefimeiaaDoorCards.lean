/-
  DERIVED. GIVEN WITH THE SEED: THE CARDS: each row of YtfnogloefimeiaaDoorRows.lean that lists a variable, with what it lists TIED to the program's text (the seventh form; the later family's looks); each row that meets fmt, with fmt's text TOLD by the authors' own Lean function (tested against real Go, not proved from fmt's source: count such statements apart). THE CARD IS WHAT COUNTS. Prove the row's statement (the work); the ties are given (YtfnogloefimeiaaDoorTie.lean); close each card by the builder's one call (the guide's Derived/Test/ToyasCard.lean, 'card_holds'). Laid BY PROGRAM, IN A SANDBOX (cutbox-door.mjs). By AI agents, Wed Nov 11 2026. No macro, syntax, notation, axiom, sorry.
-/
import Derived.Test.YtfnogloefimeiaaDoorRows
import GoSem.ClaimSeven
namespace Go.Proofs.YtfnogloefimeiaaDoor
namespace Rows

/-- THE TIED CARD OF 'laws.FnTrim'. -/
def fnTrimCard : Claim7 := { stood := { row := fnTrimRow, standIns := [], harness := (true, "4dede1a5fdaf3a08405c96e4fd4c55a6ca6c335828380f1bb95dbb880c92a153"), looks := false }, kinds := [], alts := [], laidByText := true, laidKinds := [.data, .listed, .data, .pinned], laidTests := true, laidLooks := .later }
def FnTrimCardSaid : Prop := Claim7.holds Tryd.pinned (.plain (OpenSpec.ofChange fnTrimSpec)) fnTrimCard

/-- THE TIED CARD OF 'laws.FnIndent'. -/
def fnIndentCard : Claim7 := { stood := { row := fnIndentRow, standIns := [], harness := (true, "4dede1a5fdaf3a08405c96e4fd4c55a6ca6c335828380f1bb95dbb880c92a153"), looks := false }, kinds := [], alts := [], laidByText := true, laidKinds := [.data, .pinned], laidTests := true, laidLooks := .later }
def FnIndentCardSaid : Prop := Claim7.holds Tryd.pinned (.plain (OpenSpec.ofChange fnIndentSpec)) fnIndentCard

/-- THE TIED CARD OF 'laws.FnAdler32'. -/
def fnAdler32Card : Claim7 := { stood := { row := fnAdler32Row, standIns := [], harness := (true, "4dede1a5fdaf3a08405c96e4fd4c55a6ca6c335828380f1bb95dbb880c92a153"), looks := false }, kinds := [], alts := [], laidByText := true, laidKinds := [.data, .data, .data], laidTests := true, laidLooks := .later }
def FnAdler32CardSaid : Prop := Claim7.holds Tryd.pinned (.plain (OpenSpec.ofChange fnAdler32Spec)) fnAdler32Card

/-- THE TIED CARD OF 'laws.FnCases'. -/
def fnCasesCard : Claim7 := { stood := { row := fnCasesRow, standIns := [], harness := (true, "4dede1a5fdaf3a08405c96e4fd4c55a6ca6c335828380f1bb95dbb880c92a153"), looks := false }, kinds := [], alts := [], laidByText := true, laidKinds := [.data, .pinned, .pinned], laidTests := true, laidLooks := .later }
def FnCasesCardSaid : Prop := Claim7.holds Tryd.pinned (.plain (OpenSpec.ofChange fnCasesSpec)) fnCasesCard

/-- THE SECOND FORM's CARD OF 'laws.FnTrim'. -/
def fnTrimUptoCard : Claim7 := { stood := { row := fnTrimUptoRow, standIns := [], harness := (true, "4dede1a5fdaf3a08405c96e4fd4c55a6ca6c335828380f1bb95dbb880c92a153"), looks := false }, kinds := [], alts := [], laidByText := true, laidKinds := [.data, .listed, .data, .pinned], laidTests := true, laidLooks := .later }
def FnTrimUptoCardSaid : Prop := Claim7.holds Tryd.pinned (.plain (OpenSpec.upto fnTrimSpec)) fnTrimUptoCard

/-- THE SECOND FORM's CARD OF 'laws.FnIndent'. -/
def fnIndentUptoCard : Claim7 := { stood := { row := fnIndentUptoRow, standIns := [], harness := (true, "4dede1a5fdaf3a08405c96e4fd4c55a6ca6c335828380f1bb95dbb880c92a153"), looks := false }, kinds := [], alts := [], laidByText := true, laidKinds := [.data, .pinned], laidTests := true, laidLooks := .later }
def FnIndentUptoCardSaid : Prop := Claim7.holds Tryd.pinned (.plain (OpenSpec.upto fnIndentSpec)) fnIndentUptoCard

/-- THE SECOND FORM's CARD OF 'laws.FnAdler32'. -/
def fnAdler32UptoCard : Claim7 := { stood := { row := fnAdler32UptoRow, standIns := [], harness := (true, "4dede1a5fdaf3a08405c96e4fd4c55a6ca6c335828380f1bb95dbb880c92a153"), looks := false }, kinds := [], alts := [], laidByText := true, laidKinds := [.data, .data, .data], laidTests := true, laidLooks := .later }
def FnAdler32UptoCardSaid : Prop := Claim7.holds Tryd.pinned (.plain (OpenSpec.upto fnAdler32Spec)) fnAdler32UptoCard

/-- THE SECOND FORM's CARD OF 'laws.FnCases'. -/
def fnCasesUptoCard : Claim7 := { stood := { row := fnCasesUptoRow, standIns := [], harness := (true, "4dede1a5fdaf3a08405c96e4fd4c55a6ca6c335828380f1bb95dbb880c92a153"), looks := false }, kinds := [], alts := [], laidByText := true, laidKinds := [.data, .pinned, .pinned], laidTests := true, laidLooks := .later }
def FnCasesUptoCardSaid : Prop := Claim7.holds Tryd.pinned (.plain (OpenSpec.upto fnCasesSpec)) fnCasesUptoCard
end Rows
end Go.Proofs.YtfnogloefimeiaaDoor
