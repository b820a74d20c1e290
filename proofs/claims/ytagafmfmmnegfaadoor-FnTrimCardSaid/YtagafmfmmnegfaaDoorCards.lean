/-
  DERIVED. GIVEN WITH THE SEED: THE CARDS: each row of YtagafmfmmnegfaaDoorRows.lean that lists a variable, with what it lists TIED to the program's text (the seventh form; the later family's looks); each row that meets fmt, with fmt's text TOLD by the authors' own Lean function (tested against real Go, not proved from fmt's source: count such statements apart). THE CARD IS WHAT COUNTS. Prove the row's statement (the work); the ties are given (YtagafmfmmnegfaaDoorTie.lean); close each card by the builder's one call (the guide's Derived/Test/ToyasCard.lean, 'card_holds'). Laid BY PROGRAM, IN A SANDBOX (cutbox-door.mjs). By AI agents, Wed Nov 11 2026. No macro, syntax, notation, axiom, sorry.
-/
import Derived.Test.YtagafmfmmnegfaaDoorRows
import GoSem.ClaimSeven
namespace Go.Proofs.YtagafmfmmnegfaaDoor
namespace Rows

/-- THE TIED CARD OF 'laws.FnTrim'. -/
def fnTrimCard : Claim7 := { stood := { row := fnTrimRow, standIns := [], harness := (true, "24f8d0d9f58f6c653f70a4252fc3cae7c4b14e654a15cc4dece9da2c39555114"), looks := true }, kinds := [], alts := [], laidByText := true, laidKinds := [.data, .listed, .data, .pinned], laidTests := true, laidLooks := .later }
def FnTrimCardSaid : Prop := Claim7.holds Tryd.pinned (.plain (OpenSpec.ofChange fnTrimSpec)) fnTrimCard

/-- THE TIED CARD OF 'laws.FnAdler32'. -/
def fnAdler32Card : Claim7 := { stood := { row := fnAdler32Row, standIns := [], harness := (true, "24f8d0d9f58f6c653f70a4252fc3cae7c4b14e654a15cc4dece9da2c39555114"), looks := true }, kinds := [], alts := [], laidByText := true, laidKinds := [.data, .data, .data], laidTests := true, laidLooks := .later }
def FnAdler32CardSaid : Prop := Claim7.holds Tryd.pinned (.plain (OpenSpec.ofChange fnAdler32Spec)) fnAdler32Card

/-- THE TIED CARD OF 'laws.FnWrap'. -/
def fnWrapCard : Claim7 := { stood := { row := fnWrapRow, standIns := [], harness := (true, "24f8d0d9f58f6c653f70a4252fc3cae7c4b14e654a15cc4dece9da2c39555114"), looks := true }, kinds := [], alts := [], laidByText := true, laidKinds := [.sentinel], laidTests := true, laidLooks := .later }
def FnWrapCardSaid : Prop := Claim7.holds Tryd.pinned (.plain (OpenSpec.ofChange fnWrapSpec)) fnWrapCard

/-- THE TIED CARD OF 'laws.FnWords'. -/
def fnWordsCard : Claim7 := { stood := { row := fnWordsRow, standIns := [], harness := (true, "24f8d0d9f58f6c653f70a4252fc3cae7c4b14e654a15cc4dece9da2c39555114"), looks := true }, kinds := [], alts := [], laidByText := true, laidKinds := [.listed, .sentinel, .pinned], laidTests := true, laidLooks := .later }
def FnWordsCardSaid : Prop := Claim7.holds Tryd.pinned (.plain (OpenSpec.ofChange fnWordsSpec)) fnWordsCard

/-- THE TIED CARD OF 'laws.FnCapitalized'. -/
def fnCapitalizedCard : Claim7 := { stood := { row := fnCapitalizedRow, standIns := [], harness := (true, "24f8d0d9f58f6c653f70a4252fc3cae7c4b14e654a15cc4dece9da2c39555114"), looks := true }, kinds := [], alts := [], laidByText := true, laidKinds := [.data, .listed, .pinned, .pinned], laidTests := true, laidLooks := .later }
def FnCapitalizedCardSaid : Prop := Claim7.holds Tryd.pinned (.plain (OpenSpec.ofChange fnCapitalizedSpec)) fnCapitalizedCard

/-- THE TIED CARD OF 'laws.FnSeq'. -/
def fnSeqCard : Claim7 := { stood := { row := fnSeqRow, standIns := [], harness := (true, "24f8d0d9f58f6c653f70a4252fc3cae7c4b14e654a15cc4dece9da2c39555114"), looks := true }, kinds := [], alts := [], laidByText := true, laidKinds := [.data, .data, .data], laidTests := true, laidLooks := .later }
def FnSeqCardSaid : Prop := Claim7.holds Tryd.pinned (.plain (OpenSpec.ofChange fnSeqSpec)) fnSeqCard

/-- THE TIED CARD OF 'laws.FnSub'. -/
def fnSubCard : Claim7 := { stood := { row := fnSubRow, standIns := [], harness := (true, "24f8d0d9f58f6c653f70a4252fc3cae7c4b14e654a15cc4dece9da2c39555114"), looks := true }, kinds := [], alts := [], laidByText := true, laidKinds := [.data, .data, .data, .sentinel, .sentinel], laidTests := true, laidLooks := .later }
def FnSubCardSaid : Prop := Claim7.holds Tryd.pinned (.plain (OpenSpec.ofChange fnSubSpec)) fnSubCard

/-- THE TIED CARD OF 'laws.FnDiv'. -/
def fnDivCard : Claim7 := { stood := { row := fnDivRow, standIns := [], harness := (true, "24f8d0d9f58f6c653f70a4252fc3cae7c4b14e654a15cc4dece9da2c39555114"), looks := true }, kinds := [], alts := [], laidByText := true, laidKinds := [.data, .data, .data, .sentinel, .sentinel], laidTests := true, laidLooks := .later }
def FnDivCardSaid : Prop := Claim7.holds Tryd.pinned (.plain (OpenSpec.ofChange fnDivSpec)) fnDivCard

/-- THE SECOND FORM's CARD OF 'laws.FnTrim'. -/
def fnTrimUptoCard : Claim7 := { stood := { row := fnTrimUptoRow, standIns := [], harness := (true, "24f8d0d9f58f6c653f70a4252fc3cae7c4b14e654a15cc4dece9da2c39555114"), looks := true }, kinds := [], alts := [], laidByText := true, laidKinds := [.data, .listed, .data, .pinned], laidTests := true, laidLooks := .later }
def FnTrimUptoCardSaid : Prop := Claim7.holds Tryd.pinned (.plain (OpenSpec.upto fnTrimSpec)) fnTrimUptoCard

/-- THE SECOND FORM's CARD OF 'laws.FnAdler32'. -/
def fnAdler32UptoCard : Claim7 := { stood := { row := fnAdler32UptoRow, standIns := [], harness := (true, "24f8d0d9f58f6c653f70a4252fc3cae7c4b14e654a15cc4dece9da2c39555114"), looks := true }, kinds := [], alts := [], laidByText := true, laidKinds := [.data, .data, .data], laidTests := true, laidLooks := .later }
def FnAdler32UptoCardSaid : Prop := Claim7.holds Tryd.pinned (.plain (OpenSpec.upto fnAdler32Spec)) fnAdler32UptoCard

/-- THE SECOND FORM's CARD OF 'laws.FnWrap'. -/
def fnWrapUptoCard : Claim7 := { stood := { row := fnWrapUptoRow, standIns := [], harness := (true, "24f8d0d9f58f6c653f70a4252fc3cae7c4b14e654a15cc4dece9da2c39555114"), looks := true }, kinds := [], alts := [], laidByText := true, laidKinds := [.sentinel], laidTests := true, laidLooks := .later }
def FnWrapUptoCardSaid : Prop := Claim7.holds Tryd.pinned (.plain (OpenSpec.upto fnWrapSpec)) fnWrapUptoCard

/-- THE SECOND FORM's CARD OF 'laws.FnWords'. -/
def fnWordsUptoCard : Claim7 := { stood := { row := fnWordsUptoRow, standIns := [], harness := (true, "24f8d0d9f58f6c653f70a4252fc3cae7c4b14e654a15cc4dece9da2c39555114"), looks := true }, kinds := [], alts := [], laidByText := true, laidKinds := [.listed, .sentinel, .pinned], laidTests := true, laidLooks := .later }
def FnWordsUptoCardSaid : Prop := Claim7.holds Tryd.pinned (.plain (OpenSpec.upto fnWordsSpec)) fnWordsUptoCard

/-- THE SECOND FORM's CARD OF 'laws.FnCapitalized'. -/
def fnCapitalizedUptoCard : Claim7 := { stood := { row := fnCapitalizedUptoRow, standIns := [], harness := (true, "24f8d0d9f58f6c653f70a4252fc3cae7c4b14e654a15cc4dece9da2c39555114"), looks := true }, kinds := [], alts := [], laidByText := true, laidKinds := [.data, .listed, .pinned, .pinned], laidTests := true, laidLooks := .later }
def FnCapitalizedUptoCardSaid : Prop := Claim7.holds Tryd.pinned (.plain (OpenSpec.upto fnCapitalizedSpec)) fnCapitalizedUptoCard

/-- THE SECOND FORM's CARD OF 'laws.FnSeq'. -/
def fnSeqUptoCard : Claim7 := { stood := { row := fnSeqUptoRow, standIns := [], harness := (true, "24f8d0d9f58f6c653f70a4252fc3cae7c4b14e654a15cc4dece9da2c39555114"), looks := true }, kinds := [], alts := [], laidByText := true, laidKinds := [.data, .data, .data], laidTests := true, laidLooks := .later }
def FnSeqUptoCardSaid : Prop := Claim7.holds Tryd.pinned (.plain (OpenSpec.upto fnSeqSpec)) fnSeqUptoCard

/-- THE SECOND FORM's CARD OF 'laws.FnSub'. -/
def fnSubUptoCard : Claim7 := { stood := { row := fnSubUptoRow, standIns := [], harness := (true, "24f8d0d9f58f6c653f70a4252fc3cae7c4b14e654a15cc4dece9da2c39555114"), looks := true }, kinds := [], alts := [], laidByText := true, laidKinds := [.data, .data, .data, .sentinel, .sentinel], laidTests := true, laidLooks := .later }
def FnSubUptoCardSaid : Prop := Claim7.holds Tryd.pinned (.plain (OpenSpec.upto fnSubSpec)) fnSubUptoCard

/-- THE SECOND FORM's CARD OF 'laws.FnDiv'. -/
def fnDivUptoCard : Claim7 := { stood := { row := fnDivUptoRow, standIns := [], harness := (true, "24f8d0d9f58f6c653f70a4252fc3cae7c4b14e654a15cc4dece9da2c39555114"), looks := true }, kinds := [], alts := [], laidByText := true, laidKinds := [.data, .data, .data, .sentinel, .sentinel], laidTests := true, laidLooks := .later }
def FnDivUptoCardSaid : Prop := Claim7.holds Tryd.pinned (.plain (OpenSpec.upto fnDivSpec)) fnDivUptoCard
end Rows
end Go.Proofs.YtagafmfmmnegfaaDoor
