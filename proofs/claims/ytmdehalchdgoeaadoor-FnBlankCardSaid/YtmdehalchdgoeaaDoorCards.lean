/-
  DERIVED. GIVEN WITH THE SEED: THE CARDS: each row of YtmdehalchdgoeaaDoorRows.lean that lists a variable, with what it lists TIED to the program's text (the seventh form; the later family's looks); each row that meets fmt, with fmt's text TOLD by the authors' own Lean function (tested against real Go, not proved from fmt's source: count such statements apart). THE CARD IS WHAT COUNTS. Prove the row's statement (the work); the ties are given (YtmdehalchdgoeaaDoorTie.lean); close each card by the builder's one call (the guide's Derived/Test/ToyasCard.lean, 'card_holds'). Laid BY PROGRAM, IN A SANDBOX (cutbox-door.mjs). By AI agents, Wed Nov 11 2026. No macro, syntax, notation, axiom, sorry.
-/
import Derived.Test.YtmdehalchdgoeaaDoorRows
import GoSem.ClaimSeven
namespace Go.Proofs.YtmdehalchdgoeaaDoor
namespace Rows

/-- THE TIED CARD OF 'laws.FnBlank'. -/
def fnBlankCard : Claim7 := { stood := { row := fnBlankRow, standIns := [], harness := (true, "3316c0e67d5cffff45c6a9a6442bd56bd5faf840b38e70ed45a7cc501ab84879"), looks := false }, kinds := [], alts := [], laidByText := true, laidKinds := [.listed], laidTests := true, laidLooks := .later }
def FnBlankCardSaid : Prop := Claim7.holds Tryd.pinned (.plain (OpenSpec.ofChange fnBlankSpec)) fnBlankCard

/-- THE TIED CARD OF 'laws.FnWrap'. -/
def fnWrapCard : Claim7 := { stood := { row := fnWrapRow, standIns := [], harness := (true, "3316c0e67d5cffff45c6a9a6442bd56bd5faf840b38e70ed45a7cc501ab84879"), looks := false }, kinds := [], alts := [], laidByText := true, laidKinds := [.sentinel], laidTests := true, laidLooks := .later }
def FnWrapCardSaid : Prop := Claim7.holds Tryd.pinned (.plain (OpenSpec.ofChange fnWrapSpec)) fnWrapCard

/-- THE TIED CARD OF 'laws.FnWords'. -/
def fnWordsCard : Claim7 := { stood := { row := fnWordsRow, standIns := [], harness := (true, "3316c0e67d5cffff45c6a9a6442bd56bd5faf840b38e70ed45a7cc501ab84879"), looks := false }, kinds := [], alts := [], laidByText := true, laidKinds := [.listed, .sentinel, .pinned], laidTests := true, laidLooks := .later }
def FnWordsCardSaid : Prop := Claim7.holds Tryd.pinned (.plain (OpenSpec.ofChange fnWordsSpec)) fnWordsCard

/-- THE TIED CARD OF 'laws.FnCapitalized'. -/
def fnCapitalizedCard : Claim7 := { stood := { row := fnCapitalizedRow, standIns := [], harness := (true, "3316c0e67d5cffff45c6a9a6442bd56bd5faf840b38e70ed45a7cc501ab84879"), looks := false }, kinds := [], alts := [], laidByText := true, laidKinds := [.data, .listed, .pinned, .pinned], laidTests := true, laidLooks := .later }
def FnCapitalizedCardSaid : Prop := Claim7.holds Tryd.pinned (.plain (OpenSpec.ofChange fnCapitalizedSpec)) fnCapitalizedCard

/-- THE SECOND FORM's CARD OF 'laws.FnBlank'. -/
def fnBlankUptoCard : Claim7 := { stood := { row := fnBlankUptoRow, standIns := [], harness := (true, "3316c0e67d5cffff45c6a9a6442bd56bd5faf840b38e70ed45a7cc501ab84879"), looks := false }, kinds := [], alts := [], laidByText := true, laidKinds := [.listed], laidTests := true, laidLooks := .later }
def FnBlankUptoCardSaid : Prop := Claim7.holds Tryd.pinned (.plain (OpenSpec.upto fnBlankSpec)) fnBlankUptoCard

/-- THE SECOND FORM's CARD OF 'laws.FnWrap'. -/
def fnWrapUptoCard : Claim7 := { stood := { row := fnWrapUptoRow, standIns := [], harness := (true, "3316c0e67d5cffff45c6a9a6442bd56bd5faf840b38e70ed45a7cc501ab84879"), looks := false }, kinds := [], alts := [], laidByText := true, laidKinds := [.sentinel], laidTests := true, laidLooks := .later }
def FnWrapUptoCardSaid : Prop := Claim7.holds Tryd.pinned (.plain (OpenSpec.upto fnWrapSpec)) fnWrapUptoCard

/-- THE SECOND FORM's CARD OF 'laws.FnWords'. -/
def fnWordsUptoCard : Claim7 := { stood := { row := fnWordsUptoRow, standIns := [], harness := (true, "3316c0e67d5cffff45c6a9a6442bd56bd5faf840b38e70ed45a7cc501ab84879"), looks := false }, kinds := [], alts := [], laidByText := true, laidKinds := [.listed, .sentinel, .pinned], laidTests := true, laidLooks := .later }
def FnWordsUptoCardSaid : Prop := Claim7.holds Tryd.pinned (.plain (OpenSpec.upto fnWordsSpec)) fnWordsUptoCard

/-- THE SECOND FORM's CARD OF 'laws.FnCapitalized'. -/
def fnCapitalizedUptoCard : Claim7 := { stood := { row := fnCapitalizedUptoRow, standIns := [], harness := (true, "3316c0e67d5cffff45c6a9a6442bd56bd5faf840b38e70ed45a7cc501ab84879"), looks := false }, kinds := [], alts := [], laidByText := true, laidKinds := [.data, .listed, .pinned, .pinned], laidTests := true, laidLooks := .later }
def FnCapitalizedUptoCardSaid : Prop := Claim7.holds Tryd.pinned (.plain (OpenSpec.upto fnCapitalizedSpec)) fnCapitalizedUptoCard
end Rows
end Go.Proofs.YtmdehalchdgoeaaDoor
