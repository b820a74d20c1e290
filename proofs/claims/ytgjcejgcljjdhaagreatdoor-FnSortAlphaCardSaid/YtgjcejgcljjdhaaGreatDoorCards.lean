/-
  DERIVED. GIVEN WITH THE SEED: THE CARDS: each row of YtgjcejgcljjdhaaGreatDoorRows.lean that lists a variable, with what it lists TIED to the program's text (the seventh form; the later family's looks); each row that meets fmt, with fmt's text TOLD by the authors' own Lean function (tested against real Go, not proved from fmt's source: count such statements apart). THE CARD IS WHAT COUNTS. Prove the row's statement (the work); the ties are given (YtgjcejgcljjdhaaGreatDoorTie.lean); close each card by the builder's one call (the guide's Derived/Test/ToyasCard.lean, 'card_holds'). Laid BY PROGRAM, IN A SANDBOX (cutbox-door.mjs). By AI agents, Wed Nov 11 2026. No macro, syntax, notation, axiom, sorry.
-/
import Derived.Test.YtgjcejgcljjdhaaGreatDoorRows
import GoSem.ClaimSeven
namespace Go.Proofs.YtgjcejgcljjdhaaGreatDoor
namespace Rows

/-- THE TIED CARD OF 'laws.FnJoin'. -/
def fnJoinCard : Claim7 := { stood := { row := fnJoinRow, standIns := [], harness := (true, "609ac53aef681fad9c91b1a73f27e65520bbe5ed99b1fc726326d8ead5706f80"), looks := true }, kinds := [], alts := [], laidByText := true, laidKinds := [.data, .data, .data, .data, .pinned, .pinned], laidTests := true, laidLooks := .later }
def FnJoinCardSaid : Prop := Claim7.holds Tryz.pinned (.plain (OpenSpec.ofChange fnJoinSpec)) fnJoinCard

/-- THE TIED CARD OF 'laws.FnSortAlpha'. -/
def fnSortAlphaCard : Claim7 := { stood := { row := fnSortAlphaRow, standIns := [], harness := (true, "609ac53aef681fad9c91b1a73f27e65520bbe5ed99b1fc726326d8ead5706f80"), looks := true }, kinds := [], alts := [], laidByText := true, laidKinds := [.data, .data, .data, .data, .pinned, .pinned], laidTests := true, laidLooks := .later }
def FnSortAlphaCardSaid : Prop := Claim7.holds Tryz.pinned (.plain (OpenSpec.ofChange fnSortAlphaSpec)) fnSortAlphaCard

/-- THE TIED CARD OF 'laws.FnCat'. -/
def fnCatCard : Claim7 := { stood := { row := fnCatRow, standIns := [], harness := (true, "609ac53aef681fad9c91b1a73f27e65520bbe5ed99b1fc726326d8ead5706f80"), looks := true }, kinds := [], alts := [], laidByText := true, laidKinds := [.data, .data, .data, .data, .pinned, .pinned], laidTests := true, laidLooks := .later }
def FnCatCardSaid : Prop := Claim7.holds Tryz.pinned (.plain (OpenSpec.ofChange fnCatSpec)) fnCatCard

/-- THE TIED CARD OF 'laws.FnToInt'. -/
def fnToIntCard : Claim7 := { stood := { row := fnToIntRow, standIns := [], harness := (true, "609ac53aef681fad9c91b1a73f27e65520bbe5ed99b1fc726326d8ead5706f80"), looks := true }, kinds := [], alts := [], laidByText := true, laidKinds := [.data, .data, .widerDeep, .widerDeep, .data, .data, .data, .data, .data, .sentinel, .sentinel, .pinned, .pinned], laidTests := true, laidLooks := .later }
def FnToIntCardSaid : Prop := Claim7.holds Tryz.pinned (.plain (OpenSpec.ofChange fnToIntSpec)) fnToIntCard

/-- THE SECOND FORM's CARD OF 'laws.FnJoin'. -/
def fnJoinUptoCard : Claim7 := { stood := { row := fnJoinUptoRow, standIns := [], harness := (true, "609ac53aef681fad9c91b1a73f27e65520bbe5ed99b1fc726326d8ead5706f80"), looks := true }, kinds := [], alts := [], laidByText := true, laidKinds := [.data, .data, .data, .data, .pinned, .pinned], laidTests := true, laidLooks := .later }
def FnJoinUptoCardSaid : Prop := Claim7.holds Tryz.pinned (.plain (OpenSpec.upto fnJoinSpec)) fnJoinUptoCard

/-- THE SECOND FORM's CARD OF 'laws.FnSortAlpha'. -/
def fnSortAlphaUptoCard : Claim7 := { stood := { row := fnSortAlphaUptoRow, standIns := [], harness := (true, "609ac53aef681fad9c91b1a73f27e65520bbe5ed99b1fc726326d8ead5706f80"), looks := true }, kinds := [], alts := [], laidByText := true, laidKinds := [.data, .data, .data, .data, .pinned, .pinned], laidTests := true, laidLooks := .later }
def FnSortAlphaUptoCardSaid : Prop := Claim7.holds Tryz.pinned (.plain (OpenSpec.upto fnSortAlphaSpec)) fnSortAlphaUptoCard

/-- THE SECOND FORM's CARD OF 'laws.FnCat'. -/
def fnCatUptoCard : Claim7 := { stood := { row := fnCatUptoRow, standIns := [], harness := (true, "609ac53aef681fad9c91b1a73f27e65520bbe5ed99b1fc726326d8ead5706f80"), looks := true }, kinds := [], alts := [], laidByText := true, laidKinds := [.data, .data, .data, .data, .pinned, .pinned], laidTests := true, laidLooks := .later }
def FnCatUptoCardSaid : Prop := Claim7.holds Tryz.pinned (.plain (OpenSpec.upto fnCatSpec)) fnCatUptoCard

/-- THE SECOND FORM's CARD OF 'laws.FnToInt'. -/
def fnToIntUptoCard : Claim7 := { stood := { row := fnToIntUptoRow, standIns := [], harness := (true, "609ac53aef681fad9c91b1a73f27e65520bbe5ed99b1fc726326d8ead5706f80"), looks := true }, kinds := [], alts := [], laidByText := true, laidKinds := [.data, .data, .widerDeep, .widerDeep, .data, .data, .data, .data, .data, .sentinel, .sentinel, .pinned, .pinned], laidTests := true, laidLooks := .later }
def FnToIntUptoCardSaid : Prop := Claim7.holds Tryz.pinned (.plain (OpenSpec.upto fnToIntSpec)) fnToIntUptoCard
end Rows
end Go.Proofs.YtgjcejgcljjdhaaGreatDoor
