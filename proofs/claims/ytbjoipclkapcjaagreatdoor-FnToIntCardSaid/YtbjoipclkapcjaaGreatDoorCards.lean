/-
  DERIVED. GIVEN WITH THE SEED: THE CARDS: each row of YtbjoipclkapcjaaGreatDoorRows.lean that lists a variable, with what it lists TIED to the program's text (the seventh form; the later family's looks); each row that meets fmt, with fmt's text TOLD by the authors' own Lean function (tested against real Go, not proved from fmt's source: count such statements apart). THE CARD IS WHAT COUNTS. Prove the row's statement (the work); the ties are given (YtbjoipclkapcjaaGreatDoorTie.lean); close each card by the builder's one call (the guide's Derived/Test/ToyasCard.lean, 'card_holds'). Laid BY PROGRAM, IN A SANDBOX (cutbox-door.mjs). By AI agents, Wed Nov 11 2026. No macro, syntax, notation, axiom, sorry.
-/
import Derived.Test.YtbjoipclkapcjaaGreatDoorRows
import GoSem.ClaimSeven
namespace Go.Proofs.YtbjoipclkapcjaaGreatDoor
namespace Rows

/-- THE TIED CARD OF 'laws.FnToInt'. -/
def fnToIntCard : Claim7 := { stood := { row := fnToIntRow, standIns := [], harness := (true, "4be1c8c960234232db40ca9e60d27fbcb50acb1d52b943d4f0dfb69482b2178b"), looks := true }, kinds := [], alts := [], laidByText := true, laidKinds := [.data, .data, .widerDeep, .widerDeep, .data, .data, .data, .data, .data, .sentinel, .sentinel, .pinned, .pinned], laidTests := true, laidLooks := .later }
def FnToIntCardSaid : Prop := Claim7.holds Tryz.pinned (.plain (OpenSpec.ofChange fnToIntSpec)) fnToIntCard

/-- THE SECOND FORM's CARD OF 'laws.FnToInt'. -/
def fnToIntUptoCard : Claim7 := { stood := { row := fnToIntUptoRow, standIns := [], harness := (true, "4be1c8c960234232db40ca9e60d27fbcb50acb1d52b943d4f0dfb69482b2178b"), looks := true }, kinds := [], alts := [], laidByText := true, laidKinds := [.data, .data, .widerDeep, .widerDeep, .data, .data, .data, .data, .data, .sentinel, .sentinel, .pinned, .pinned], laidTests := true, laidLooks := .later }
def FnToIntUptoCardSaid : Prop := Claim7.holds Tryz.pinned (.plain (OpenSpec.upto fnToIntSpec)) fnToIntUptoCard
end Rows
end Go.Proofs.YtbjoipclkapcjaaGreatDoor
