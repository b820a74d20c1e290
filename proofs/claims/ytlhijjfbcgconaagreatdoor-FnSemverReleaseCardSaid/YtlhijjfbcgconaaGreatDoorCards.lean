/-
  DERIVED. GIVEN WITH THE SEED: THE CARDS: each row of YtlhijjfbcgconaaGreatDoorRows.lean that lists a variable, with what it lists TIED to the program's text (the seventh form; the later family's looks); each row that meets fmt, with fmt's text TOLD by the authors' own Lean function (tested against real Go, not proved from fmt's source: count such statements apart). THE CARD IS WHAT COUNTS. Prove the row's statement (the work); the ties are given (YtlhijjfbcgconaaGreatDoorTie.lean); close each card by the builder's one call (the guide's Derived/Test/ToyasCard.lean, 'card_holds'). Laid BY PROGRAM, IN A SANDBOX (cutbox-door.mjs). By AI agents, Wed Nov 11 2026. No macro, syntax, notation, axiom, sorry.
-/
import Derived.Test.YtlhijjfbcgconaaGreatDoorRows
import GoSem.ClaimSeven
namespace Go.Proofs.YtlhijjfbcgconaaGreatDoor
namespace Rows

/-- THE TIED CARD OF 'laws.FnSemverRelease'. -/
def fnSemverReleaseCard : Claim7 := { stood := { row := fnSemverReleaseRow, standIns := [], harness := (true, "63fff2fc91f8f0cd953df563e64957e9f7ef7e93973c35ca9b17024bbccb6d42"), looks := true }, kinds := [], alts := [], laidByText := true, laidKinds := [.data, .data, .data, .data, .sentinel, .sentinel, .pinned], laidTests := true, laidLooks := .later }
def FnSemverReleaseCardSaid : Prop := Claim7.holds Tryz.pinned (.plain (OpenSpec.ofChange fnSemverReleaseSpec)) fnSemverReleaseCard

/-- THE SECOND FORM's CARD OF 'laws.FnSemverRelease'. -/
def fnSemverReleaseUptoCard : Claim7 := { stood := { row := fnSemverReleaseUptoRow, standIns := [], harness := (true, "63fff2fc91f8f0cd953df563e64957e9f7ef7e93973c35ca9b17024bbccb6d42"), looks := true }, kinds := [], alts := [], laidByText := true, laidKinds := [.data, .data, .data, .data, .sentinel, .sentinel, .pinned], laidTests := true, laidLooks := .later }
def FnSemverReleaseUptoCardSaid : Prop := Claim7.holds Tryz.pinned (.plain (OpenSpec.upto fnSemverReleaseSpec)) fnSemverReleaseUptoCard
end Rows
end Go.Proofs.YtlhijjfbcgconaaGreatDoor
