/-
  DERIVED. GIVEN WITH THE SEED: THE CARDS: each row of YtdconkiilelaoaaDoorRows.lean that lists a variable, with what it lists TIED to the program's text (the seventh form; the later family's looks); each row that meets fmt, with fmt's text TOLD by the authors' own Lean function (tested against real Go, not proved from fmt's source: count such statements apart). THE CARD IS WHAT COUNTS. Prove the row's statement (the work); the ties are given (YtdconkiilelaoaaDoorTie.lean); close each card by the builder's one call (the guide's Derived/Test/ToyasCard.lean, 'card_holds'). Laid BY PROGRAM, IN A SANDBOX (cutbox-door.mjs). By AI agents, Wed Nov 11 2026. No macro, syntax, notation, axiom, sorry.
-/
import Derived.Test.YtdconkiilelaoaaDoorRows
import GoSem.ClaimSeven
namespace Go.Proofs.YtdconkiilelaoaaDoor
namespace Rows

/-- THE TIED CARD OF 'laws.FnFloor'. -/
def fnFloorCard : Claim7 := { stood := { row := fnFloorRow, standIns := [], harness := (true, "d0255223f3011622067907f639c7fd4a5af8f3ccad931bb11117f346e908502f"), looks := true }, kinds := [], alts := [], laidByText := true, laidKinds := [.data, .data, .widerDeep, .widerDeep, .data, .data, .data, .data, .data, .sentinel, .sentinel, .pinned, .pinned], laidTests := true, laidLooks := .later }
def FnFloorCardSaid : Prop := Claim7.holds Tryd.pinned (.plain (OpenSpec.ofChange fnFloorSpec)) fnFloorCard

/-- THE TIED CARD OF 'laws.FnMaxF'. -/
def fnMaxFCard : Claim7 := { stood := { row := fnMaxFRow, standIns := [], harness := (true, "d0255223f3011622067907f639c7fd4a5af8f3ccad931bb11117f346e908502f"), looks := true }, kinds := [], alts := [], laidByText := true, laidKinds := [.data, .data, .widerDeep, .widerDeep, .data, .data, .data, .data, .data, .sentinel, .sentinel, .pinned, .pinned], laidTests := true, laidLooks := .later }
def FnMaxFCardSaid : Prop := Claim7.holds Tryd.pinned (.plain (OpenSpec.ofChange fnMaxFSpec)) fnMaxFCard

/-- THE TIED CARD OF 'laws.FnCastNone'. -/
def fnCastNoneCard : Claim7 := { stood := { row := fnCastNoneRow, standIns := [], harness := (true, "d0255223f3011622067907f639c7fd4a5af8f3ccad931bb11117f346e908502f"), looks := true }, kinds := [], alts := [], laidByText := true, laidKinds := [.data, .data, .widerDeep, .widerDeep, .data, .data, .data, .data, .data, .sentinel, .sentinel, .pinned, .pinned], laidTests := true, laidLooks := .later }
def FnCastNoneCardSaid : Prop := Claim7.holds Tryd.pinned (.plain (OpenSpec.ofChange fnCastNoneSpec)) fnCastNoneCard

/-- THE SECOND FORM's CARD OF 'laws.FnFloor'. -/
def fnFloorUptoCard : Claim7 := { stood := { row := fnFloorUptoRow, standIns := [], harness := (true, "d0255223f3011622067907f639c7fd4a5af8f3ccad931bb11117f346e908502f"), looks := true }, kinds := [], alts := [], laidByText := true, laidKinds := [.data, .data, .widerDeep, .widerDeep, .data, .data, .data, .data, .data, .sentinel, .sentinel, .pinned, .pinned], laidTests := true, laidLooks := .later }
def FnFloorUptoCardSaid : Prop := Claim7.holds Tryd.pinned (.plain (OpenSpec.upto fnFloorSpec)) fnFloorUptoCard

/-- THE SECOND FORM's CARD OF 'laws.FnMaxF'. -/
def fnMaxFUptoCard : Claim7 := { stood := { row := fnMaxFUptoRow, standIns := [], harness := (true, "d0255223f3011622067907f639c7fd4a5af8f3ccad931bb11117f346e908502f"), looks := true }, kinds := [], alts := [], laidByText := true, laidKinds := [.data, .data, .widerDeep, .widerDeep, .data, .data, .data, .data, .data, .sentinel, .sentinel, .pinned, .pinned], laidTests := true, laidLooks := .later }
def FnMaxFUptoCardSaid : Prop := Claim7.holds Tryd.pinned (.plain (OpenSpec.upto fnMaxFSpec)) fnMaxFUptoCard

/-- THE SECOND FORM's CARD OF 'laws.FnCastNone'. -/
def fnCastNoneUptoCard : Claim7 := { stood := { row := fnCastNoneUptoRow, standIns := [], harness := (true, "d0255223f3011622067907f639c7fd4a5af8f3ccad931bb11117f346e908502f"), looks := true }, kinds := [], alts := [], laidByText := true, laidKinds := [.data, .data, .widerDeep, .widerDeep, .data, .data, .data, .data, .data, .sentinel, .sentinel, .pinned, .pinned], laidTests := true, laidLooks := .later }
def FnCastNoneUptoCardSaid : Prop := Claim7.holds Tryd.pinned (.plain (OpenSpec.upto fnCastNoneSpec)) fnCastNoneUptoCard
end Rows
end Go.Proofs.YtdconkiilelaoaaDoor
