/-
  DERIVED. GIVEN WITH THE SEED: THE CARDS: each row of YtgjcejgcljjdhaaDoorRows.lean that lists a variable, with what it lists TIED to the program's text (the seventh form; the later family's looks); each row that meets fmt, with fmt's text TOLD by the authors' own Lean function (tested against real Go, not proved from fmt's source: count such statements apart). THE CARD IS WHAT COUNTS. Prove the row's statement (the work); the ties are given (YtgjcejgcljjdhaaDoorTie.lean); close each card by the builder's one call (the guide's Derived/Test/ToyasCard.lean, 'card_holds'). Laid BY PROGRAM, IN A SANDBOX (cutbox-door.mjs). By AI agents, Wed Nov 11 2026. No macro, syntax, notation, axiom, sorry.
-/
import Derived.Test.YtgjcejgcljjdhaaDoorRows
import GoSem.ClaimSeven
namespace Go.Proofs.YtgjcejgcljjdhaaDoor
namespace Rows

/-- THE TIED CARD OF 'laws.FnToString'. -/
def fnToStringCard : Claim7 := { stood := { row := fnToStringRow, standIns := [], harness := (true, "a343db10ddbec0669987b8f1402f42298ad451e8e064b74f6f766af3820dfe87"), looks := true }, kinds := [], alts := [], laidByText := true, laidKinds := [.data, .data, .data, .data, .pinned, .pinned], laidTests := true, laidLooks := .later }
def FnToStringCardSaid : Prop := Claim7.holds Tryd.pinned (.plain (OpenSpec.ofChange fnToStringSpec)) fnToStringCard

/-- THE TIED CARD OF 'laws.FnCastSum'. -/
def fnCastSumCard : Claim7 := { stood := { row := fnCastSumRow, standIns := [], harness := (true, "a343db10ddbec0669987b8f1402f42298ad451e8e064b74f6f766af3820dfe87"), looks := true }, kinds := [], alts := [], laidByText := true, laidKinds := [.data, .data, .data, .sentinel, .sentinel], laidTests := true, laidLooks := .later }
def FnCastSumCardSaid : Prop := Claim7.holds Tryd.pinned (.plain (OpenSpec.ofChange fnCastSumSpec)) fnCastSumCard

/-- THE TIED CARD OF 'laws.FnCastNone'. -/
def fnCastNoneCard : Claim7 := { stood := { row := fnCastNoneRow, standIns := [], harness := (true, "a343db10ddbec0669987b8f1402f42298ad451e8e064b74f6f766af3820dfe87"), looks := true }, kinds := [], alts := [], laidByText := true, laidKinds := [.data, .data, .widerDeep, .widerDeep, .data, .data, .data, .data, .data, .sentinel, .sentinel, .pinned, .pinned], laidTests := true, laidLooks := .later }
def FnCastNoneCardSaid : Prop := Claim7.holds Tryd.pinned (.plain (OpenSpec.ofChange fnCastNoneSpec)) fnCastNoneCard

/-- THE SECOND FORM's CARD OF 'laws.FnToString'. -/
def fnToStringUptoCard : Claim7 := { stood := { row := fnToStringUptoRow, standIns := [], harness := (true, "a343db10ddbec0669987b8f1402f42298ad451e8e064b74f6f766af3820dfe87"), looks := true }, kinds := [], alts := [], laidByText := true, laidKinds := [.data, .data, .data, .data, .pinned, .pinned], laidTests := true, laidLooks := .later }
def FnToStringUptoCardSaid : Prop := Claim7.holds Tryd.pinned (.plain (OpenSpec.upto fnToStringSpec)) fnToStringUptoCard

/-- THE SECOND FORM's CARD OF 'laws.FnCastSum'. -/
def fnCastSumUptoCard : Claim7 := { stood := { row := fnCastSumUptoRow, standIns := [], harness := (true, "a343db10ddbec0669987b8f1402f42298ad451e8e064b74f6f766af3820dfe87"), looks := true }, kinds := [], alts := [], laidByText := true, laidKinds := [.data, .data, .data, .sentinel, .sentinel], laidTests := true, laidLooks := .later }
def FnCastSumUptoCardSaid : Prop := Claim7.holds Tryd.pinned (.plain (OpenSpec.upto fnCastSumSpec)) fnCastSumUptoCard

/-- THE SECOND FORM's CARD OF 'laws.FnCastNone'. -/
def fnCastNoneUptoCard : Claim7 := { stood := { row := fnCastNoneUptoRow, standIns := [], harness := (true, "a343db10ddbec0669987b8f1402f42298ad451e8e064b74f6f766af3820dfe87"), looks := true }, kinds := [], alts := [], laidByText := true, laidKinds := [.data, .data, .widerDeep, .widerDeep, .data, .data, .data, .data, .data, .sentinel, .sentinel, .pinned, .pinned], laidTests := true, laidLooks := .later }
def FnCastNoneUptoCardSaid : Prop := Claim7.holds Tryd.pinned (.plain (OpenSpec.upto fnCastNoneSpec)) fnCastNoneUptoCard
end Rows
end Go.Proofs.YtgjcejgcljjdhaaDoor
