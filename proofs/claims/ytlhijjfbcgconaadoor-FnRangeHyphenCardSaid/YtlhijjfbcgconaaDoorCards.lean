/-
  DERIVED. GIVEN WITH THE SEED: THE CARDS: each row of YtlhijjfbcgconaaDoorRows.lean that lists a variable, with what it lists TIED to the program's text (the seventh form; the later family's looks); each row that meets fmt, with fmt's text TOLD by the authors' own Lean function (tested against real Go, not proved from fmt's source: count such statements apart). THE CARD IS WHAT COUNTS. Prove the row's statement (the work); the ties are given (YtlhijjfbcgconaaDoorTie.lean); close each card by the builder's one call (the guide's Derived/Test/ToyasCard.lean, 'card_holds'). Laid BY PROGRAM, IN A SANDBOX (cutbox-door.mjs). By AI agents, Wed Nov 11 2026. No macro, syntax, notation, axiom, sorry.
-/
import Derived.Test.YtlhijjfbcgconaaDoorRows
import GoSem.ClaimSeven
namespace Go.Proofs.YtlhijjfbcgconaaDoor
namespace Rows

/-- THE TIED CARD OF 'laws.FnSemver'. -/
def fnSemverCard : Claim7 := { stood := { row := fnSemverRow, standIns := [], harness := (true, "d3dc07c5ba9bd2f0fbd2bfd1fe6acbf30046722ef5f6512a4386d67bc4f8468f"), looks := true }, kinds := [], alts := [], laidByText := true, laidKinds := [.data, .data, .data, .sentinel, .sentinel], laidTests := true, laidLooks := .later }
def FnSemverCardSaid : Prop := Claim7.holds Tryd.pinned (.plain (OpenSpec.ofChange fnSemverSpec)) fnSemverCard

/-- THE TIED CARD OF 'laws.FnSemverOrder'. -/
def fnSemverOrderCard : Claim7 := { stood := { row := fnSemverOrderRow, standIns := [], harness := (true, "d3dc07c5ba9bd2f0fbd2bfd1fe6acbf30046722ef5f6512a4386d67bc4f8468f"), looks := true }, kinds := [], alts := [], laidByText := true, laidKinds := [.data, .data, .data, .sentinel, .sentinel], laidTests := true, laidLooks := .later }
def FnSemverOrderCardSaid : Prop := Claim7.holds Tryd.pinned (.plain (OpenSpec.ofChange fnSemverOrderSpec)) fnSemverOrderCard

/-- THE TIED CARD OF 'laws.FnSemverText'. -/
def fnSemverTextCard : Claim7 := { stood := { row := fnSemverTextRow, standIns := [], harness := (true, "d3dc07c5ba9bd2f0fbd2bfd1fe6acbf30046722ef5f6512a4386d67bc4f8468f"), looks := true }, kinds := [], alts := [], laidByText := true, laidKinds := [.data, .data, .data, .data, .sentinel, .sentinel, .pinned], laidTests := true, laidLooks := .later }
def FnSemverTextCardSaid : Prop := Claim7.holds Tryd.pinned (.plain (OpenSpec.ofChange fnSemverTextSpec)) fnSemverTextCard

/-- THE TIED CARD OF 'laws.FnSemverNext'. -/
def fnSemverNextCard : Claim7 := { stood := { row := fnSemverNextRow, standIns := [], harness := (true, "d3dc07c5ba9bd2f0fbd2bfd1fe6acbf30046722ef5f6512a4386d67bc4f8468f"), looks := true }, kinds := [], alts := [], laidByText := true, laidKinds := [.data, .data, .data, .sentinel, .sentinel], laidTests := true, laidLooks := .later }
def FnSemverNextCardSaid : Prop := Claim7.holds Tryd.pinned (.plain (OpenSpec.ofChange fnSemverNextSpec)) fnSemverNextCard

/-- THE TIED CARD OF 'laws.FnRangeAny'. -/
def fnRangeAnyCard : Claim7 := { stood := { row := fnRangeAnyRow, standIns := [], harness := (true, "d3dc07c5ba9bd2f0fbd2bfd1fe6acbf30046722ef5f6512a4386d67bc4f8468f"), looks := true }, kinds := [], alts := [], laidByText := true, laidKinds := [.data, .data, .data, .data, .sentinel, .sentinel, .pinned], laidTests := true, laidLooks := .later }
def FnRangeAnyCardSaid : Prop := Claim7.holds Tryd.pinned (.plain (OpenSpec.ofChange fnRangeAnySpec)) fnRangeAnyCard

/-- THE TIED CARD OF 'laws.FnRangeHyphen'. -/
def fnRangeHyphenCard : Claim7 := { stood := { row := fnRangeHyphenRow, standIns := [], harness := (true, "d3dc07c5ba9bd2f0fbd2bfd1fe6acbf30046722ef5f6512a4386d67bc4f8468f"), looks := true }, kinds := [], alts := [], laidByText := true, laidKinds := [.data, .data, .data, .data, .sentinel, .sentinel, .pinned], laidTests := true, laidLooks := .later }
def FnRangeHyphenCardSaid : Prop := Claim7.holds Tryd.pinned (.plain (OpenSpec.ofChange fnRangeHyphenSpec)) fnRangeHyphenCard

/-- THE TIED CARD OF 'laws.FnRangeTilde'. -/
def fnRangeTildeCard : Claim7 := { stood := { row := fnRangeTildeRow, standIns := [], harness := (true, "d3dc07c5ba9bd2f0fbd2bfd1fe6acbf30046722ef5f6512a4386d67bc4f8468f"), looks := true }, kinds := [], alts := [], laidByText := true, laidKinds := [.data, .data, .data, .data, .sentinel, .sentinel, .pinned], laidTests := true, laidLooks := .later }
def FnRangeTildeCardSaid : Prop := Claim7.holds Tryd.pinned (.plain (OpenSpec.ofChange fnRangeTildeSpec)) fnRangeTildeCard

/-- THE SECOND FORM's CARD OF 'laws.FnSemver'. -/
def fnSemverUptoCard : Claim7 := { stood := { row := fnSemverUptoRow, standIns := [], harness := (true, "d3dc07c5ba9bd2f0fbd2bfd1fe6acbf30046722ef5f6512a4386d67bc4f8468f"), looks := true }, kinds := [], alts := [], laidByText := true, laidKinds := [.data, .data, .data, .sentinel, .sentinel], laidTests := true, laidLooks := .later }
def FnSemverUptoCardSaid : Prop := Claim7.holds Tryd.pinned (.plain (OpenSpec.upto fnSemverSpec)) fnSemverUptoCard

/-- THE SECOND FORM's CARD OF 'laws.FnSemverOrder'. -/
def fnSemverOrderUptoCard : Claim7 := { stood := { row := fnSemverOrderUptoRow, standIns := [], harness := (true, "d3dc07c5ba9bd2f0fbd2bfd1fe6acbf30046722ef5f6512a4386d67bc4f8468f"), looks := true }, kinds := [], alts := [], laidByText := true, laidKinds := [.data, .data, .data, .sentinel, .sentinel], laidTests := true, laidLooks := .later }
def FnSemverOrderUptoCardSaid : Prop := Claim7.holds Tryd.pinned (.plain (OpenSpec.upto fnSemverOrderSpec)) fnSemverOrderUptoCard

/-- THE SECOND FORM's CARD OF 'laws.FnSemverText'. -/
def fnSemverTextUptoCard : Claim7 := { stood := { row := fnSemverTextUptoRow, standIns := [], harness := (true, "d3dc07c5ba9bd2f0fbd2bfd1fe6acbf30046722ef5f6512a4386d67bc4f8468f"), looks := true }, kinds := [], alts := [], laidByText := true, laidKinds := [.data, .data, .data, .data, .sentinel, .sentinel, .pinned], laidTests := true, laidLooks := .later }
def FnSemverTextUptoCardSaid : Prop := Claim7.holds Tryd.pinned (.plain (OpenSpec.upto fnSemverTextSpec)) fnSemverTextUptoCard

/-- THE SECOND FORM's CARD OF 'laws.FnSemverNext'. -/
def fnSemverNextUptoCard : Claim7 := { stood := { row := fnSemverNextUptoRow, standIns := [], harness := (true, "d3dc07c5ba9bd2f0fbd2bfd1fe6acbf30046722ef5f6512a4386d67bc4f8468f"), looks := true }, kinds := [], alts := [], laidByText := true, laidKinds := [.data, .data, .data, .sentinel, .sentinel], laidTests := true, laidLooks := .later }
def FnSemverNextUptoCardSaid : Prop := Claim7.holds Tryd.pinned (.plain (OpenSpec.upto fnSemverNextSpec)) fnSemverNextUptoCard

/-- THE SECOND FORM's CARD OF 'laws.FnRangeAny'. -/
def fnRangeAnyUptoCard : Claim7 := { stood := { row := fnRangeAnyUptoRow, standIns := [], harness := (true, "d3dc07c5ba9bd2f0fbd2bfd1fe6acbf30046722ef5f6512a4386d67bc4f8468f"), looks := true }, kinds := [], alts := [], laidByText := true, laidKinds := [.data, .data, .data, .data, .sentinel, .sentinel, .pinned], laidTests := true, laidLooks := .later }
def FnRangeAnyUptoCardSaid : Prop := Claim7.holds Tryd.pinned (.plain (OpenSpec.upto fnRangeAnySpec)) fnRangeAnyUptoCard

/-- THE SECOND FORM's CARD OF 'laws.FnRangeHyphen'. -/
def fnRangeHyphenUptoCard : Claim7 := { stood := { row := fnRangeHyphenUptoRow, standIns := [], harness := (true, "d3dc07c5ba9bd2f0fbd2bfd1fe6acbf30046722ef5f6512a4386d67bc4f8468f"), looks := true }, kinds := [], alts := [], laidByText := true, laidKinds := [.data, .data, .data, .data, .sentinel, .sentinel, .pinned], laidTests := true, laidLooks := .later }
def FnRangeHyphenUptoCardSaid : Prop := Claim7.holds Tryd.pinned (.plain (OpenSpec.upto fnRangeHyphenSpec)) fnRangeHyphenUptoCard

/-- THE SECOND FORM's CARD OF 'laws.FnRangeTilde'. -/
def fnRangeTildeUptoCard : Claim7 := { stood := { row := fnRangeTildeUptoRow, standIns := [], harness := (true, "d3dc07c5ba9bd2f0fbd2bfd1fe6acbf30046722ef5f6512a4386d67bc4f8468f"), looks := true }, kinds := [], alts := [], laidByText := true, laidKinds := [.data, .data, .data, .data, .sentinel, .sentinel, .pinned], laidTests := true, laidLooks := .later }
def FnRangeTildeUptoCardSaid : Prop := Claim7.holds Tryd.pinned (.plain (OpenSpec.upto fnRangeTildeSpec)) fnRangeTildeUptoCard
end Rows
end Go.Proofs.YtlhijjfbcgconaaDoor
