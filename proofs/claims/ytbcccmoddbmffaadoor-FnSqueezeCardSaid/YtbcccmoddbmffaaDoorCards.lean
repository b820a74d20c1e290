/-
  DERIVED. GIVEN WITH THE SEED: THE CARDS: each row of YtbcccmoddbmffaaDoorRows.lean that lists a variable, with what it lists TIED to the program's text (the seventh form; the later family's looks); each row that meets fmt, with fmt's text TOLD by the authors' own Lean function (tested against real Go, not proved from fmt's source: count such statements apart). THE CARD IS WHAT COUNTS. Prove the row's statement (the work); the ties are given (YtbcccmoddbmffaaDoorTie.lean); close each card by the builder's one call (the guide's Derived/Test/ToyasCard.lean, 'card_holds'). Laid BY PROGRAM, IN A SANDBOX (cutbox-door.mjs). By AI agents, Wed Nov 11 2026. No macro, syntax, notation, axiom, sorry.
-/
import Derived.Test.YtbcccmoddbmffaaDoorRows
import GoSem.ClaimSeven
namespace Go.Proofs.YtbcccmoddbmffaaDoor
namespace Rows

/-- THE TIED CARD OF 'laws.FnReverseText'. -/
def fnReverseTextCard : Claim7 := { stood := { row := fnReverseTextRow, standIns := [], harness := (true, "816648fc58216fbcc9e8fc376ec684285f009c7cab7316558edafda99e855b6d"), looks := false }, kinds := [], alts := [], laidByText := true, laidKinds := [.data, .pinned], laidTests := true, laidLooks := .later }
def FnReverseTextCardSaid : Prop := Claim7.holds Tryd.pinned (.plain (OpenSpec.ofChange fnReverseTextSpec)) fnReverseTextCard

/-- THE TIED CARD OF 'laws.FnInsertAt'. -/
def fnInsertAtCard : Claim7 := { stood := { row := fnInsertAtRow, standIns := [], harness := (true, "816648fc58216fbcc9e8fc376ec684285f009c7cab7316558edafda99e855b6d"), looks := false }, kinds := [], alts := [], laidByText := true, laidKinds := [.data, .pinned], laidTests := true, laidLooks := .later }
def FnInsertAtCardSaid : Prop := Claim7.holds Tryd.pinned (.plain (OpenSpec.ofChange fnInsertAtSpec)) fnInsertAtCard

/-- THE TIED CARD OF 'laws.FnSliceInsert'. -/
def fnSliceInsertCard : Claim7 := { stood := { row := fnSliceInsertRow, standIns := [], harness := (true, "816648fc58216fbcc9e8fc376ec684285f009c7cab7316558edafda99e855b6d"), looks := false }, kinds := [], alts := [], laidByText := true, laidKinds := [.data, .pinned], laidTests := true, laidLooks := .later }
def FnSliceInsertCardSaid : Prop := Claim7.holds Tryd.pinned (.plain (OpenSpec.ofChange fnSliceInsertSpec)) fnSliceInsertCard

/-- THE TIED CARD OF 'laws.FnJustify'. -/
def fnJustifyCard : Claim7 := { stood := { row := fnJustifyRow, standIns := [], harness := (true, "816648fc58216fbcc9e8fc376ec684285f009c7cab7316558edafda99e855b6d"), looks := false }, kinds := [], alts := [], laidByText := true, laidKinds := [.data, .pinned], laidTests := true, laidLooks := .later }
def FnJustifyCardSaid : Prop := Claim7.holds Tryd.pinned (.plain (OpenSpec.ofChange fnJustifySpec)) fnJustifyCard

/-- THE TIED CARD OF 'laws.FnTabs'. -/
def fnTabsCard : Claim7 := { stood := { row := fnTabsRow, standIns := [], harness := (true, "816648fc58216fbcc9e8fc376ec684285f009c7cab7316558edafda99e855b6d"), looks := false }, kinds := [], alts := [], laidByText := true, laidKinds := [.data, .pinned], laidTests := true, laidLooks := .later }
def FnTabsCardSaid : Prop := Claim7.holds Tryd.pinned (.plain (OpenSpec.ofChange fnTabsSpec)) fnTabsCard

/-- THE TIED CARD OF 'laws.FnWordsIn'. -/
def fnWordsInCard : Claim7 := { stood := { row := fnWordsInRow, standIns := [], harness := (true, "816648fc58216fbcc9e8fc376ec684285f009c7cab7316558edafda99e855b6d"), looks := false }, kinds := [], alts := [], laidByText := true, laidKinds := [.data, .data, .pinned, .pinned], laidTests := true, laidLooks := .later }
def FnWordsInCardSaid : Prop := Claim7.holds Tryd.pinned (.plain (OpenSpec.ofChange fnWordsInSpec)) fnWordsInCard

/-- THE TIED CARD OF 'laws.FnSqueeze'. -/
def fnSqueezeCard : Claim7 := { stood := { row := fnSqueezeRow, standIns := [], harness := (true, "816648fc58216fbcc9e8fc376ec684285f009c7cab7316558edafda99e855b6d"), looks := false }, kinds := [], alts := [], laidByText := true, laidKinds := [.data, .pinned], laidTests := true, laidLooks := .later }
def FnSqueezeCardSaid : Prop := Claim7.holds Tryd.pinned (.plain (OpenSpec.ofChange fnSqueezeSpec)) fnSqueezeCard

/-- THE TIED CARD OF 'laws.FnPatterns'. -/
def fnPatternsCard : Claim7 := { stood := { row := fnPatternsRow, standIns := [], harness := (true, "816648fc58216fbcc9e8fc376ec684285f009c7cab7316558edafda99e855b6d"), looks := false }, kinds := [], alts := [], laidByText := true, laidKinds := [.data, .pinned], laidTests := true, laidLooks := .later }
def FnPatternsCardSaid : Prop := Claim7.holds Tryd.pinned (.plain (OpenSpec.ofChange fnPatternsSpec)) fnPatternsCard

/-- THE SECOND FORM's CARD OF 'laws.FnReverseText'. -/
def fnReverseTextUptoCard : Claim7 := { stood := { row := fnReverseTextUptoRow, standIns := [], harness := (true, "816648fc58216fbcc9e8fc376ec684285f009c7cab7316558edafda99e855b6d"), looks := false }, kinds := [], alts := [], laidByText := true, laidKinds := [.data, .pinned], laidTests := true, laidLooks := .later }
def FnReverseTextUptoCardSaid : Prop := Claim7.holds Tryd.pinned (.plain (OpenSpec.upto fnReverseTextSpec)) fnReverseTextUptoCard

/-- THE SECOND FORM's CARD OF 'laws.FnInsertAt'. -/
def fnInsertAtUptoCard : Claim7 := { stood := { row := fnInsertAtUptoRow, standIns := [], harness := (true, "816648fc58216fbcc9e8fc376ec684285f009c7cab7316558edafda99e855b6d"), looks := false }, kinds := [], alts := [], laidByText := true, laidKinds := [.data, .pinned], laidTests := true, laidLooks := .later }
def FnInsertAtUptoCardSaid : Prop := Claim7.holds Tryd.pinned (.plain (OpenSpec.upto fnInsertAtSpec)) fnInsertAtUptoCard

/-- THE SECOND FORM's CARD OF 'laws.FnSliceInsert'. -/
def fnSliceInsertUptoCard : Claim7 := { stood := { row := fnSliceInsertUptoRow, standIns := [], harness := (true, "816648fc58216fbcc9e8fc376ec684285f009c7cab7316558edafda99e855b6d"), looks := false }, kinds := [], alts := [], laidByText := true, laidKinds := [.data, .pinned], laidTests := true, laidLooks := .later }
def FnSliceInsertUptoCardSaid : Prop := Claim7.holds Tryd.pinned (.plain (OpenSpec.upto fnSliceInsertSpec)) fnSliceInsertUptoCard

/-- THE SECOND FORM's CARD OF 'laws.FnJustify'. -/
def fnJustifyUptoCard : Claim7 := { stood := { row := fnJustifyUptoRow, standIns := [], harness := (true, "816648fc58216fbcc9e8fc376ec684285f009c7cab7316558edafda99e855b6d"), looks := false }, kinds := [], alts := [], laidByText := true, laidKinds := [.data, .pinned], laidTests := true, laidLooks := .later }
def FnJustifyUptoCardSaid : Prop := Claim7.holds Tryd.pinned (.plain (OpenSpec.upto fnJustifySpec)) fnJustifyUptoCard

/-- THE SECOND FORM's CARD OF 'laws.FnTabs'. -/
def fnTabsUptoCard : Claim7 := { stood := { row := fnTabsUptoRow, standIns := [], harness := (true, "816648fc58216fbcc9e8fc376ec684285f009c7cab7316558edafda99e855b6d"), looks := false }, kinds := [], alts := [], laidByText := true, laidKinds := [.data, .pinned], laidTests := true, laidLooks := .later }
def FnTabsUptoCardSaid : Prop := Claim7.holds Tryd.pinned (.plain (OpenSpec.upto fnTabsSpec)) fnTabsUptoCard

/-- THE SECOND FORM's CARD OF 'laws.FnWordsIn'. -/
def fnWordsInUptoCard : Claim7 := { stood := { row := fnWordsInUptoRow, standIns := [], harness := (true, "816648fc58216fbcc9e8fc376ec684285f009c7cab7316558edafda99e855b6d"), looks := false }, kinds := [], alts := [], laidByText := true, laidKinds := [.data, .data, .pinned, .pinned], laidTests := true, laidLooks := .later }
def FnWordsInUptoCardSaid : Prop := Claim7.holds Tryd.pinned (.plain (OpenSpec.upto fnWordsInSpec)) fnWordsInUptoCard

/-- THE SECOND FORM's CARD OF 'laws.FnSqueeze'. -/
def fnSqueezeUptoCard : Claim7 := { stood := { row := fnSqueezeUptoRow, standIns := [], harness := (true, "816648fc58216fbcc9e8fc376ec684285f009c7cab7316558edafda99e855b6d"), looks := false }, kinds := [], alts := [], laidByText := true, laidKinds := [.data, .pinned], laidTests := true, laidLooks := .later }
def FnSqueezeUptoCardSaid : Prop := Claim7.holds Tryd.pinned (.plain (OpenSpec.upto fnSqueezeSpec)) fnSqueezeUptoCard

/-- THE SECOND FORM's CARD OF 'laws.FnPatterns'. -/
def fnPatternsUptoCard : Claim7 := { stood := { row := fnPatternsUptoRow, standIns := [], harness := (true, "816648fc58216fbcc9e8fc376ec684285f009c7cab7316558edafda99e855b6d"), looks := false }, kinds := [], alts := [], laidByText := true, laidKinds := [.data, .pinned], laidTests := true, laidLooks := .later }
def FnPatternsUptoCardSaid : Prop := Claim7.holds Tryd.pinned (.plain (OpenSpec.upto fnPatternsSpec)) fnPatternsUptoCard
end Rows
end Go.Proofs.YtbcccmoddbmffaaDoor
