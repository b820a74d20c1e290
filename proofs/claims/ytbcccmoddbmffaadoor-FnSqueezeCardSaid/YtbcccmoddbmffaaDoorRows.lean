/-
  NARROWER THAN 'FOR EVERY INPUT', by the rows' own cells (each row's printed sentence says how): FnReverseText: laid · FnInsertAt: laid · FnSliceInsert: laid · FnJustify: laid · FnTabs: laid · FnWordsIn: laid · FnSqueeze: laid · FnPatterns: laid.
  DERIVED. THE GIVEN ROWS OF THIS SEAT. 8 by the template 'for every input the law returns true; each argument reads behind the call as it read before'; 0 by the template 'total and deterministic' (their statements: YtbcccmoddbmffaaDoorTotals.lean).
  GIVEN WITH THE SEED: the statements are not yours to turn. If you find one false, say at which input.
  Laid BY PROGRAM, IN A SANDBOX (cutbox-rows.mjs): the forced cells as the released guide's own fill.sh prints them over the translation f2e1a42ba563f71a… (all of the seat's roots in one cut). By AI agents, Wed Nov 11 2026. No macro, syntax, notation, axiom, sorry.
-/
import Derived.Test.YtbcccmoddbmffaaDoorChecked
import GoSem.PinnedTables
import GoSem.Claim
import GoSem.ClaimJoined
import GoSem.ClaimMapViews
import Derived.JoinedTies
import Derived.KernelRfl
namespace Go.Proofs.YtbcccmoddbmffaaDoor
/- THE CELL 'sum', in the pinned program and in every row, IS THE sha256 OF THE DUMP (.gsa) THAT YtbcccmoddbmffaaDoorProg.lean LOADS. Nothing in Lean hashes anything: it is a label: what it is worth is what the hold of that sum in a sandbox is worth. -/
noncomputable def Tryd.pinned : Pinned := { name := "ytbcccmoddbmffaadoor", sum := "f2e1a42ba563f71a88edccc44e853baf8a5589a90691620bda48f7d2c789a412", checked := Tryd.checked }
namespace Rows
def none {H : Type} : Left H := { results := [], args := [] }

/- WHAT THE LISTED PACKAGE-LEVEL VARIABLES READ AS WHEN THE CALL BEGINS. Each datum BY PROGRAM (the guide's laid-datum.mjs) off the statement by which the dump's own 'gosem.cut.vars' lays the variable. In a bare row this is a premise. The card (YtbcccmoddbmffaaDoorCards.lean) ties it to the program's text. -/
def laid_unicode_utf8_acceptRanges {H : Type} : DataW H := .agg [.agg [.lit (.int .u8 128), .lit (.int .u8 191)], .agg [.lit (.int .u8 160), .lit (.int .u8 191)], .agg [.lit (.int .u8 128), .lit (.int .u8 159)], .agg [.lit (.int .u8 144), .lit (.int .u8 191)], .agg [.lit (.int .u8 128), .lit (.int .u8 143)], .agg [.lit (.int .u8 0), .lit (.int .u8 0)], .agg [.lit (.int .u8 0), .lit (.int .u8 0)], .agg [.lit (.int .u8 0), .lit (.int .u8 0)], .agg [.lit (.int .u8 0), .lit (.int .u8 0)], .agg [.lit (.int .u8 0), .lit (.int .u8 0)], .agg [.lit (.int .u8 0), .lit (.int .u8 0)], .agg [.lit (.int .u8 0), .lit (.int .u8 0)], .agg [.lit (.int .u8 0), .lit (.int .u8 0)], .agg [.lit (.int .u8 0), .lit (.int .u8 0)], .agg [.lit (.int .u8 0), .lit (.int .u8 0)], .agg [.lit (.int .u8 0), .lit (.int .u8 0)]]
/-- One of Go's own tables, pinned by name: the form's constant. -/
def laid_unicode_utf8_first : DataW Unit := Go.Pinned.utf8First
def laid_unicode_properties {H : Type} : DataW H := .agg [.lit (.int .u8 1), .lit (.int .u8 1), .lit (.int .u8 1), .lit (.int .u8 1), .lit (.int .u8 1), .lit (.int .u8 1), .lit (.int .u8 1), .lit (.int .u8 1), .lit (.int .u8 1), .lit (.int .u8 1), .lit (.int .u8 1), .lit (.int .u8 1), .lit (.int .u8 1), .lit (.int .u8 1), .lit (.int .u8 1), .lit (.int .u8 1), .lit (.int .u8 1), .lit (.int .u8 1), .lit (.int .u8 1), .lit (.int .u8 1), .lit (.int .u8 1), .lit (.int .u8 1), .lit (.int .u8 1), .lit (.int .u8 1), .lit (.int .u8 1), .lit (.int .u8 1), .lit (.int .u8 1), .lit (.int .u8 1), .lit (.int .u8 1), .lit (.int .u8 1), .lit (.int .u8 1), .lit (.int .u8 1), .lit (.int .u8 144), .lit (.int .u8 130), .lit (.int .u8 130), .lit (.int .u8 130), .lit (.int .u8 136), .lit (.int .u8 130), .lit (.int .u8 130), .lit (.int .u8 130), .lit (.int .u8 130), .lit (.int .u8 130), .lit (.int .u8 130), .lit (.int .u8 136), .lit (.int .u8 130), .lit (.int .u8 130), .lit (.int .u8 130), .lit (.int .u8 130), .lit (.int .u8 132), .lit (.int .u8 132), .lit (.int .u8 132), .lit (.int .u8 132), .lit (.int .u8 132), .lit (.int .u8 132), .lit (.int .u8 132), .lit (.int .u8 132), .lit (.int .u8 132), .lit (.int .u8 132), .lit (.int .u8 130), .lit (.int .u8 130), .lit (.int .u8 136), .lit (.int .u8 136), .lit (.int .u8 136), .lit (.int .u8 130), .lit (.int .u8 130), .lit (.int .u8 160), .lit (.int .u8 160), .lit (.int .u8 160), .lit (.int .u8 160), .lit (.int .u8 160), .lit (.int .u8 160), .lit (.int .u8 160), .lit (.int .u8 160), .lit (.int .u8 160), .lit (.int .u8 160), .lit (.int .u8 160), .lit (.int .u8 160), .lit (.int .u8 160), .lit (.int .u8 160), .lit (.int .u8 160), .lit (.int .u8 160), .lit (.int .u8 160), .lit (.int .u8 160), .lit (.int .u8 160), .lit (.int .u8 160), .lit (.int .u8 160), .lit (.int .u8 160), .lit (.int .u8 160), .lit (.int .u8 160), .lit (.int .u8 160), .lit (.int .u8 160), .lit (.int .u8 130), .lit (.int .u8 130), .lit (.int .u8 130), .lit (.int .u8 136), .lit (.int .u8 130), .lit (.int .u8 136), .lit (.int .u8 192), .lit (.int .u8 192), .lit (.int .u8 192), .lit (.int .u8 192), .lit (.int .u8 192), .lit (.int .u8 192), .lit (.int .u8 192), .lit (.int .u8 192), .lit (.int .u8 192), .lit (.int .u8 192), .lit (.int .u8 192), .lit (.int .u8 192), .lit (.int .u8 192), .lit (.int .u8 192), .lit (.int .u8 192), .lit (.int .u8 192), .lit (.int .u8 192), .lit (.int .u8 192), .lit (.int .u8 192), .lit (.int .u8 192), .lit (.int .u8 192), .lit (.int .u8 192), .lit (.int .u8 192), .lit (.int .u8 192), .lit (.int .u8 192), .lit (.int .u8 192), .lit (.int .u8 130), .lit (.int .u8 136), .lit (.int .u8 130), .lit (.int .u8 136), .lit (.int .u8 1), .lit (.int .u8 1), .lit (.int .u8 1), .lit (.int .u8 1), .lit (.int .u8 1), .lit (.int .u8 1), .lit (.int .u8 1), .lit (.int .u8 1), .lit (.int .u8 1), .lit (.int .u8 1), .lit (.int .u8 1), .lit (.int .u8 1), .lit (.int .u8 1), .lit (.int .u8 1), .lit (.int .u8 1), .lit (.int .u8 1), .lit (.int .u8 1), .lit (.int .u8 1), .lit (.int .u8 1), .lit (.int .u8 1), .lit (.int .u8 1), .lit (.int .u8 1), .lit (.int .u8 1), .lit (.int .u8 1), .lit (.int .u8 1), .lit (.int .u8 1), .lit (.int .u8 1), .lit (.int .u8 1), .lit (.int .u8 1), .lit (.int .u8 1), .lit (.int .u8 1), .lit (.int .u8 1), .lit (.int .u8 1), .lit (.int .u8 16), .lit (.int .u8 130), .lit (.int .u8 136), .lit (.int .u8 136), .lit (.int .u8 136), .lit (.int .u8 136), .lit (.int .u8 136), .lit (.int .u8 130), .lit (.int .u8 136), .lit (.int .u8 136), .lit (.int .u8 224), .lit (.int .u8 130), .lit (.int .u8 136), .lit (.int .u8 0), .lit (.int .u8 136), .lit (.int .u8 136), .lit (.int .u8 136), .lit (.int .u8 136), .lit (.int .u8 132), .lit (.int .u8 132), .lit (.int .u8 136), .lit (.int .u8 192), .lit (.int .u8 130), .lit (.int .u8 130), .lit (.int .u8 136), .lit (.int .u8 132), .lit (.int .u8 224), .lit (.int .u8 130), .lit (.int .u8 132), .lit (.int .u8 132), .lit (.int .u8 132), .lit (.int .u8 130), .lit (.int .u8 160), .lit (.int .u8 160), .lit (.int .u8 160), .lit (.int .u8 160), .lit (.int .u8 160), .lit (.int .u8 160), .lit (.int .u8 160), .lit (.int .u8 160), .lit (.int .u8 160), .lit (.int .u8 160), .lit (.int .u8 160), .lit (.int .u8 160), .lit (.int .u8 160), .lit (.int .u8 160), .lit (.int .u8 160), .lit (.int .u8 160), .lit (.int .u8 160), .lit (.int .u8 160), .lit (.int .u8 160), .lit (.int .u8 160), .lit (.int .u8 160), .lit (.int .u8 160), .lit (.int .u8 160), .lit (.int .u8 136), .lit (.int .u8 160), .lit (.int .u8 160), .lit (.int .u8 160), .lit (.int .u8 160), .lit (.int .u8 160), .lit (.int .u8 160), .lit (.int .u8 160), .lit (.int .u8 192), .lit (.int .u8 192), .lit (.int .u8 192), .lit (.int .u8 192), .lit (.int .u8 192), .lit (.int .u8 192), .lit (.int .u8 192), .lit (.int .u8 192), .lit (.int .u8 192), .lit (.int .u8 192), .lit (.int .u8 192), .lit (.int .u8 192), .lit (.int .u8 192), .lit (.int .u8 192), .lit (.int .u8 192), .lit (.int .u8 192), .lit (.int .u8 192), .lit (.int .u8 192), .lit (.int .u8 192), .lit (.int .u8 192), .lit (.int .u8 192), .lit (.int .u8 192), .lit (.int .u8 192), .lit (.int .u8 192), .lit (.int .u8 136), .lit (.int .u8 192), .lit (.int .u8 192), .lit (.int .u8 192), .lit (.int .u8 192), .lit (.int .u8 192), .lit (.int .u8 192), .lit (.int .u8 192), .lit (.int .u8 192)]
/-- One of Go's own tables, pinned by name: the form's constant. -/
def laid_unicode_Letter : DataW Unit := Go.Pinned.letter

/-- 'laws.FnReverseText': WHATEVER THE INPUT: true; the input reads as it did. -/
def fnReverseTextSpec : ChangeSpec := { name := "fnReverseText", fn := fun _ => fun
  | [d1, d2] => { results := [.lit (.bool true)], args := [d1, d2] }
  | _ => none }
def fnReverseTextRow : OpenClaim := { program := "ytbcccmoddbmffaadoor", sum := "f2e1a42ba563f71a88edccc44e853baf8a5589a90691620bda48f7d2c789a412", func := "given.example/pub-budwood/laws.FnReverseText", spec := "fnReverseText", named := ["unicode/utf8.first", "unicode/utf8.acceptRanges"], apart := false, laid := [("unicode/utf8.acceptRanges", laid_unicode_utf8_acceptRanges), ("unicode/utf8.first", laid_unicode_utf8_first)] }
def FnReverseTextSaid : Prop := fnReverseTextRow.holds Tryd.pinned (OpenSpec.ofChange fnReverseTextSpec)

/-- ITS FALSE NEIGHBOUR: 'it returns false'. Refute it at one input. -/
def fnReverseTextWrong : ChangeSpec := { name := "fnReverseText", fn := fun _ => fun
  | [d1, d2] => { results := [.lit (.bool false)], args := [d1, d2] }
  | _ => none }
def FnReverseTextWrongFalsely : Prop := fnReverseTextRow.holds Tryd.pinned (OpenSpec.ofChange fnReverseTextWrong)

/-- 'laws.FnInsertAt': WHATEVER THE INPUT: true; the input reads as it did. -/
def fnInsertAtSpec : ChangeSpec := { name := "fnInsertAt", fn := fun _ => fun
  | [d1, d2, d3] => { results := [.lit (.bool true)], args := [d1, d2, d3] }
  | _ => none }
def fnInsertAtRow : OpenClaim := { program := "ytbcccmoddbmffaadoor", sum := "f2e1a42ba563f71a88edccc44e853baf8a5589a90691620bda48f7d2c789a412", func := "given.example/pub-budwood/laws.FnInsertAt", spec := "fnInsertAt", unfollowed := true, recurses := true, named := ["unicode/utf8.first", "unicode/utf8.acceptRanges"], apart := false, laid := [("unicode/utf8.acceptRanges", laid_unicode_utf8_acceptRanges), ("unicode/utf8.first", laid_unicode_utf8_first)] }
def FnInsertAtSaid : Prop := fnInsertAtRow.holds Tryd.pinned (OpenSpec.ofChange fnInsertAtSpec)

/-- ITS FALSE NEIGHBOUR: 'it returns false'. Refute it at one input. -/
def fnInsertAtWrong : ChangeSpec := { name := "fnInsertAt", fn := fun _ => fun
  | [d1, d2, d3] => { results := [.lit (.bool false)], args := [d1, d2, d3] }
  | _ => none }
def FnInsertAtWrongFalsely : Prop := fnInsertAtRow.holds Tryd.pinned (OpenSpec.ofChange fnInsertAtWrong)

/-- 'laws.FnSliceInsert': WHATEVER THE INPUT: true; the input reads as it did. -/
def fnSliceInsertSpec : ChangeSpec := { name := "fnSliceInsert", fn := fun _ => fun
  | [d1, d2, d3] => { results := [.lit (.bool true)], args := [d1, d2, d3] }
  | _ => none }
def fnSliceInsertRow : OpenClaim := { program := "ytbcccmoddbmffaadoor", sum := "f2e1a42ba563f71a88edccc44e853baf8a5589a90691620bda48f7d2c789a412", func := "given.example/pub-budwood/laws.FnSliceInsert", spec := "fnSliceInsert", unfollowed := true, recurses := true, named := ["unicode/utf8.first", "unicode/utf8.acceptRanges"], apart := false, laid := [("unicode/utf8.acceptRanges", laid_unicode_utf8_acceptRanges), ("unicode/utf8.first", laid_unicode_utf8_first)] }
def FnSliceInsertSaid : Prop := fnSliceInsertRow.holds Tryd.pinned (OpenSpec.ofChange fnSliceInsertSpec)

/-- ITS FALSE NEIGHBOUR: 'it returns false'. Refute it at one input. -/
def fnSliceInsertWrong : ChangeSpec := { name := "fnSliceInsert", fn := fun _ => fun
  | [d1, d2, d3] => { results := [.lit (.bool false)], args := [d1, d2, d3] }
  | _ => none }
def FnSliceInsertWrongFalsely : Prop := fnSliceInsertRow.holds Tryd.pinned (OpenSpec.ofChange fnSliceInsertWrong)

/-- 'laws.FnJustify': WHATEVER THE INPUT: true; the input reads as it did. -/
def fnJustifySpec : ChangeSpec := { name := "fnJustify", fn := fun _ => fun
  | [d1, d2, d3] => { results := [.lit (.bool true)], args := [d1, d2, d3] }
  | _ => none }
def fnJustifyRow : OpenClaim := { program := "ytbcccmoddbmffaadoor", sum := "f2e1a42ba563f71a88edccc44e853baf8a5589a90691620bda48f7d2c789a412", func := "given.example/pub-budwood/laws.FnJustify", spec := "fnJustify", inPlace := ["internal/abi.NoEscape", "internal/bytealg.MakeNoZero"], named := ["unicode/utf8.first", "unicode/utf8.acceptRanges"], apart := false, laid := [("unicode/utf8.acceptRanges", laid_unicode_utf8_acceptRanges), ("unicode/utf8.first", laid_unicode_utf8_first)] }
def FnJustifySaid : Prop := fnJustifyRow.holds Tryd.pinned (OpenSpec.ofChange fnJustifySpec)

/-- ITS FALSE NEIGHBOUR: 'it returns false'. Refute it at one input. -/
def fnJustifyWrong : ChangeSpec := { name := "fnJustify", fn := fun _ => fun
  | [d1, d2, d3] => { results := [.lit (.bool false)], args := [d1, d2, d3] }
  | _ => none }
def FnJustifyWrongFalsely : Prop := fnJustifyRow.holds Tryd.pinned (OpenSpec.ofChange fnJustifyWrong)

/-- 'laws.FnTabs': WHATEVER THE INPUT: true; the input reads as it did. -/
def fnTabsSpec : ChangeSpec := { name := "fnTabs", fn := fun _ => fun
  | [d1, d2] => { results := [.lit (.bool true)], args := [d1, d2] }
  | _ => none }
def fnTabsRow : OpenClaim := { program := "ytbcccmoddbmffaadoor", sum := "f2e1a42ba563f71a88edccc44e853baf8a5589a90691620bda48f7d2c789a412", func := "given.example/pub-budwood/laws.FnTabs", spec := "fnTabs", inPlace := ["internal/abi.NoEscape", "internal/bytealg.MakeNoZero"], unfollowed := true, recurses := true, named := ["unicode/utf8.first", "unicode/utf8.acceptRanges"], apart := false, laid := [("unicode/utf8.acceptRanges", laid_unicode_utf8_acceptRanges), ("unicode/utf8.first", laid_unicode_utf8_first)] }
def FnTabsSaid : Prop := fnTabsRow.holds Tryd.pinned (OpenSpec.ofChange fnTabsSpec)

/-- ITS FALSE NEIGHBOUR: 'it returns false'. Refute it at one input. -/
def fnTabsWrong : ChangeSpec := { name := "fnTabs", fn := fun _ => fun
  | [d1, d2] => { results := [.lit (.bool false)], args := [d1, d2] }
  | _ => none }
def FnTabsWrongFalsely : Prop := fnTabsRow.holds Tryd.pinned (OpenSpec.ofChange fnTabsWrong)

/-- 'laws.FnWordsIn': WHATEVER THE INPUT: true; the input reads as it did. -/
def fnWordsInSpec : ChangeSpec := { name := "fnWordsIn", fn := fun _ => fun
  | [d] => { results := [.lit (.bool true)], args := [d] }
  | _ => none }
def fnWordsInRow : OpenClaim := { program := "ytbcccmoddbmffaadoor", sum := "f2e1a42ba563f71a88edccc44e853baf8a5589a90691620bda48f7d2c789a412", func := "given.example/pub-budwood/laws.FnWordsIn", spec := "fnWordsIn", named := ["unicode/utf8.first", "unicode/utf8.acceptRanges", "unicode.properties", "unicode.Letter"], apart := false, laid := [("unicode/utf8.acceptRanges", laid_unicode_utf8_acceptRanges), ("unicode.properties", laid_unicode_properties), ("unicode.Letter", laid_unicode_Letter), ("unicode/utf8.first", laid_unicode_utf8_first)] }
def FnWordsInSaid : Prop := fnWordsInRow.holds Tryd.pinned (OpenSpec.ofChange fnWordsInSpec)

/-- ITS FALSE NEIGHBOUR: 'it returns false'. Refute it at one input. -/
def fnWordsInWrong : ChangeSpec := { name := "fnWordsIn", fn := fun _ => fun
  | [d] => { results := [.lit (.bool false)], args := [d] }
  | _ => none }
def FnWordsInWrongFalsely : Prop := fnWordsInRow.holds Tryd.pinned (OpenSpec.ofChange fnWordsInWrong)

/-- 'laws.FnSqueeze': WHATEVER THE INPUT: true; the input reads as it did. -/
def fnSqueezeSpec : ChangeSpec := { name := "fnSqueeze", fn := fun _ => fun
  | [d] => { results := [.lit (.bool true)], args := [d] }
  | _ => none }
def fnSqueezeRow : OpenClaim := { program := "ytbcccmoddbmffaadoor", sum := "f2e1a42ba563f71a88edccc44e853baf8a5589a90691620bda48f7d2c789a412", func := "given.example/pub-budwood/laws.FnSqueeze", spec := "fnSqueeze", inPlace := ["internal/abi.NoEscape", "internal/bytealg.MakeNoZero"], unfollowed := true, recurses := true, named := ["unicode/utf8.first", "unicode/utf8.acceptRanges"], apart := false, laid := [("unicode/utf8.acceptRanges", laid_unicode_utf8_acceptRanges), ("unicode/utf8.first", laid_unicode_utf8_first)] }
def FnSqueezeSaid : Prop := fnSqueezeRow.holds Tryd.pinned (OpenSpec.ofChange fnSqueezeSpec)

/-- ITS FALSE NEIGHBOUR: 'it returns false'. Refute it at one input. -/
def fnSqueezeWrong : ChangeSpec := { name := "fnSqueeze", fn := fun _ => fun
  | [d] => { results := [.lit (.bool false)], args := [d] }
  | _ => none }
def FnSqueezeWrongFalsely : Prop := fnSqueezeRow.holds Tryd.pinned (OpenSpec.ofChange fnSqueezeWrong)

/-- 'laws.FnPatterns': WHATEVER THE INPUT: true; the input reads as it did. -/
def fnPatternsSpec : ChangeSpec := { name := "fnPatterns", fn := fun _ => fun
  | [d1, d2] => { results := [.lit (.bool true)], args := [d1, d2] }
  | _ => none }
def fnPatternsRow : OpenClaim := { program := "ytbcccmoddbmffaadoor", sum := "f2e1a42ba563f71a88edccc44e853baf8a5589a90691620bda48f7d2c789a412", func := "given.example/pub-budwood/laws.FnPatterns", spec := "fnPatterns", inPlace := ["internal/abi.NoEscape", "internal/bytealg.MakeNoZero"], unfollowed := true, recurses := true, named := ["unicode/utf8.first", "unicode/utf8.acceptRanges"], apart := false, laid := [("unicode/utf8.acceptRanges", laid_unicode_utf8_acceptRanges), ("unicode/utf8.first", laid_unicode_utf8_first)] }
def FnPatternsSaid : Prop := fnPatternsRow.holds Tryd.pinned (OpenSpec.ofChange fnPatternsSpec)

/-- ITS FALSE NEIGHBOUR: 'it returns false'. Refute it at one input. -/
def fnPatternsWrong : ChangeSpec := { name := "fnPatterns", fn := fun _ => fun
  | [d1, d2] => { results := [.lit (.bool false)], args := [d1, d2] }
  | _ => none }
def FnPatternsWrongFalsely : Prop := fnPatternsRow.holds Tryd.pinned (OpenSpec.ofChange fnPatternsWrong)

/- THE SECOND FORM. 'bulk': how many values and letters a reading holds, each counted each time it is reached (what is shared counts as often as it is met; a slice's spare places count too). A statement '..UptoSaid' is the law's where the arguments, and the package variables that the reading takes, are together of bulk at most 1048576: NARROWER than '..Said'. Prove '..Said' where nothing that the law and all that it calls make is longer than what came in: it says more and counts as full. Else prove '..UptoSaid'. A law counts once. -/
mutual
def uptoBulk {H : Type} : DataW H → Nat
  | .lit (.string bytes) => bytes.length + 1
  | .lit _ => 1
  | .nil => 1
  | .ptr d => uptoBulk d + 1
  | .slice elems spare => uptoBulkAll elems + uptoBulkAll spare + 1
  | .agg parts => uptoBulkAll parts + 1
  | .iface _ d => uptoBulk d + 1
  | .map entries => uptoBulkEntries entries + 1
  | .held _ => 1
def uptoBulkAll {H : Type} : List (DataW H) → Nat
  | [] => 0
  | d :: r => uptoBulk d + uptoBulkAll r
def uptoBulkEntries {H : Type} : List (Lit × DataW H) → Nat
  | [] => 0
  | x :: r => uptoBulkEntry x + uptoBulkEntries r
def uptoBulkEntry {H : Type} : Lit × DataW H → Nat
  | (.string bytes, d) => bytes.length + uptoBulk d + 1
  | (_, d) => uptoBulk d + 1
 end
def uptoSmall : (H : Type) → List (DataW H) → Bool := fun _ ds => decide (uptoBulkAll ds ≤ 1048576)
def OpenSpec.upto (s : _root_.Go.ChangeSpec) : _root_.Go.OpenSpec := { _root_.Go.OpenSpec.ofChange s with cond := some uptoSmall }

/-- 'laws.FnReverseText', WHERE WHAT IT READS IS OF BULK AT MOST 1048576: true; the input reads as it did. -/
def fnReverseTextUptoRow : OpenClaim := { program := "ytbcccmoddbmffaadoor", sum := "f2e1a42ba563f71a88edccc44e853baf8a5589a90691620bda48f7d2c789a412", func := "given.example/pub-budwood/laws.FnReverseText", spec := "fnReverseText", named := ["unicode/utf8.first", "unicode/utf8.acceptRanges"], apart := false, laid := [("unicode/utf8.acceptRanges", laid_unicode_utf8_acceptRanges), ("unicode/utf8.first", laid_unicode_utf8_first)], narrowed := true }
def FnReverseTextUptoSaid : Prop := fnReverseTextUptoRow.holds Tryd.pinned (OpenSpec.upto fnReverseTextSpec)

/-- 'laws.FnInsertAt', WHERE WHAT IT READS IS OF BULK AT MOST 1048576: true; the input reads as it did. -/
def fnInsertAtUptoRow : OpenClaim := { program := "ytbcccmoddbmffaadoor", sum := "f2e1a42ba563f71a88edccc44e853baf8a5589a90691620bda48f7d2c789a412", func := "given.example/pub-budwood/laws.FnInsertAt", spec := "fnInsertAt", unfollowed := true, recurses := true, named := ["unicode/utf8.first", "unicode/utf8.acceptRanges"], apart := false, laid := [("unicode/utf8.acceptRanges", laid_unicode_utf8_acceptRanges), ("unicode/utf8.first", laid_unicode_utf8_first)], narrowed := true }
def FnInsertAtUptoSaid : Prop := fnInsertAtUptoRow.holds Tryd.pinned (OpenSpec.upto fnInsertAtSpec)

/-- 'laws.FnSliceInsert', WHERE WHAT IT READS IS OF BULK AT MOST 1048576: true; the input reads as it did. -/
def fnSliceInsertUptoRow : OpenClaim := { program := "ytbcccmoddbmffaadoor", sum := "f2e1a42ba563f71a88edccc44e853baf8a5589a90691620bda48f7d2c789a412", func := "given.example/pub-budwood/laws.FnSliceInsert", spec := "fnSliceInsert", unfollowed := true, recurses := true, named := ["unicode/utf8.first", "unicode/utf8.acceptRanges"], apart := false, laid := [("unicode/utf8.acceptRanges", laid_unicode_utf8_acceptRanges), ("unicode/utf8.first", laid_unicode_utf8_first)], narrowed := true }
def FnSliceInsertUptoSaid : Prop := fnSliceInsertUptoRow.holds Tryd.pinned (OpenSpec.upto fnSliceInsertSpec)

/-- 'laws.FnJustify', WHERE WHAT IT READS IS OF BULK AT MOST 1048576: true; the input reads as it did. -/
def fnJustifyUptoRow : OpenClaim := { program := "ytbcccmoddbmffaadoor", sum := "f2e1a42ba563f71a88edccc44e853baf8a5589a90691620bda48f7d2c789a412", func := "given.example/pub-budwood/laws.FnJustify", spec := "fnJustify", inPlace := ["internal/abi.NoEscape", "internal/bytealg.MakeNoZero"], named := ["unicode/utf8.first", "unicode/utf8.acceptRanges"], apart := false, laid := [("unicode/utf8.acceptRanges", laid_unicode_utf8_acceptRanges), ("unicode/utf8.first", laid_unicode_utf8_first)], narrowed := true }
def FnJustifyUptoSaid : Prop := fnJustifyUptoRow.holds Tryd.pinned (OpenSpec.upto fnJustifySpec)

/-- 'laws.FnTabs', WHERE WHAT IT READS IS OF BULK AT MOST 1048576: true; the input reads as it did. -/
def fnTabsUptoRow : OpenClaim := { program := "ytbcccmoddbmffaadoor", sum := "f2e1a42ba563f71a88edccc44e853baf8a5589a90691620bda48f7d2c789a412", func := "given.example/pub-budwood/laws.FnTabs", spec := "fnTabs", inPlace := ["internal/abi.NoEscape", "internal/bytealg.MakeNoZero"], unfollowed := true, recurses := true, named := ["unicode/utf8.first", "unicode/utf8.acceptRanges"], apart := false, laid := [("unicode/utf8.acceptRanges", laid_unicode_utf8_acceptRanges), ("unicode/utf8.first", laid_unicode_utf8_first)], narrowed := true }
def FnTabsUptoSaid : Prop := fnTabsUptoRow.holds Tryd.pinned (OpenSpec.upto fnTabsSpec)

/-- 'laws.FnWordsIn', WHERE WHAT IT READS IS OF BULK AT MOST 1048576: true; the input reads as it did. -/
def fnWordsInUptoRow : OpenClaim := { program := "ytbcccmoddbmffaadoor", sum := "f2e1a42ba563f71a88edccc44e853baf8a5589a90691620bda48f7d2c789a412", func := "given.example/pub-budwood/laws.FnWordsIn", spec := "fnWordsIn", named := ["unicode/utf8.first", "unicode/utf8.acceptRanges", "unicode.properties", "unicode.Letter"], apart := false, laid := [("unicode/utf8.acceptRanges", laid_unicode_utf8_acceptRanges), ("unicode.properties", laid_unicode_properties), ("unicode.Letter", laid_unicode_Letter), ("unicode/utf8.first", laid_unicode_utf8_first)], narrowed := true }
def FnWordsInUptoSaid : Prop := fnWordsInUptoRow.holds Tryd.pinned (OpenSpec.upto fnWordsInSpec)

/-- 'laws.FnSqueeze', WHERE WHAT IT READS IS OF BULK AT MOST 1048576: true; the input reads as it did. -/
def fnSqueezeUptoRow : OpenClaim := { program := "ytbcccmoddbmffaadoor", sum := "f2e1a42ba563f71a88edccc44e853baf8a5589a90691620bda48f7d2c789a412", func := "given.example/pub-budwood/laws.FnSqueeze", spec := "fnSqueeze", inPlace := ["internal/abi.NoEscape", "internal/bytealg.MakeNoZero"], unfollowed := true, recurses := true, named := ["unicode/utf8.first", "unicode/utf8.acceptRanges"], apart := false, laid := [("unicode/utf8.acceptRanges", laid_unicode_utf8_acceptRanges), ("unicode/utf8.first", laid_unicode_utf8_first)], narrowed := true }
def FnSqueezeUptoSaid : Prop := fnSqueezeUptoRow.holds Tryd.pinned (OpenSpec.upto fnSqueezeSpec)

/-- 'laws.FnPatterns', WHERE WHAT IT READS IS OF BULK AT MOST 1048576: true; the input reads as it did. -/
def fnPatternsUptoRow : OpenClaim := { program := "ytbcccmoddbmffaadoor", sum := "f2e1a42ba563f71a88edccc44e853baf8a5589a90691620bda48f7d2c789a412", func := "given.example/pub-budwood/laws.FnPatterns", spec := "fnPatterns", inPlace := ["internal/abi.NoEscape", "internal/bytealg.MakeNoZero"], unfollowed := true, recurses := true, named := ["unicode/utf8.first", "unicode/utf8.acceptRanges"], apart := false, laid := [("unicode/utf8.acceptRanges", laid_unicode_utf8_acceptRanges), ("unicode/utf8.first", laid_unicode_utf8_first)], narrowed := true }
def FnPatternsUptoSaid : Prop := fnPatternsUptoRow.holds Tryd.pinned (OpenSpec.upto fnPatternsSpec)

end Rows
end Go.Proofs.YtbcccmoddbmffaaDoor
