/-
  No cell of these rows narrows 'for every input' (looked for: loops, veiled, ifaces, maps, wideKeys, modest, calm, conditions, laid).
  DERIVED. THE GIVEN ROWS OF THIS SEAT. 6 by the template 'for every input the law returns true; each argument reads behind the call as it read before'; 0 by the template 'total and deterministic' (their statements: YtfnogloefimeiaaTotals.lean).
  GIVEN WITH THE SEED: the statements are not yours to turn. If you find one false, say at which input.
  Laid BY PROGRAM, IN A SANDBOX (cutbox-rows.mjs): the forced cells as the released guide's own fill.sh prints them over the translation e12d237886e1051f… (all of the seat's roots in one cut). By AI agents, Wed Nov 11 2026. No macro, syntax, notation, axiom, sorry.
-/
import Derived.Test.YtfnogloefimeiaaChecked
import GoSem.Claim
import GoSem.ClaimJoined
import GoSem.ClaimMapViews
import Derived.JoinedTies
import Derived.KernelRfl
namespace Go.Proofs.Ytfnogloefimeiaa
/- THE CELL 'sum', in the pinned program and in every row, IS THE sha256 OF THE DUMP (.gsa) THAT YtfnogloefimeiaaProg.lean LOADS. Nothing in Lean hashes anything: it is a label: what it is worth is what the hold of that sum in a sandbox is worth. -/
noncomputable def Try.pinned : Pinned := { name := "ytfnogloefimeiaa", sum := "e12d237886e1051fdf76cd6ff02b8c41f488aecf75e0dcb39ff077b79b19f2ba", checked := Try.checked }
namespace Rows
def none {H : Type} : Left H := { results := [], args := [] }

/-- 'laws.FnTrimPrefix': WHATEVER THE INPUT: true; the input reads as it did. -/
def fnTrimPrefixSpec : ChangeSpec := { name := "fnTrimPrefix", fn := fun _ => fun
  | [d1, d2] => { results := [.lit (.bool true)], args := [d1, d2] }
  | _ => none }
def fnTrimPrefixRow : OpenClaim := { program := "ytfnogloefimeiaa", sum := "e12d237886e1051fdf76cd6ff02b8c41f488aecf75e0dcb39ff077b79b19f2ba", func := "given.example/pub-budwood/laws.FnTrimPrefix", spec := "fnTrimPrefix", apart := false }
def FnTrimPrefixSaid : Prop := fnTrimPrefixRow.holds Try.pinned (OpenSpec.ofChange fnTrimPrefixSpec)

/-- ITS FALSE NEIGHBOUR: 'it returns false'. Refute it at one input. -/
def fnTrimPrefixWrong : ChangeSpec := { name := "fnTrimPrefix", fn := fun _ => fun
  | [d1, d2] => { results := [.lit (.bool false)], args := [d1, d2] }
  | _ => none }
def FnTrimPrefixWrongFalsely : Prop := fnTrimPrefixRow.holds Try.pinned (OpenSpec.ofChange fnTrimPrefixWrong)

/-- 'laws.FnTruncBoth': WHATEVER THE INPUT: true; the input reads as it did. -/
def fnTruncBothSpec : ChangeSpec := { name := "fnTruncBoth", fn := fun _ => fun
  | [d1, d2] => { results := [.lit (.bool true)], args := [d1, d2] }
  | _ => none }
def fnTruncBothRow : OpenClaim := { program := "ytfnogloefimeiaa", sum := "e12d237886e1051fdf76cd6ff02b8c41f488aecf75e0dcb39ff077b79b19f2ba", func := "given.example/pub-budwood/laws.FnTruncBoth", spec := "fnTruncBoth", unfollowed := true, recurses := true, apart := false }
def FnTruncBothSaid : Prop := fnTruncBothRow.holds Try.pinned (OpenSpec.ofChange fnTruncBothSpec)

/-- ITS FALSE NEIGHBOUR: 'it returns false'. Refute it at one input. -/
def fnTruncBothWrong : ChangeSpec := { name := "fnTruncBoth", fn := fun _ => fun
  | [d1, d2] => { results := [.lit (.bool false)], args := [d1, d2] }
  | _ => none }
def FnTruncBothWrongFalsely : Prop := fnTruncBothRow.holds Try.pinned (OpenSpec.ofChange fnTruncBothWrong)

/-- 'laws.FnHolds': WHATEVER THE INPUT: true; the input reads as it did. -/
def fnHoldsSpec : ChangeSpec := { name := "fnHolds", fn := fun _ => fun
  | [d1, d2] => { results := [.lit (.bool true)], args := [d1, d2] }
  | _ => none }
def fnHoldsRow : OpenClaim := { program := "ytfnogloefimeiaa", sum := "e12d237886e1051fdf76cd6ff02b8c41f488aecf75e0dcb39ff077b79b19f2ba", func := "given.example/pub-budwood/laws.FnHolds", spec := "fnHolds", apart := false }
def FnHoldsSaid : Prop := fnHoldsRow.holds Try.pinned (OpenSpec.ofChange fnHoldsSpec)

/-- ITS FALSE NEIGHBOUR: 'it returns false'. Refute it at one input. -/
def fnHoldsWrong : ChangeSpec := { name := "fnHolds", fn := fun _ => fun
  | [d1, d2] => { results := [.lit (.bool false)], args := [d1, d2] }
  | _ => none }
def FnHoldsWrongFalsely : Prop := fnHoldsRow.holds Try.pinned (OpenSpec.ofChange fnHoldsWrong)

/-- 'laws.FnCleanTwice': WHATEVER THE INPUT: true; the input reads as it did. -/
def fnCleanTwiceSpec : ChangeSpec := { name := "fnCleanTwice", fn := fun _ => fun
  | [d1, d2] => { results := [.lit (.bool true)], args := [d1, d2] }
  | _ => none }
def fnCleanTwiceRow : OpenClaim := { program := "ytfnogloefimeiaa", sum := "e12d237886e1051fdf76cd6ff02b8c41f488aecf75e0dcb39ff077b79b19f2ba", func := "given.example/pub-budwood/laws.FnCleanTwice", spec := "fnCleanTwice", apart := false }
def FnCleanTwiceSaid : Prop := fnCleanTwiceRow.holds Try.pinned (OpenSpec.ofChange fnCleanTwiceSpec)

/-- ITS FALSE NEIGHBOUR: 'it returns false'. Refute it at one input. -/
def fnCleanTwiceWrong : ChangeSpec := { name := "fnCleanTwice", fn := fun _ => fun
  | [d1, d2] => { results := [.lit (.bool false)], args := [d1, d2] }
  | _ => none }
def FnCleanTwiceWrongFalsely : Prop := fnCleanTwiceRow.holds Try.pinned (OpenSpec.ofChange fnCleanTwiceWrong)

/-- 'laws.FnRepeat': WHATEVER THE INPUT: true; the input reads as it did. -/
def fnRepeatSpec : ChangeSpec := { name := "fnRepeat", fn := fun _ => fun
  | [d1, d2] => { results := [.lit (.bool true)], args := [d1, d2] }
  | _ => none }
def fnRepeatRow : OpenClaim := { program := "ytfnogloefimeiaa", sum := "e12d237886e1051fdf76cd6ff02b8c41f488aecf75e0dcb39ff077b79b19f2ba", func := "given.example/pub-budwood/laws.FnRepeat", spec := "fnRepeat", inPlace := ["internal/abi.NoEscape", "internal/bytealg.MakeNoZero"], unfollowed := true, recurses := true, apart := false }
def FnRepeatSaid : Prop := fnRepeatRow.holds Try.pinned (OpenSpec.ofChange fnRepeatSpec)

/-- ITS FALSE NEIGHBOUR: 'it returns false'. Refute it at one input. -/
def fnRepeatWrong : ChangeSpec := { name := "fnRepeat", fn := fun _ => fun
  | [d1, d2] => { results := [.lit (.bool false)], args := [d1, d2] }
  | _ => none }
def FnRepeatWrongFalsely : Prop := fnRepeatRow.holds Try.pinned (OpenSpec.ofChange fnRepeatWrong)

/-- 'laws.FnBase32': WHATEVER THE INPUT: true; the input reads as it did. -/
def fnBase32Spec : ChangeSpec := { name := "fnBase32", fn := fun _ => fun
  | [d] => { results := [.lit (.bool true)], args := [d] }
  | _ => none }
def fnBase32Row : OpenClaim := { program := "ytfnogloefimeiaa", sum := "e12d237886e1051fdf76cd6ff02b8c41f488aecf75e0dcb39ff077b79b19f2ba", func := "given.example/pub-budwood/laws.FnBase32", spec := "fnBase32", unfollowed := true, recurses := true, apart := false }
def FnBase32Said : Prop := fnBase32Row.holds Try.pinned (OpenSpec.ofChange fnBase32Spec)

/-- ITS FALSE NEIGHBOUR: 'it returns false'. Refute it at one input. -/
def fnBase32Wrong : ChangeSpec := { name := "fnBase32", fn := fun _ => fun
  | [d] => { results := [.lit (.bool false)], args := [d] }
  | _ => none }
def FnBase32WrongFalsely : Prop := fnBase32Row.holds Try.pinned (OpenSpec.ofChange fnBase32Wrong)

/- THE SECOND FORM. 'bulk': how many values and letters a reading holds, each counted each time it is reached (what is shared counts as often as it is met; a slice's spare places count too). A statement '..UptoSaid' is the law's where the arguments, and the package variables that the reading takes, are together of bulk at most 1048576: NARROWER than '..Said'. Prove '..Said' where nothing that the law and all that it calls make is longer than what came in: it says more and counts as full. Else prove '..UptoSaid'. A law counts once. -/
mutual
def uptoBulk {H : Type} : DataW H → Nat
  | .lit (.string bytes) => bytes.length + 1
  | .lit _ => 1
  | .nil => 1
  | .ptr d => uptoBulk d + 1
  | .slice elems spare => uptoBulkAll elems + uptoBulkAll spare + 1
  | .agg parts => uptoBulkAll parts + 1
  | .iface _ d => uptoBulk d + 1
  | .map entries => uptoBulkEntries entries + 1
  | .held _ => 1
def uptoBulkAll {H : Type} : List (DataW H) → Nat
  | [] => 0
  | d :: r => uptoBulk d + uptoBulkAll r
def uptoBulkEntries {H : Type} : List (Lit × DataW H) → Nat
  | [] => 0
  | x :: r => uptoBulkEntry x + uptoBulkEntries r
def uptoBulkEntry {H : Type} : Lit × DataW H → Nat
  | (.string bytes, d) => bytes.length + uptoBulk d + 1
  | (_, d) => uptoBulk d + 1
 end
def uptoSmall : (H : Type) → List (DataW H) → Bool := fun _ ds => decide (uptoBulkAll ds ≤ 1048576)
def OpenSpec.upto (s : _root_.Go.ChangeSpec) : _root_.Go.OpenSpec := { _root_.Go.OpenSpec.ofChange s with cond := some uptoSmall }

/-- 'laws.FnTrimPrefix', WHERE WHAT IT READS IS OF BULK AT MOST 1048576: true; the input reads as it did. -/
def fnTrimPrefixUptoRow : OpenClaim := { program := "ytfnogloefimeiaa", sum := "e12d237886e1051fdf76cd6ff02b8c41f488aecf75e0dcb39ff077b79b19f2ba", func := "given.example/pub-budwood/laws.FnTrimPrefix", spec := "fnTrimPrefix", apart := false, narrowed := true }
def FnTrimPrefixUptoSaid : Prop := fnTrimPrefixUptoRow.holds Try.pinned (OpenSpec.upto fnTrimPrefixSpec)

/-- 'laws.FnTruncBoth', WHERE WHAT IT READS IS OF BULK AT MOST 1048576: true; the input reads as it did. -/
def fnTruncBothUptoRow : OpenClaim := { program := "ytfnogloefimeiaa", sum := "e12d237886e1051fdf76cd6ff02b8c41f488aecf75e0dcb39ff077b79b19f2ba", func := "given.example/pub-budwood/laws.FnTruncBoth", spec := "fnTruncBoth", unfollowed := true, recurses := true, apart := false, narrowed := true }
def FnTruncBothUptoSaid : Prop := fnTruncBothUptoRow.holds Try.pinned (OpenSpec.upto fnTruncBothSpec)

/-- 'laws.FnHolds', WHERE WHAT IT READS IS OF BULK AT MOST 1048576: true; the input reads as it did. -/
def fnHoldsUptoRow : OpenClaim := { program := "ytfnogloefimeiaa", sum := "e12d237886e1051fdf76cd6ff02b8c41f488aecf75e0dcb39ff077b79b19f2ba", func := "given.example/pub-budwood/laws.FnHolds", spec := "fnHolds", apart := false, narrowed := true }
def FnHoldsUptoSaid : Prop := fnHoldsUptoRow.holds Try.pinned (OpenSpec.upto fnHoldsSpec)

/-- 'laws.FnCleanTwice', WHERE WHAT IT READS IS OF BULK AT MOST 1048576: true; the input reads as it did. -/
def fnCleanTwiceUptoRow : OpenClaim := { program := "ytfnogloefimeiaa", sum := "e12d237886e1051fdf76cd6ff02b8c41f488aecf75e0dcb39ff077b79b19f2ba", func := "given.example/pub-budwood/laws.FnCleanTwice", spec := "fnCleanTwice", apart := false, narrowed := true }
def FnCleanTwiceUptoSaid : Prop := fnCleanTwiceUptoRow.holds Try.pinned (OpenSpec.upto fnCleanTwiceSpec)

/-- 'laws.FnRepeat', WHERE WHAT IT READS IS OF BULK AT MOST 1048576: true; the input reads as it did. -/
def fnRepeatUptoRow : OpenClaim := { program := "ytfnogloefimeiaa", sum := "e12d237886e1051fdf76cd6ff02b8c41f488aecf75e0dcb39ff077b79b19f2ba", func := "given.example/pub-budwood/laws.FnRepeat", spec := "fnRepeat", inPlace := ["internal/abi.NoEscape", "internal/bytealg.MakeNoZero"], unfollowed := true, recurses := true, apart := false, narrowed := true }
def FnRepeatUptoSaid : Prop := fnRepeatUptoRow.holds Try.pinned (OpenSpec.upto fnRepeatSpec)

/-- 'laws.FnBase32', WHERE WHAT IT READS IS OF BULK AT MOST 1048576: true; the input reads as it did. -/
def fnBase32UptoRow : OpenClaim := { program := "ytfnogloefimeiaa", sum := "e12d237886e1051fdf76cd6ff02b8c41f488aecf75e0dcb39ff077b79b19f2ba", func := "given.example/pub-budwood/laws.FnBase32", spec := "fnBase32", unfollowed := true, recurses := true, apart := false, narrowed := true }
def FnBase32UptoSaid : Prop := fnBase32UptoRow.holds Try.pinned (OpenSpec.upto fnBase32Spec)

end Rows
end Go.Proofs.Ytfnogloefimeiaa
