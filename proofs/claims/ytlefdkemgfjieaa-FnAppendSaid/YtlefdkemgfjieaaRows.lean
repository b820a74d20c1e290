/-
  NARROWER THAN 'FOR EVERY INPUT', by the rows' own cells (each row's printed sentence says how): FnTernary: loops · FnGet: loops · FnPluck: loops · FnDefault: loops · FnReverse: loops · FnAppend: loops · FnCompact: loops · FnKeys: loops · FnWithout: loops · FnChunk: loops.
  DERIVED. THE GIVEN ROWS OF THIS SEAT. 10 by the template 'for every input the law returns true; each argument reads behind the call as it read before'; 0 by the template 'total and deterministic' (their statements: YtlefdkemgfjieaaTotals.lean).
  GIVEN WITH THE SEED: the statements are not yours to turn. If you find one false, say at which input.
  Laid BY PROGRAM, IN A SANDBOX (cutbox-rows.mjs): the forced cells as the released guide's own fill.sh prints them over the translation ede9dbf89dbd66b9… (all of the seat's roots in one cut). By AI agents, Wed Nov 11 2026. No macro, syntax, notation, axiom, sorry.
-/
import Derived.Test.YtlefdkemgfjieaaChecked
import GoSem.Claim
import GoSem.ClaimJoined
import GoSem.ClaimMapViews
import Derived.JoinedTies
import Derived.KernelRfl
namespace Go.Proofs.Ytlefdkemgfjieaa
/- THE CELL 'sum', in the pinned program and in every row, IS THE sha256 OF THE DUMP (.gsa) THAT YtlefdkemgfjieaaProg.lean LOADS. Nothing in Lean hashes anything: it is a label: what it is worth is what the hold of that sum in a sandbox is worth. -/
noncomputable def Try.pinned : Pinned := { name := "ytlefdkemgfjieaa", sum := "ede9dbf89dbd66b988851bf4f77bd9ca3252d22067e16509aa51e90f30168700", checked := Try.checked }
namespace Rows
def none {H : Type} : Left H := { results := [], args := [] }

/-- 'laws.FnTernary': WHATEVER THE INPUT: true; the input reads as it did. -/
def fnTernarySpec : ChangeSpec := { name := "fnTernary", fn := fun _ => fun
  | [d1, d2, d3] => { results := [.lit (.bool true)], args := [d1, d2, d3] }
  | _ => none }
def fnTernaryRow : OpenClaim := { program := "ytlefdkemgfjieaa", sum := "ede9dbf89dbd66b988851bf4f77bd9ca3252d22067e16509aa51e90f30168700", func := "given.example/pub-budwood/laws.FnTernary", spec := "fnTernary", recurses := true, loops := true, apart := false }
def FnTernarySaid : Prop := fnTernaryRow.holds Try.pinned (OpenSpec.ofChange fnTernarySpec)

/-- ITS FALSE NEIGHBOUR: 'it returns false'. Refute it at one input. -/
def fnTernaryWrong : ChangeSpec := { name := "fnTernary", fn := fun _ => fun
  | [d1, d2, d3] => { results := [.lit (.bool false)], args := [d1, d2, d3] }
  | _ => none }
def FnTernaryWrongFalsely : Prop := fnTernaryRow.holds Try.pinned (OpenSpec.ofChange fnTernaryWrong)

/-- 'laws.FnGet': WHATEVER THE INPUT: true; the input reads as it did. -/
def fnGetSpec : ChangeSpec := { name := "fnGet", fn := fun _ => fun
  | [d1, d2] => { results := [.lit (.bool true)], args := [d1, d2] }
  | _ => none }
def fnGetRow : OpenClaim := { program := "ytlefdkemgfjieaa", sum := "ede9dbf89dbd66b988851bf4f77bd9ca3252d22067e16509aa51e90f30168700", func := "given.example/pub-budwood/laws.FnGet", spec := "fnGet", recurses := true, loops := true, apart := false }
def FnGetSaid : Prop := fnGetRow.holds Try.pinned (OpenSpec.ofChange fnGetSpec)

/-- ITS FALSE NEIGHBOUR: 'it returns false'. Refute it at one input. -/
def fnGetWrong : ChangeSpec := { name := "fnGet", fn := fun _ => fun
  | [d1, d2] => { results := [.lit (.bool false)], args := [d1, d2] }
  | _ => none }
def FnGetWrongFalsely : Prop := fnGetRow.holds Try.pinned (OpenSpec.ofChange fnGetWrong)

/-- 'laws.FnPluck': WHATEVER THE INPUT: true; the input reads as it did. -/
def fnPluckSpec : ChangeSpec := { name := "fnPluck", fn := fun _ => fun
  | [d1, d2] => { results := [.lit (.bool true)], args := [d1, d2] }
  | _ => none }
def fnPluckRow : OpenClaim := { program := "ytlefdkemgfjieaa", sum := "ede9dbf89dbd66b988851bf4f77bd9ca3252d22067e16509aa51e90f30168700", func := "given.example/pub-budwood/laws.FnPluck", spec := "fnPluck", recurses := true, loops := true, apart := false }
def FnPluckSaid : Prop := fnPluckRow.holds Try.pinned (OpenSpec.ofChange fnPluckSpec)

/-- ITS FALSE NEIGHBOUR: 'it returns false'. Refute it at one input. -/
def fnPluckWrong : ChangeSpec := { name := "fnPluck", fn := fun _ => fun
  | [d1, d2] => { results := [.lit (.bool false)], args := [d1, d2] }
  | _ => none }
def FnPluckWrongFalsely : Prop := fnPluckRow.holds Try.pinned (OpenSpec.ofChange fnPluckWrong)

/-- 'laws.FnDefault': WHATEVER THE INPUT: true; the input reads as it did. -/
def fnDefaultSpec : ChangeSpec := { name := "fnDefault", fn := fun _ => fun
  | [d1, d2] => { results := [.lit (.bool true)], args := [d1, d2] }
  | _ => none }
def fnDefaultRow : OpenClaim := { program := "ytlefdkemgfjieaa", sum := "ede9dbf89dbd66b988851bf4f77bd9ca3252d22067e16509aa51e90f30168700", func := "given.example/pub-budwood/laws.FnDefault", spec := "fnDefault", recurses := true, loops := true, apart := false }
def FnDefaultSaid : Prop := fnDefaultRow.holds Try.pinned (OpenSpec.ofChange fnDefaultSpec)

/-- ITS FALSE NEIGHBOUR: 'it returns false'. Refute it at one input. -/
def fnDefaultWrong : ChangeSpec := { name := "fnDefault", fn := fun _ => fun
  | [d1, d2] => { results := [.lit (.bool false)], args := [d1, d2] }
  | _ => none }
def FnDefaultWrongFalsely : Prop := fnDefaultRow.holds Try.pinned (OpenSpec.ofChange fnDefaultWrong)

/-- 'laws.FnReverse': WHATEVER THE INPUT: true; the input reads as it did. -/
def fnReverseSpec : ChangeSpec := { name := "fnReverse", fn := fun _ => fun
  | [d] => { results := [.lit (.bool true)], args := [d] }
  | _ => none }
def fnReverseRow : OpenClaim := { program := "ytlefdkemgfjieaa", sum := "ede9dbf89dbd66b988851bf4f77bd9ca3252d22067e16509aa51e90f30168700", func := "given.example/pub-budwood/laws.FnReverse", spec := "fnReverse", unfollowed := true, recurses := true, loops := true, apart := false }
def FnReverseSaid : Prop := fnReverseRow.holds Try.pinned (OpenSpec.ofChange fnReverseSpec)

/-- ITS FALSE NEIGHBOUR: 'it returns false'. Refute it at one input. -/
def fnReverseWrong : ChangeSpec := { name := "fnReverse", fn := fun _ => fun
  | [d] => { results := [.lit (.bool false)], args := [d] }
  | _ => none }
def FnReverseWrongFalsely : Prop := fnReverseRow.holds Try.pinned (OpenSpec.ofChange fnReverseWrong)

/-- 'laws.FnAppend': WHATEVER THE INPUT: true; the input reads as it did. -/
def fnAppendSpec : ChangeSpec := { name := "fnAppend", fn := fun _ => fun
  | [d1, d2] => { results := [.lit (.bool true)], args := [d1, d2] }
  | _ => none }
def fnAppendRow : OpenClaim := { program := "ytlefdkemgfjieaa", sum := "ede9dbf89dbd66b988851bf4f77bd9ca3252d22067e16509aa51e90f30168700", func := "given.example/pub-budwood/laws.FnAppend", spec := "fnAppend", unfollowed := true, recurses := true, loops := true, apart := false }
def FnAppendSaid : Prop := fnAppendRow.holds Try.pinned (OpenSpec.ofChange fnAppendSpec)

/-- ITS FALSE NEIGHBOUR: 'it returns false'. Refute it at one input. -/
def fnAppendWrong : ChangeSpec := { name := "fnAppend", fn := fun _ => fun
  | [d1, d2] => { results := [.lit (.bool false)], args := [d1, d2] }
  | _ => none }
def FnAppendWrongFalsely : Prop := fnAppendRow.holds Try.pinned (OpenSpec.ofChange fnAppendWrong)

/-- 'laws.FnCompact': WHATEVER THE INPUT: true; the input reads as it did. -/
def fnCompactSpec : ChangeSpec := { name := "fnCompact", fn := fun _ => fun
  | [d] => { results := [.lit (.bool true)], args := [d] }
  | _ => none }
def fnCompactRow : OpenClaim := { program := "ytlefdkemgfjieaa", sum := "ede9dbf89dbd66b988851bf4f77bd9ca3252d22067e16509aa51e90f30168700", func := "given.example/pub-budwood/laws.FnCompact", spec := "fnCompact", unfollowed := true, recurses := true, loops := true, apart := false }
def FnCompactSaid : Prop := fnCompactRow.holds Try.pinned (OpenSpec.ofChange fnCompactSpec)

/-- ITS FALSE NEIGHBOUR: 'it returns false'. Refute it at one input. -/
def fnCompactWrong : ChangeSpec := { name := "fnCompact", fn := fun _ => fun
  | [d] => { results := [.lit (.bool false)], args := [d] }
  | _ => none }
def FnCompactWrongFalsely : Prop := fnCompactRow.holds Try.pinned (OpenSpec.ofChange fnCompactWrong)

/-- 'laws.FnKeys': WHATEVER THE INPUT: true; the input reads as it did. -/
def fnKeysSpec : ChangeSpec := { name := "fnKeys", fn := fun _ => fun
  | [d] => { results := [.lit (.bool true)], args := [d] }
  | _ => none }
def fnKeysRow : OpenClaim := { program := "ytlefdkemgfjieaa", sum := "ede9dbf89dbd66b988851bf4f77bd9ca3252d22067e16509aa51e90f30168700", func := "given.example/pub-budwood/laws.FnKeys", spec := "fnKeys", recurses := true, loops := true, apart := false }
def FnKeysSaid : Prop := fnKeysRow.holds Try.pinned (OpenSpec.ofChange fnKeysSpec)

/-- ITS FALSE NEIGHBOUR: 'it returns false'. Refute it at one input. -/
def fnKeysWrong : ChangeSpec := { name := "fnKeys", fn := fun _ => fun
  | [d] => { results := [.lit (.bool false)], args := [d] }
  | _ => none }
def FnKeysWrongFalsely : Prop := fnKeysRow.holds Try.pinned (OpenSpec.ofChange fnKeysWrong)

/-- 'laws.FnWithout': WHATEVER THE INPUT: true; the input reads as it did. -/
def fnWithoutSpec : ChangeSpec := { name := "fnWithout", fn := fun _ => fun
  | [d1, d2] => { results := [.lit (.bool true)], args := [d1, d2] }
  | _ => none }
def fnWithoutRow : OpenClaim := { program := "ytlefdkemgfjieaa", sum := "ede9dbf89dbd66b988851bf4f77bd9ca3252d22067e16509aa51e90f30168700", func := "given.example/pub-budwood/laws.FnWithout", spec := "fnWithout", recurses := true, loops := true, apart := false }
def FnWithoutSaid : Prop := fnWithoutRow.holds Try.pinned (OpenSpec.ofChange fnWithoutSpec)

/-- ITS FALSE NEIGHBOUR: 'it returns false'. Refute it at one input. -/
def fnWithoutWrong : ChangeSpec := { name := "fnWithout", fn := fun _ => fun
  | [d1, d2] => { results := [.lit (.bool false)], args := [d1, d2] }
  | _ => none }
def FnWithoutWrongFalsely : Prop := fnWithoutRow.holds Try.pinned (OpenSpec.ofChange fnWithoutWrong)

/-- 'laws.FnChunk': WHATEVER THE INPUT: true; the input reads as it did. -/
def fnChunkSpec : ChangeSpec := { name := "fnChunk", fn := fun _ => fun
  | [d1, d2] => { results := [.lit (.bool true)], args := [d1, d2] }
  | _ => none }
def fnChunkRow : OpenClaim := { program := "ytlefdkemgfjieaa", sum := "ede9dbf89dbd66b988851bf4f77bd9ca3252d22067e16509aa51e90f30168700", func := "given.example/pub-budwood/laws.FnChunk", spec := "fnChunk", inPlace := ["math.archFloor", "math.Float64bits", "math.Float64frombits", "math.archTrunc"], recurses := true, loops := true, apart := false }
def FnChunkSaid : Prop := fnChunkRow.holds Try.pinned (OpenSpec.ofChange fnChunkSpec)

/-- ITS FALSE NEIGHBOUR: 'it returns false'. Refute it at one input. -/
def fnChunkWrong : ChangeSpec := { name := "fnChunk", fn := fun _ => fun
  | [d1, d2] => { results := [.lit (.bool false)], args := [d1, d2] }
  | _ => none }
def FnChunkWrongFalsely : Prop := fnChunkRow.holds Try.pinned (OpenSpec.ofChange fnChunkWrong)

/- THE SECOND FORM. 'bulk': how many values and letters a reading holds, each counted each time it is reached (what is shared counts as often as it is met; a slice's spare places count too). A statement '..UptoSaid' is the law's where the arguments, and the package variables that the reading takes, are together of bulk at most 1048576: NARROWER than '..Said'. Prove '..Said' where nothing that the law and all that it calls make is longer than what came in: it says more and counts as full. Else prove '..UptoSaid'. A law counts once. -/
mutual
def uptoBulk {H : Type} : DataW H → Nat
  | .lit (.string bytes) => bytes.length + 1
  | .lit _ => 1
  | .nil => 1
  | .ptr d => uptoBulk d + 1
  | .slice elems spare => uptoBulkAll elems + uptoBulkAll spare + 1
  | .agg parts => uptoBulkAll parts + 1
  | .iface _ d => uptoBulk d + 1
  | .map entries => uptoBulkEntries entries + 1
  | .held _ => 1
def uptoBulkAll {H : Type} : List (DataW H) → Nat
  | [] => 0
  | d :: r => uptoBulk d + uptoBulkAll r
def uptoBulkEntries {H : Type} : List (Lit × DataW H) → Nat
  | [] => 0
  | x :: r => uptoBulkEntry x + uptoBulkEntries r
def uptoBulkEntry {H : Type} : Lit × DataW H → Nat
  | (.string bytes, d) => bytes.length + uptoBulk d + 1
  | (_, d) => uptoBulk d + 1
 end
def uptoSmall : (H : Type) → List (DataW H) → Bool := fun _ ds => decide (uptoBulkAll ds ≤ 1048576)
def OpenSpec.upto (s : _root_.Go.ChangeSpec) : _root_.Go.OpenSpec := { _root_.Go.OpenSpec.ofChange s with cond := some uptoSmall }

/-- 'laws.FnTernary', WHERE WHAT IT READS IS OF BULK AT MOST 1048576: true; the input reads as it did. -/
def fnTernaryUptoRow : OpenClaim := { program := "ytlefdkemgfjieaa", sum := "ede9dbf89dbd66b988851bf4f77bd9ca3252d22067e16509aa51e90f30168700", func := "given.example/pub-budwood/laws.FnTernary", spec := "fnTernary", recurses := true, loops := true, apart := false, narrowed := true }
def FnTernaryUptoSaid : Prop := fnTernaryUptoRow.holds Try.pinned (OpenSpec.upto fnTernarySpec)

/-- 'laws.FnGet', WHERE WHAT IT READS IS OF BULK AT MOST 1048576: true; the input reads as it did. -/
def fnGetUptoRow : OpenClaim := { program := "ytlefdkemgfjieaa", sum := "ede9dbf89dbd66b988851bf4f77bd9ca3252d22067e16509aa51e90f30168700", func := "given.example/pub-budwood/laws.FnGet", spec := "fnGet", recurses := true, loops := true, apart := false, narrowed := true }
def FnGetUptoSaid : Prop := fnGetUptoRow.holds Try.pinned (OpenSpec.upto fnGetSpec)

/-- 'laws.FnPluck', WHERE WHAT IT READS IS OF BULK AT MOST 1048576: true; the input reads as it did. -/
def fnPluckUptoRow : OpenClaim := { program := "ytlefdkemgfjieaa", sum := "ede9dbf89dbd66b988851bf4f77bd9ca3252d22067e16509aa51e90f30168700", func := "given.example/pub-budwood/laws.FnPluck", spec := "fnPluck", recurses := true, loops := true, apart := false, narrowed := true }
def FnPluckUptoSaid : Prop := fnPluckUptoRow.holds Try.pinned (OpenSpec.upto fnPluckSpec)

/-- 'laws.FnDefault', WHERE WHAT IT READS IS OF BULK AT MOST 1048576: true; the input reads as it did. -/
def fnDefaultUptoRow : OpenClaim := { program := "ytlefdkemgfjieaa", sum := "ede9dbf89dbd66b988851bf4f77bd9ca3252d22067e16509aa51e90f30168700", func := "given.example/pub-budwood/laws.FnDefault", spec := "fnDefault", recurses := true, loops := true, apart := false, narrowed := true }
def FnDefaultUptoSaid : Prop := fnDefaultUptoRow.holds Try.pinned (OpenSpec.upto fnDefaultSpec)

/-- 'laws.FnReverse', WHERE WHAT IT READS IS OF BULK AT MOST 1048576: true; the input reads as it did. -/
def fnReverseUptoRow : OpenClaim := { program := "ytlefdkemgfjieaa", sum := "ede9dbf89dbd66b988851bf4f77bd9ca3252d22067e16509aa51e90f30168700", func := "given.example/pub-budwood/laws.FnReverse", spec := "fnReverse", unfollowed := true, recurses := true, loops := true, apart := false, narrowed := true }
def FnReverseUptoSaid : Prop := fnReverseUptoRow.holds Try.pinned (OpenSpec.upto fnReverseSpec)

/-- 'laws.FnAppend', WHERE WHAT IT READS IS OF BULK AT MOST 1048576: true; the input reads as it did. -/
def fnAppendUptoRow : OpenClaim := { program := "ytlefdkemgfjieaa", sum := "ede9dbf89dbd66b988851bf4f77bd9ca3252d22067e16509aa51e90f30168700", func := "given.example/pub-budwood/laws.FnAppend", spec := "fnAppend", unfollowed := true, recurses := true, loops := true, apart := false, narrowed := true }
def FnAppendUptoSaid : Prop := fnAppendUptoRow.holds Try.pinned (OpenSpec.upto fnAppendSpec)

/-- 'laws.FnCompact', WHERE WHAT IT READS IS OF BULK AT MOST 1048576: true; the input reads as it did. -/
def fnCompactUptoRow : OpenClaim := { program := "ytlefdkemgfjieaa", sum := "ede9dbf89dbd66b988851bf4f77bd9ca3252d22067e16509aa51e90f30168700", func := "given.example/pub-budwood/laws.FnCompact", spec := "fnCompact", unfollowed := true, recurses := true, loops := true, apart := false, narrowed := true }
def FnCompactUptoSaid : Prop := fnCompactUptoRow.holds Try.pinned (OpenSpec.upto fnCompactSpec)

/-- 'laws.FnKeys', WHERE WHAT IT READS IS OF BULK AT MOST 1048576: true; the input reads as it did. -/
def fnKeysUptoRow : OpenClaim := { program := "ytlefdkemgfjieaa", sum := "ede9dbf89dbd66b988851bf4f77bd9ca3252d22067e16509aa51e90f30168700", func := "given.example/pub-budwood/laws.FnKeys", spec := "fnKeys", recurses := true, loops := true, apart := false, narrowed := true }
def FnKeysUptoSaid : Prop := fnKeysUptoRow.holds Try.pinned (OpenSpec.upto fnKeysSpec)

/-- 'laws.FnWithout', WHERE WHAT IT READS IS OF BULK AT MOST 1048576: true; the input reads as it did. -/
def fnWithoutUptoRow : OpenClaim := { program := "ytlefdkemgfjieaa", sum := "ede9dbf89dbd66b988851bf4f77bd9ca3252d22067e16509aa51e90f30168700", func := "given.example/pub-budwood/laws.FnWithout", spec := "fnWithout", recurses := true, loops := true, apart := false, narrowed := true }
def FnWithoutUptoSaid : Prop := fnWithoutUptoRow.holds Try.pinned (OpenSpec.upto fnWithoutSpec)

/-- 'laws.FnChunk', WHERE WHAT IT READS IS OF BULK AT MOST 1048576: true; the input reads as it did. -/
def fnChunkUptoRow : OpenClaim := { program := "ytlefdkemgfjieaa", sum := "ede9dbf89dbd66b988851bf4f77bd9ca3252d22067e16509aa51e90f30168700", func := "given.example/pub-budwood/laws.FnChunk", spec := "fnChunk", inPlace := ["math.archFloor", "math.Float64bits", "math.Float64frombits", "math.archTrunc"], recurses := true, loops := true, apart := false, narrowed := true }
def FnChunkUptoSaid : Prop := fnChunkUptoRow.holds Try.pinned (OpenSpec.upto fnChunkSpec)

end Rows
end Go.Proofs.Ytlefdkemgfjieaa
