/-
  NARROWER THAN 'FOR EVERY INPUT', by the rows' own cells (each row's printed sentence says how): FnWithout: loops · FnKeys: loops · FnChunk: loops.
  DERIVED. THE GIVEN ROWS OF THIS SEAT. 3 by the template 'for every input the law returns true; each argument reads behind the call as it read before'; 0 by the template 'total and deterministic' (their statements: YtffkinonnkbcpaaTotals.lean).
  GIVEN WITH THE SEED: the statements are not yours to turn. If you find one false, say at which input.
  Laid BY PROGRAM, IN A SANDBOX (cutbox-rows.mjs): the forced cells as the released guide's own fill.sh prints them over the translation 0362d8b6a8615895… (all of the seat's roots in one cut). By AI agents, Wed Nov 11 2026. No macro, syntax, notation, axiom, sorry.
-/
import Derived.Test.YtffkinonnkbcpaaChecked
import GoSem.Claim
import GoSem.ClaimJoined
import GoSem.ClaimMapViews
import Derived.JoinedTies
import Derived.KernelRfl
namespace Go.Proofs.Ytffkinonnkbcpaa
/- THE CELL 'sum', in the pinned program and in every row, IS THE sha256 OF THE DUMP (.gsa) THAT YtffkinonnkbcpaaProg.lean LOADS. Nothing in Lean hashes anything: it is a label: what it is worth is what the hold of that sum in a sandbox is worth. -/
noncomputable def Try.pinned : Pinned := { name := "ytffkinonnkbcpaa", sum := "0362d8b6a8615895cbfc65a9fa78f0899b12c1acf7d15a24d2c579aa8210018d", checked := Try.checked }
namespace Rows
def none {H : Type} : Left H := { results := [], args := [] }

/-- 'laws.FnWithout': WHATEVER THE INPUT: true; the input reads as it did. -/
def fnWithoutSpec : ChangeSpec := { name := "fnWithout", fn := fun _ => fun
  | [d1, d2] => { results := [.lit (.bool true)], args := [d1, d2] }
  | _ => none }
def fnWithoutRow : OpenClaim := { program := "ytffkinonnkbcpaa", sum := "0362d8b6a8615895cbfc65a9fa78f0899b12c1acf7d15a24d2c579aa8210018d", func := "given.example/pub-budwood/laws.FnWithout", spec := "fnWithout", recurses := true, loops := true, apart := false }
def FnWithoutSaid : Prop := fnWithoutRow.holds Try.pinned (OpenSpec.ofChange fnWithoutSpec)

/-- ITS FALSE NEIGHBOUR: 'it returns false'. Refute it at one input. -/
def fnWithoutWrong : ChangeSpec := { name := "fnWithout", fn := fun _ => fun
  | [d1, d2] => { results := [.lit (.bool false)], args := [d1, d2] }
  | _ => none }
def FnWithoutWrongFalsely : Prop := fnWithoutRow.holds Try.pinned (OpenSpec.ofChange fnWithoutWrong)

/-- 'laws.FnKeys': WHATEVER THE INPUT: true; the input reads as it did. -/
def fnKeysSpec : ChangeSpec := { name := "fnKeys", fn := fun _ => fun
  | [d] => { results := [.lit (.bool true)], args := [d] }
  | _ => none }
def fnKeysRow : OpenClaim := { program := "ytffkinonnkbcpaa", sum := "0362d8b6a8615895cbfc65a9fa78f0899b12c1acf7d15a24d2c579aa8210018d", func := "given.example/pub-budwood/laws.FnKeys", spec := "fnKeys", recurses := true, loops := true, apart := false }
def FnKeysSaid : Prop := fnKeysRow.holds Try.pinned (OpenSpec.ofChange fnKeysSpec)

/-- ITS FALSE NEIGHBOUR: 'it returns false'. Refute it at one input. -/
def fnKeysWrong : ChangeSpec := { name := "fnKeys", fn := fun _ => fun
  | [d] => { results := [.lit (.bool false)], args := [d] }
  | _ => none }
def FnKeysWrongFalsely : Prop := fnKeysRow.holds Try.pinned (OpenSpec.ofChange fnKeysWrong)

/-- 'laws.FnChunk': WHATEVER THE INPUT: true; the input reads as it did. -/
def fnChunkSpec : ChangeSpec := { name := "fnChunk", fn := fun _ => fun
  | [d1, d2] => { results := [.lit (.bool true)], args := [d1, d2] }
  | _ => none }
def fnChunkRow : OpenClaim := { program := "ytffkinonnkbcpaa", sum := "0362d8b6a8615895cbfc65a9fa78f0899b12c1acf7d15a24d2c579aa8210018d", func := "given.example/pub-budwood/laws.FnChunk", spec := "fnChunk", inPlace := ["math.archFloor", "math.Float64bits", "math.Float64frombits", "math.archTrunc"], recurses := true, loops := true, apart := false }
def FnChunkSaid : Prop := fnChunkRow.holds Try.pinned (OpenSpec.ofChange fnChunkSpec)

/-- ITS FALSE NEIGHBOUR: 'it returns false'. Refute it at one input. -/
def fnChunkWrong : ChangeSpec := { name := "fnChunk", fn := fun _ => fun
  | [d1, d2] => { results := [.lit (.bool false)], args := [d1, d2] }
  | _ => none }
def FnChunkWrongFalsely : Prop := fnChunkRow.holds Try.pinned (OpenSpec.ofChange fnChunkWrong)

/- THE SECOND FORM. 'bulk': how many values and letters a reading holds, each counted each time it is reached (what is shared counts as often as it is met; a slice's spare places count too). A statement '..UptoSaid' is the law's where the arguments, and the package variables that the reading takes, are together of bulk at most 1048576: NARROWER than '..Said'. Prove '..Said' where nothing that the law and all that it calls make is longer than what came in: it says more and counts as full. Else prove '..UptoSaid'. A law counts once. -/
mutual
def uptoBulk {H : Type} : DataW H → Nat
  | .lit (.string bytes) => bytes.length + 1
  | .lit _ => 1
  | .nil => 1
  | .ptr d => uptoBulk d + 1
  | .slice elems spare => uptoBulkAll elems + uptoBulkAll spare + 1
  | .agg parts => uptoBulkAll parts + 1
  | .iface _ d => uptoBulk d + 1
  | .map entries => uptoBulkEntries entries + 1
  | .held _ => 1
def uptoBulkAll {H : Type} : List (DataW H) → Nat
  | [] => 0
  | d :: r => uptoBulk d + uptoBulkAll r
def uptoBulkEntries {H : Type} : List (Lit × DataW H) → Nat
  | [] => 0
  | x :: r => uptoBulkEntry x + uptoBulkEntries r
def uptoBulkEntry {H : Type} : Lit × DataW H → Nat
  | (.string bytes, d) => bytes.length + uptoBulk d + 1
  | (_, d) => uptoBulk d + 1
 end
def uptoSmall : (H : Type) → List (DataW H) → Bool := fun _ ds => decide (uptoBulkAll ds ≤ 1048576)
def OpenSpec.upto (s : _root_.Go.ChangeSpec) : _root_.Go.OpenSpec := { _root_.Go.OpenSpec.ofChange s with cond := some uptoSmall }

/-- 'laws.FnWithout', WHERE WHAT IT READS IS OF BULK AT MOST 1048576: true; the input reads as it did. -/
def fnWithoutUptoRow : OpenClaim := { program := "ytffkinonnkbcpaa", sum := "0362d8b6a8615895cbfc65a9fa78f0899b12c1acf7d15a24d2c579aa8210018d", func := "given.example/pub-budwood/laws.FnWithout", spec := "fnWithout", recurses := true, loops := true, apart := false, narrowed := true }
def FnWithoutUptoSaid : Prop := fnWithoutUptoRow.holds Try.pinned (OpenSpec.upto fnWithoutSpec)

/-- 'laws.FnKeys', WHERE WHAT IT READS IS OF BULK AT MOST 1048576: true; the input reads as it did. -/
def fnKeysUptoRow : OpenClaim := { program := "ytffkinonnkbcpaa", sum := "0362d8b6a8615895cbfc65a9fa78f0899b12c1acf7d15a24d2c579aa8210018d", func := "given.example/pub-budwood/laws.FnKeys", spec := "fnKeys", recurses := true, loops := true, apart := false, narrowed := true }
def FnKeysUptoSaid : Prop := fnKeysUptoRow.holds Try.pinned (OpenSpec.upto fnKeysSpec)

/-- 'laws.FnChunk', WHERE WHAT IT READS IS OF BULK AT MOST 1048576: true; the input reads as it did. -/
def fnChunkUptoRow : OpenClaim := { program := "ytffkinonnkbcpaa", sum := "0362d8b6a8615895cbfc65a9fa78f0899b12c1acf7d15a24d2c579aa8210018d", func := "given.example/pub-budwood/laws.FnChunk", spec := "fnChunk", inPlace := ["math.archFloor", "math.Float64bits", "math.Float64frombits", "math.archTrunc"], recurses := true, loops := true, apart := false, narrowed := true }
def FnChunkUptoSaid : Prop := fnChunkUptoRow.holds Try.pinned (OpenSpec.upto fnChunkSpec)

end Rows
end Go.Proofs.Ytffkinonnkbcpaa
