/- impl.Ternary: one of two values. -/
import Derived.Test.YtffkinonnkbcpaaG7
import Derived.Test.YtffkinonnkbcpaaG9
set_option linter.unusedVariables false
set_option linter.unusedSimpArgs false
namespace Go.Proofs.Ytffkinonnkbcpaa.P
open Go.RowKit Go.Proofs.YtffkinonnkbcpaaW.PrintWords Go.Proofs.YtffkinonnkbcpaaW.PrintLast Go.Proofs.YtffkinonnkbcpaaW.PrintMore
attribute [local go_sem] run_store_float

/-- A value as it is handed over. -/
def aggOf (x : S31) (A4 : Option Addr) (c4 : Nat) (A5 : Option Addr) (c5 : Nat) : Value := .agg #[.int .i64 x.f0, .int .i64 x.f1, .float .f64 x.f2, .string x.f3, .slice A4 x.f4.length c4, .slice A5 x.f5.length c5]
/-- The rows that a value leads to. -/
def RowsAt (x : S31) (A4 : Option Addr) (c4 : Nat) (A5 : Option Addr) (c5 : Nat) (w : World) : Prop := Kd.string.C w A4 x.f4.length x.f4 ∧ x.f4.length ≤ c4 ∧ k31.C w A5 x.f5.length x.f5 ∧ x.f5.length ≤ c5
theorem RowsAt.below {x : S31} {A4 : Option Addr} {c4 : Nat} {A5 : Option Addr} {c5 : Nat} {w w' : World} (h : RowsAt x A4 c4 A5 c5 w) (hb : Below w.heap.size w w') : RowsAt x A4 c4 A5 c5 w' := ⟨Kd.C_below h.1 hb, h.2.1, Kd.C_below h.2.2.1 hb, h.2.2.2⟩
end Go.Proofs.Ytffkinonnkbcpaa.P
