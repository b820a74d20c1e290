/- sprig.mustReverse: a row of interface values the other way round. -/
import Derived.Test.YtffkinonnkbcpaaR1
set_option linter.unusedVariables false
set_option linter.unusedSimpArgs false
namespace Go.Proofs.Ytffkinonnkbcpaa.P
open Go.RowKit Go.Proofs.YtffkinonnkbcpaaW.PrintWords Go.Proofs.YtffkinonnkbcpaaW.PrintLast Go.Proofs.YtffkinonnkbcpaaW.PrintMore
attribute [local go_sem] run_store_float

theorem zzList_call (u : Value) (w : World) : Calls Try.prog 40 #[.iface 43 u] w fun e w' => e = .returned (.tuple #[u, .bool true]) ∧ Below w.heap.size w w' := by
  have ta0 : ∀ (v : Value) (W : World), (Instr.typeAssert (.iface 43 v) 20 43 true).run Try.prog W = .ok (.tuple #[v, .bool true]) W := fun v W => by kernel_rfl
  go_enter Try.func40, Try.ntmps40
  go_wp2
  go_ret2
  exact ⟨rfl, Below.refl _ _⟩
end Go.Proofs.Ytffkinonnkbcpaa.P
