/- FnSemverOrder holds. -/
import Derived.Test.YtlhijjfbcgconaaDoorZSoM
set_option linter.unusedVariables false
set_option linter.unusedSimpArgs false
namespace Go.Proofs.YtlhijjfbcgconaaDoor.P
open Go.RowKit Go.Proofs.YtlhijjfbcgconaaDoorW.PrintWords Go.Proofs.YtlhijjfbcgconaaDoorW.PrintLast Go.Proofs.YtlhijjfbcgconaaDoorW.PrintMore

theorem Ev.at_ {α : Type} {f : Nat → Option α} {r : α} (h : Ev f r) : ∃ K, ∀ k, K ≤ k → f k = some r := h
end Go.Proofs.YtlhijjfbcgconaaDoor.P

