/- impl.listed of sprig.Reverse; impl.Reverse. -/
import Derived.Test.YtffkinonnkbcpaaR2
set_option linter.unusedVariables false
set_option linter.unusedSimpArgs false
namespace Go.Proofs.Ytffkinonnkbcpaa.P
open Go.RowKit Go.Proofs.YtffkinonnkbcpaaW.PrintWords Go.Proofs.YtffkinonnkbcpaaW.PrintLast Go.Proofs.YtffkinonnkbcpaaW.PrintMore
attribute [local go_sem] run_store_float

/-- A function from rows to rows. -/
def RowFn (F : Nat) (n : Nat) (turn : List S31 → List S31) : Prop := ∀ (l : List S31) (u : Value) (ok : Nat → Prop) (w : World), (∀ i, i < l.length → fitsN n (l.getD i z31)) → l.length ≤ 300 → RowOf (GoN n ok w) ok w l u →
    Calls Try.prog F #[.iface 43 u] w fun e w' => ∃ u', e = .returned (.tuple #[u', .nilIface]) ∧ RowOf (GoN n (fun _ => True) w') (fun _ => True) w' (turn l) u' ∧ Below w.heap.size w w'
theorem rev_fits {n : Nat} {l : List S31} (hf : ∀ i, i < l.length → fitsN n (l.getD i z31)) : ∀ i, i < l.reverse.length → fitsN n (l.reverse.getD i z31) := by
  intro i hi
  have hi2 : i < l.length := by simpa using hi
  have h := hf (l.length - 1 - i) (by omega)
  rw [List.getD_eq_getElem?_getD, List.getElem?_reverse hi2, ← List.getD_eq_getElem?_getD]
  exact h
end Go.Proofs.Ytffkinonnkbcpaa.P
