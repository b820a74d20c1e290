/- spec.Turned: a list the other way round. -/
import Derived.Test.YtffkinonnkbcpaaA1
import Derived.Test.YtffkinonnkbcpaaG7
set_option linter.unusedVariables false
set_option linter.unusedSimpArgs false
namespace Go.Proofs.Ytffkinonnkbcpaa.P
open Go.RowKit Go.Proofs.YtffkinonnkbcpaaW.PrintWords Go.Proofs.YtffkinonnkbcpaaW.PrintLast Go.Proofs.YtffkinonnkbcpaaW.PrintMore
attribute [local go_sem] run_store_float

/-- A row of the call's own whose elements are values that were there in world w0. -/
def Row0 (w0 : World) (B : Nat) (wr : World) (v : Value) (xs : List S31) : Prop := OwnRow (k31.K w0) 31 6 wr B v xs
theorem Row0.reads {w0 wr : World} {B : Nat} {v : Value} {xs : List S31} (h : Row0 w0 B wr v xs) (hb : Below w0.heap.size w0 wr) : ∃ A c, v = .slice A xs.length c ∧ xs.length ≤ c ∧ k31.C wr A xs.length xs := by
  obtain ⟨A, c, h1, h2, h3⟩ := OwnRow.reads h
  exact ⟨A, c, h1, h2, h3.imp_ (Below.refl _ _) (fun p cs hp => k31.K_below hb hp)⟩
theorem cell_ltR {w : World} {a : Addr} {v : Value} (h : w.cell? a = some v) : a.block < w.heap.size := by
  unfold World.cell? at h
  cases hh : w.heap[a.block]? with
  | none => simp [hh] at h
  | some o => exact (Array.getElem?_eq_some_iff.1 hh).1
theorem drop_rev (l : List S31) (m : Nat) (h : m < l.length) : (l.drop m).reverse = (l.drop (m + 1)).reverse ++ [rd_T31 l (m : Int)] := by
  rw [List.drop_eq_getElem_cons h, List.reverse_cons]
  simp [rd_T31, h]
end Go.Proofs.Ytffkinonnkbcpaa.P
