/- FnReverse holds of every list. -/
import Derived.Test.YtffkinonnkbcpaaR3
set_option linter.unusedVariables false
set_option linter.unusedSimpArgs false
namespace Go.Proofs.Ytffkinonnkbcpaa.P
open Go.RowKit Go.Proofs.YtffkinonnkbcpaaW.PrintWords Go.Proofs.YtffkinonnkbcpaaW.PrintLast Go.Proofs.YtffkinonnkbcpaaW.PrintMore
attribute [local go_sem] run_store_float

theorem norm_norm : ∀ (n : Nat) (x : S31), normN n (normN n x) = normN n x
  | 0, x => rfl
  | n + 1, x => by
    have h : ∀ y, normN n (normN n y) = normN n y := norm_norm n
    show (⟨x.f0, x.f1, if x.f0 = 4 then (if x.f0 = 4 then x.f2 else 0) else 0, x.f3, x.f4, (x.f5.map (normN n)).map (normN n)⟩ : S31) = ⟨x.f0, x.f1, if x.f0 = 4 then x.f2 else 0, x.f3, x.f4, x.f5.map (normN n)⟩
    have h2 : (x.f5.map (normN n)).map (normN n) = x.f5.map (normN n) := by
      rw [List.map_map]
      exact List.map_congr_left (fun y _ => h y)
    have h3 : (if x.f0 = 4 then (if x.f0 = 4 then x.f2 else 0) else 0) = if x.f0 = 4 then x.f2 else 0 := by split <;> rfl
    rw [h2, h3]
theorem lists_fit {l : List S31} (hr : ∀ i, i < l.length → rightN 8 (l.getD i z31)) (hw : ∀ y ∈ l, Whole64 y) : ∀ i, i < l.length → fitsN 8 (l.getD i z31) := fun i hi =>
  right_fits (hr i hi) (hw _ (by rw [List.getD_eq_getElem?_getD, List.getElem?_eq_getElem hi]; exact List.getElem_mem hi))
theorem rev_right {l : List S31} (hr : ∀ i, i < l.length → rightN 8 (l.getD i z31)) : ∀ i, i < l.reverse.length → rightN 8 (l.reverse.getD i z31) := by
  intro i hi
  have hi2 : i < l.length := by simpa using hi
  have h := hr (l.length - 1 - i) (by omega)
  rw [List.getD_eq_getElem?_getD, List.getElem?_reverse hi2, ← List.getD_eq_getElem?_getD]
  exact h
theorem norm_fit {n : Nat} {l : List S31} (hf : ∀ i, i < l.length → fitsN n (l.getD i z31)) : ∀ i, i < (l.map (normN n)).length → fitsN n ((l.map (normN n)).getD i z31) := by
  intro i hi
  have hi2 : i < l.length := by simpa using hi
  have h := fits_norm (hf i hi2)
  simpa [hi2] using h
theorem twice_rev (l : List S31) : ((l.reverse.map (normN 8)).reverse.map (normN 8)) = l.map (normN 8) := by
  have h0 : (l.reverse.map (normN 8)).reverse = l.map (normN 8) := by rw [List.map_reverse, List.reverse_reverse]
  rw [h0, List.map_map]
  exact List.map_congr_left (fun y _ => norm_norm 8 y)
end Go.Proofs.Ytffkinonnkbcpaa.P
