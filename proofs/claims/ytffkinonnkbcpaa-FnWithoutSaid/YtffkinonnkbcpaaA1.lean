/- spec.AllRight: it ends; what it takes for right is right. -/
import Derived.Test.YtffkinonnkbcpaaT1
import Derived.Test.YtffkinonnkbcpaaPx3
set_option linter.unusedVariables false
set_option linter.unusedSimpArgs false
namespace Go.Proofs.Ytffkinonnkbcpaa.P
open Go.RowKit Go.Proofs.YtffkinonnkbcpaaW.PrintWords Go.Proofs.YtffkinonnkbcpaaW.PrintLast Go.Proofs.YtffkinonnkbcpaaW.PrintMore

theorem AllRight_tot (l : List S31) : Tot (fun k => spec_AllRight.f k l) (fun r => r = true → l.length ≤ 60 ∧ ∀ i, i < l.length → rightN 8 (l.getD i z31)) := by
  have loop : ∀ m i : Nat, l.length - i = m → ∀ left : Int, Tot (fun k => spec_AllRight.l0 k l left (i : Int)) (fun r => r = true → l.length ≤ 60 ∧ ∀ j, i ≤ j → j < l.length → rightN 8 (l.getD j z31)) := by
    intro m
    induction m with
    | zero =>
      intro i hm left
      refine Tot.step (fun k => by rw [spec_AllRight.l0]) ?_
      refine Tot.ite (fun h => absurd h (by omega)) (fun _ => ?_)
      refine Tot.step (fun k => by rw [spec_AllRight.j1]) ?_
      exact Tot.ite (fun h => by cases h) (fun _ => Tot.ret (fun h => ⟨(by have := of_decide_eq_true h; omega), fun j h1 h2 => absurd h2 (by omega)⟩))
    | succ m ihm =>
      intro i hm left
      refine Tot.step (fun k => by rw [spec_AllRight.l0]) ?_
      refine Tot.ite (fun _ => ?_) (fun h => absurd h (by omega))
      refine Tot.step (fun k => by rw [spec_AllRight.j1]) ?_
      refine Tot.ite (fun hl => ?_) (fun _ => Tot.ret (fun h => ⟨(by have := of_decide_eq_true h; omega), fun j h1 h2 => ?_⟩))
      · have hl60 : (l.length : Int) ≤ 60 := by simpa using hl
        refine Tot.ite (fun _ => Tot.ite (fun _ => ?_) (fun h => absurd h (by omega))) (fun h => absurd h (by omega))
        refine Tot.bind (weigh_tot 8 _ left (by omega)) (fun t _ => ?_)
        refine Tot.ite (fun _ => Tot.ret (fun h => by cases h)) (fun _ => ?_)
        refine Tot.bind (right_tot 8 _ (by omega)) (fun r hr => ?_)
        refine Tot.ite (fun ht => ?_) (fun _ => Tot.ret (fun h => by cases h))
        rw [wrap_of (x := (i : Int) + 1) (by omega) (by omega)]
        refine (ihm (i + 1) (by omega) t).mono (fun r2 h2 ht2 => ⟨(h2 ht2).1, fun j h3 h4 => ?_⟩)
        by_cases hji : j = i
        · subst hji
          have := hr ht
          simpa [rd_T31] using this
        · exact (h2 ht2).2 j (by omega) h4
      · rename_i hc
        exact absurd h (by simpa using hc)
  unfold spec_AllRight.f
  exact (loop _ 0 rfl 300).mono (fun r h ht => ⟨(h ht).1, fun i hi => (h ht).2 i (Nat.zero_le _) hi⟩)
theorem AllRight_con (l : List S31) (A : Option Addr) (c : Nat) : ∃ r : Bool, (r = true → l.length ≤ 60 ∧ ∀ i, i < l.length → rightN 8 (l.getD i z31)) ∧ ∀ w, k31.C w A l.length l → l.length ≤ c → Calls Try.prog 6 #[.slice A l.length c] w fun e w' => e = .returned (.bool r) ∧ Below w.heap.size w w' := by
  obtain ⟨k, r, hk, hr⟩ := AllRight_tot l
  exact ⟨r, hr, fun w h hc => spec_AllRight.calls k A c l r w h hc (hk k (Nat.le_refl _))⟩
end Go.Proofs.Ytffkinonnkbcpaa.P
