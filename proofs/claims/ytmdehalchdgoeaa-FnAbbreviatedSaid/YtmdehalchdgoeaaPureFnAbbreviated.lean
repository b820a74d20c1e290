/- A text with points at its ends is what the specification says, and is refused just where it says so: for every text, place and width. Nothing is assumed but what every Go string and int fulfils. -/
import Derived.Test.YtmdehalchdgoeaaPx7
import Derived.Test.YtmdehalchdgoeaaP9
namespace Go.Proofs.Ytmdehalchdgoeaa.Pure
open Go.RowKit Go.Proofs.Ytmdehalchdgoeaa.P Go.Proofs.YtmdehalchdgoeaaW.PrintWords Go.Proofs.YtmdehalchdgoeaaW.PrintLast

theorem far9_f (n : Int) : laws_far9.f n = some (decide (n < -1000000 ∨ n > 1000000)) := by
  unfold laws_far9.f
  by_cases h : n < -1000000
  · rw [if_pos h]; simp [h]
  · rw [if_neg h]; simp [h]
theorem impl_abF (s : ByteArray) (o m : Int) (h : near s o m) : impl_Abbreviated.f s o m = some ((abF s o m).getD ByteArray.empty, (abF s o m).isSome) := by
  unfold impl_Abbreviated.f
  rw [if_pos h]
  cases abF s o m <;> rfl
theorem FnAbbreviated : laws_FnAbbreviated.Pure := by
  intro s o m hs ho hm
  refine Ev.rounds (g := fun k => laws_FnAbbreviated.f k s o m) ?_
  unfold laws_FnAbbreviated.f
  have far : Ev (fun k => laws_FnAbbreviated.j0 k s o m true) true := Ev.step (fun k => by rw [laws_FnAbbreviated.j0]) (Ev.pos rfl (Ev.ok _))
  by_cases h1 : (s.size : Int) > 2147483647
  · exact Ev.pos h1 (Ev.ok _)
  refine Ev.neg h1 ?_
  obtain ⟨t, et, ht⟩ := plain9_tells [s] (by simp)
  refine Ev.bind et ?_
  cases t with
  | false => exact Ev.neg Bool.false_ne_true far
  | true =>
    obtain ⟨h5, -⟩ := ht rfl s (by simp)
    refine Ev.pos rfl ?_
    rw [far9_f, far9_f]
    by_cases h2 : o < -1000000 ∨ o > 1000000
    · rw [decide_eq_true h2]
      exact Ev.bind (Ev.ok _) (Ev.pos rfl far)
    rw [decide_eq_false h2]
    refine Ev.bind (Ev.ok _) (Ev.neg Bool.false_ne_true ?_)
    by_cases h3 : m < -1000000 ∨ m > 1000000
    · rw [decide_eq_true h3]
      exact Ev.bind (Ev.ok _) far
    rw [decide_eq_false h3]
    refine Ev.bind (Ev.ok _) ?_
    refine Ev.step (fun k => by rw [laws_FnAbbreviated.j0]) (Ev.neg Bool.false_ne_true ?_)
    have hn : near s o m := ⟨h5, by omega, by omega, by omega⟩
    have hg : near (⟨#[97]⟩ : ByteArray) 0 4 := ⟨by decide, by omega, by omega, by omega⟩
    have hga : (abF (⟨#[97]⟩ : ByteArray) 0 4).isSome = true := by
      unfold abF
      rw [if_neg (by rw [ByteArray.toList_eq]; decide), if_neg (by omega), if_pos (by decide)]
      rfl
    unfold spec_Abbreviated.f
    rw [if_pos hn, impl_abF s o m hn, impl_abF _ _ _ hg, hga]
    by_cases hu : o > 0 ∧ m < 7 ∧ ¬ m < 4 ∧ ¬ s.toList = []
    · rw [if_pos hu]
      exact Ev.bind (Ev.ok _) (Ev.neg Bool.false_ne_true (Ev.ok _))
    · rw [if_neg hu]
      refine Ev.bind (Ev.ok _) (Ev.pos rfl (Ev.bind (Ev.ok _) (Ev.bind (Ev.ok _) (Ev.pos rfl (Ev.pos (by simp) ?_)))))
      by_cases h6 : (abF s o m).isSome = true
      · exact Ev.pos h6 (Ev.eq (by simp) (Ev.ok _))
      · exact Ev.neg h6 (Ev.ok _)
end Go.Proofs.Ytmdehalchdgoeaa.Pure
