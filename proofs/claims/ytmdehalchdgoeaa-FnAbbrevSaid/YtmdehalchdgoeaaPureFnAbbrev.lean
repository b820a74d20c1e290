/- A text of at most so many bytes is itself, a longer one is cut with points at its end, as the specification says: for every text and width. Nothing is assumed but what every Go string and int fulfils. -/
import Derived.Test.YtmdehalchdgoeaaPx9
import Derived.Test.YtmdehalchdgoeaaP9
namespace Go.Proofs.Ytmdehalchdgoeaa.Pure
open Go.RowKit Go.Proofs.Ytmdehalchdgoeaa.P Go.Proofs.YtmdehalchdgoeaaW.PrintWords Go.Proofs.YtmdehalchdgoeaaW.PrintLast

theorem far9_f' (n : Int) : laws_far9.f n = some (decide (n < -1000000 ∨ n > 1000000)) := by
  unfold laws_far9.f
  by_cases h : n < -1000000
  · rw [if_pos h]; simp [h]
  · rw [if_neg h]; simp [h]
theorem impl_ab (s : ByteArray) (m : Int) (h : near s 0 m) : impl_Abbrev.f m s = some (if m < 4 then s else (abF s 0 m).getD ByteArray.empty) := by
  unfold impl_Abbrev.f sprig_Abbrev.f sprig_abbrev.f
  rw [if_pos h]
  by_cases h4 : m < 4
  · rw [if_pos h4, if_pos h4]; rfl
  · rw [if_neg h4, if_neg h4]; rfl
theorem FnAbbrev : laws_FnAbbrev.Pure := by
  intro m s hm hs
  refine Ev.rounds (g := fun k => laws_FnAbbrev.f k m s) ?_
  unfold laws_FnAbbrev.f
  have far : Ev (fun k => laws_FnAbbrev.j0 k m s true) true := Ev.step (fun k => by rw [laws_FnAbbrev.j0]) (Ev.pos rfl (Ev.ok _))
  by_cases h1 : (s.size : Int) > 2147483647
  · exact Ev.pos h1 (Ev.ok _)
  refine Ev.neg h1 ?_
  obtain ⟨t, et, ht⟩ := plain9_tells [s] (by simp)
  refine Ev.bind et ?_
  cases t with
  | false => exact Ev.neg Bool.false_ne_true far
  | true =>
    obtain ⟨h5, -⟩ := ht rfl s (by simp)
    refine Ev.pos rfl ?_
    rw [far9_f']
    by_cases h3 : m < -1000000 ∨ m > 1000000
    · rw [decide_eq_true h3]
      exact Ev.bind (Ev.ok _) far
    rw [decide_eq_false h3]
    refine Ev.bind (Ev.ok _) ?_
    refine Ev.step (fun k => by rw [laws_FnAbbrev.j0]) (Ev.neg Bool.false_ne_true ?_)
    have hn : near s 0 m := ⟨h5, by omega, by omega, by omega⟩
    have hg : near (⟨#[97, 98, 99, 100, 101]⟩ : ByteArray) 0 4 := ⟨by decide, by omega, by omega, by omega⟩
    have hga : ((abF (⟨#[97, 98, 99, 100, 101]⟩ : ByteArray) 0 4).getD ByteArray.empty).toList = [97, 46, 46, 46] := by
      unfold abF
      rw [if_neg (by rw [ByteArray.toList_eq]; decide), if_neg (by omega), if_neg (by decide), if_pos (by unfold abO; decide), Option.getD_some, ByteArray.toList_eq, append_list, extract_list]
      rfl
    unfold spec_Abbreviated.f
    rw [if_pos hn, impl_ab s m hn, impl_ab _ _ hg, if_neg (show ¬ (4 : Int) < 4 by omega)]
    rw [if_neg (show ¬ ((0 : Int) > 0 ∧ m < 7 ∧ ¬ m < 4 ∧ ¬ s.toList = []) from fun h => by have := h.1; omega)]
    refine Ev.bind (Ev.ok _) (Ev.pos rfl ?_)
    by_cases h6 : (abF s 0 m).isSome = true
    · refine Ev.pos h6 (Ev.bind (Ev.ok _) (Ev.pos ?_ (Ev.bind (Ev.ok _) (Ev.eq (by rw [hga]; rfl) (Ev.ok _)))))
      by_cases h4 : m < 4
      · rw [if_pos h4]
        unfold abF at h6 ⊢
        by_cases h7 : s.toList = []
        · rw [if_pos h7, h7, Option.getD_some, ByteArray.toList_eq]; rfl
        · rw [if_neg h7, if_pos h4] at h6; cases h6
      · rw [if_neg h4]
    · refine Ev.neg h6 (Ev.bind (Ev.ok _) (Ev.pos ?_ (Ev.bind (Ev.ok _) (Ev.eq (by rw [hga]; rfl) (Ev.ok _)))))
      by_cases h4 : m < 4
      · rw [if_pos h4]
      · exfalso
        apply h6
        unfold abF
        by_cases h7 : s.toList = []
        · rw [if_pos h7]; rfl
        rw [if_neg h7, if_neg h4]
        by_cases h8 : (s.size : Int) ≤ m
        · rw [if_pos h8]; rfl
        rw [if_neg h8, if_pos (by unfold abO; rw [if_neg (by omega), if_neg (by omega)]; omega)]; rfl
end Go.Proofs.Ytmdehalchdgoeaa.Pure
