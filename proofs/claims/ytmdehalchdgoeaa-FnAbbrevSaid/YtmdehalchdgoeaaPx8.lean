-- WRITTEN by xprint.py (a program of this session, over the kit's print) out of the translation. Not trusted: Lean checks it.
import Derived.Test.YtmdehalchdgoeaaPx0
import Derived.Test.YtmdehalchdgoeaaPx5
namespace Go.Proofs.Ytmdehalchdgoeaa.P
open Go.RowKit Go.Proofs.YtmdehalchdgoeaaW.PrintWords Go.Proofs.YtmdehalchdgoeaaW.PrintLast Go.Proofs.YtmdehalchdgoeaaW.PrintMore
attribute [local go_sem] max2_int min2_int max_two min_two max_three min_three max_four min_four   -- for this text's walks alone
set_option linter.unusedVariables false
set_option linter.unusedSimpArgs false

-- GIVEN by hand: function 20 (sprig_abbrev)
/-! ### sprig_abbrev: function 20 -/
def sprig_abbrev.f (a0 : Int) (a1 : ByteArray) : Option ByteArray := if near a1 0 a0 then (if a0 < 4 then some a1 else some ((abF a1 0 a0).getD ByteArray.empty)) else none
set_option maxRecDepth 100000 in
theorem sprig_abbrev.calls (a0 : Int) (a1 : ByteArray) (r : ByteArray) (w : World) (h : sprig_abbrev.f a0 a1 = some r) :
    Calls Try.prog 20 #[.int .i64 a0, .string a1] w fun e w' => e = .returned (.string r) ∧ Below w.heap.size w w' := by
  unfold sprig_abbrev.f at h
  by_cases hn : near a1 0 a0
  · rw [if_pos hn] at h
    obtain ⟨hs, ho, ho', hm⟩ := hn
    by_cases h4 : a0 < 4
    · rw [if_pos h4] at h
      cases h
      go_enter Try.func20, Try.ntmps20
      go_wp2
      go_ret
      exact ⟨rfl, Below.refl _ _⟩
    · rw [if_neg h4] at h
      have hA : ∀ w, Calls Try.prog 19 #[.string a1, .int .i64 a0] w fun e w' => (∃ x, e = .returned (.tuple #[.string r, x])) ∧ Below w.heap.size w w' := by
        intro w
        cases ha : abF a1 0 a0 with
        | none =>
          rw [ha] at h
          cases h
          have C := Lib.hid (fun w => abf_none a1 0 a0 w hs ho ho' hm ha)
          clear ha
          go_enter Try.func19, Try.ntmps19
          go_wp2_with fail
          refine (C.out _).mono ?_
          rintro e w' ⟨⟨x, rfl⟩, hb⟩
          go_wp2
          go_ret2
          exact ⟨⟨_, rfl⟩, hb⟩
        | some r =>
          rw [ha] at h
          cases h
          have C := Lib.hid (fun w => abf_some a1 0 a0 r w hs ho ho' hm ha)
          clear ha
          go_enter Try.func19, Try.ntmps19
          go_wp2_with fail
          refine (C.out _).mono ?_
          rintro e w' ⟨rfl, hb⟩
          go_wp2
          go_ret2
          exact ⟨⟨_, rfl⟩, hb⟩
      have HA := Lib.hid hA
      clear hA h
      go_enter Try.func20, Try.ntmps20
      go_wp2_with fail
      refine (HA.out _).mono ?_
      rintro e w' ⟨⟨x, rfl⟩, hb⟩
      go_wp2
      go_ret
      exact ⟨rfl, hb⟩
  · rw [if_neg hn] at h
    cases h

end Go.Proofs.Ytmdehalchdgoeaa.P
