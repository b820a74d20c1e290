-- WRITTEN by xprint.py (a program of this session, over the kit's print) out of the translation. Not trusted: Lean checks it.
import Derived.Test.YtmdehalchdgoeaaDoorPx0
namespace Go.Proofs.YtmdehalchdgoeaaDoor.P
open Go.RowKit Go.Proofs.YtmdehalchdgoeaaDoorW.PrintWords Go.Proofs.YtmdehalchdgoeaaDoorW.PrintLast Go.Proofs.YtmdehalchdgoeaaDoorW.PrintMore
attribute [local go_sem] max2_int min2_int max_two min_two max_three min_three max_four min_four   -- for this text's walks alone
set_option linter.unusedVariables false
set_option linter.unusedSimpArgs false

-- GIVEN by hand: function 48 (unicode_IsSpace)
/-! ### unicode_IsSpace: function 48 -/
def spaceB (c : Int) : Bool := decide (c = 9 ∨ c = 10 ∨ c = 11 ∨ c = 12 ∨ c = 13 ∨ c = 32 ∨ c = 133 ∨ c = 160)
def unicode_IsSpace.f (a0 : Int) : Option Bool := if 0 ≤ a0 ∧ a0 ≤ 255 then some (spaceB a0) else none
set_option maxRecDepth 100000 in
theorem unicode_IsSpace.no (a0 : Int) (w : World) (h0 : 0 ≤ a0) (h1 : a0 ≤ 255) (k0 : (a0 == 9) = false) (k1 : (a0 == 10) = false) (k2 : (a0 == 11) = false) (k3 : (a0 == 12) = false) (k4 : (a0 == 13) = false) (k5 : (a0 == 32) = false) (k6 : (a0 == 133) = false) (k7 : (a0 == 160) = false) :
    Calls Tryd.prog 48 #[.int .i32 a0] w fun e w' => e = .returned (.bool false) ∧ Drawn0 w w' := by
  go_enter Tryd.func48, Tryd.ntmps48
  go_wp2
  go_ret
  exact ⟨rfl, Drawn0.refl _⟩
set_option maxRecDepth 100000 in
theorem unicode_IsSpace.yes (a0 : Int) (w : World) (h : a0 = 9 ∨ a0 = 10 ∨ a0 = 11 ∨ a0 = 12 ∨ a0 = 13 ∨ a0 = 32 ∨ a0 = 133 ∨ a0 = 160) :
    Calls Tryd.prog 48 #[.int .i32 a0] w fun e w' => e = .returned (.bool true) ∧ Drawn0 w w' := by
  rcases h with rfl | rfl | rfl | rfl | rfl | rfl | rfl | rfl
  all_goals
    go_enter Tryd.func48, Tryd.ntmps48
    go_wp2
    go_ret
    exact ⟨rfl, Drawn0.refl _⟩
theorem unicode_IsSpace.calls (a0 : Int) (r : Bool) (w : World) (h : unicode_IsSpace.f a0 = some r) :
    Calls Tryd.prog 48 #[.int .i32 a0] w fun e w' => e = .returned (.bool r) ∧ Drawn0 w w' := by
  unfold unicode_IsSpace.f at h
  by_cases hb : 0 ≤ a0 ∧ a0 ≤ 255
  · rw [if_pos hb] at h
    cases h
    unfold spaceB
    by_cases hc : a0 = 9 ∨ a0 = 10 ∨ a0 = 11 ∨ a0 = 12 ∨ a0 = 13 ∨ a0 = 32 ∨ a0 = 133 ∨ a0 = 160
    · rw [decide_eq_true hc]
      exact unicode_IsSpace.yes a0 w hc
    · rw [decide_eq_false hc]
      simp only [not_or] at hc
      obtain ⟨c0, c1, c2, c3, c4, c5, c6, c7⟩ := hc
      exact unicode_IsSpace.no a0 w hb.1 hb.2 (beq_eq_false_iff_ne.2 c0) (beq_eq_false_iff_ne.2 c1) (beq_eq_false_iff_ne.2 c2) (beq_eq_false_iff_ne.2 c3) (beq_eq_false_iff_ne.2 c4) (beq_eq_false_iff_ne.2 c5) (beq_eq_false_iff_ne.2 c6) (beq_eq_false_iff_ne.2 c7)
  · rw [if_neg hb] at h
    cases h

end Go.Proofs.YtmdehalchdgoeaaDoor.P
