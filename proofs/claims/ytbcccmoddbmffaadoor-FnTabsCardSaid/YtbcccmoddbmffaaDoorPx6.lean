-- WRITTEN by xprint.py (a program of this session, over the kit's print) out of the translation. Not trusted: Lean checks it.
import Derived.Test.YtbcccmoddbmffaaDoorPx0
namespace Go.Proofs.YtbcccmoddbmffaaDoor.P
open Go.RowKit Go.Proofs.YtbcccmoddbmffaaDoorW.PrintWords Go.Proofs.YtbcccmoddbmffaaDoorW.PrintLast Go.Proofs.YtbcccmoddbmffaaDoorW.PrintMore
attribute [local go_sem] max2_int min2_int max_two min_two max_three min_three max_four min_four   -- for this text's walks alone
set_option linter.unusedVariables false
set_option linter.unusedSimpArgs false

-- GIVEN by hand: function 68 (utf8_RuneCountInString)
/-! ### utf8_RuneCountInString: function 68 -/
def utf8_RuneCountInString.f (a0 : ByteArray) : Option Int := if a0.size ≤ 140737488355328 then some ((runesOf a0).length : Int) else none
theorem runeCount_go (s : ByteArray) : ∀ (fuel pos : Nat), Lib.runeCountFrom s fuel pos = (runesGo s fuel pos).length
  | 0, _ => rfl
  | fuel + 1, pos => by
    unfold Lib.runeCountFrom runesGo
    split
    · rw [runeCount_go s fuel, List.length_cons]; omega
    · rfl
theorem utf8_RuneCountInString.calls (a0 : ByteArray) (r : Int) (w : World) (h : utf8_RuneCountInString.f a0 = some r) :
    Calls Tryd.prog 68 #[.string a0] w fun e w' => e = .returned (.int .i64 r) ∧ Below w.heap.size w w' := by
  unfold utf8_RuneCountInString.f at h
  split at h
  · injection h with h
    subst h
    refine (Tryd.utf8_RuneCountInString a0 w (by omega)).mono ?_
    rintro e w' ⟨rfl, pos, rfl⟩
    exact ⟨by rw [show Lib.runeCount a0 = (runesOf a0).length from runeCount_go a0 _ _], (Below.refl _ _).alloc (Nat.le_refl _) _⟩
  · cases h

end Go.Proofs.YtbcccmoddbmffaaDoor.P
