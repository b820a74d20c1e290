-- WRITTEN by xprint.py (a program of this session, over the kit's print) out of the translation. Not trusted: Lean checks it.
import Derived.Test.YtagafmfmmnegfaaDoorPx0
import Derived.Test.YtagafmfmmnegfaaDoorPx12
namespace Go.Proofs.YtagafmfmmnegfaaDoor.P
open Go.RowKit Go.Proofs.YtagafmfmmnegfaaDoorW.PrintWords Go.Proofs.YtagafmfmmnegfaaDoorW.PrintLast Go.Proofs.YtagafmfmmnegfaaDoorW.PrintMore
attribute [local go_sem] max2_int min2_int max_two min_two max_three min_three max_four min_four   -- for this text's walks alone
set_option linter.unusedVariables false
set_option linter.unusedSimpArgs false

-- GIVEN by hand: function 73 (sprig_Mod)
/-! ### sprig_Mod: function 73 -/
def sprig_Mod.f (a0 a1 : Int) : Option Int := if a1 = 0 then none else some (Int.tmod a0 a1)
set_option maxRecDepth 100000 in
theorem sprig_Mod.calls (a0 a1 : Int) (r : Int) (w : World) (h : sprig_Mod.f a0 a1 = some r) :
    Calls Tryd.prog 73 #[.iface 2 (.int .i64 a0), .iface 2 (.int .i64 a1)] w fun e w' => e = .returned (.int .i64 r) ∧ Below w.heap.size w w' := by
  unfold sprig_Mod.f at h
  split at h
  · cases h
  · rename_i hc
    injection h with h
    have HR := Lib.hid h
    clear h
    have hc2 : (a1 == 0) = false := beq_eq_false_iff_ne.2 hc
    go_enter Tryd.func73, Tryd.ntmps73
    go_wp2_with (first | (go_at_call 135; ((with_reducible refine (cast_ToInt64.i64 _ _).mono ?_)); rintro e w' ⟨rfl, rfl⟩) | go_in)
    go_ret
    exact ⟨by have q := HR.out; subst q; rfl, Below.refl _ _⟩

end Go.Proofs.YtagafmfmmnegfaaDoor.P
