-- WRITTEN by xprint.py (a program of this session, over the kit's print) out of the translation. Not trusted: Lean checks it.
import Derived.Test.YtagafmfmmnegfaaDoorPx0
import Derived.Test.YtagafmfmmnegfaaDoorPx15
import Derived.Test.YtagafmfmmnegfaaDoorPx16
namespace Go.Proofs.YtagafmfmmnegfaaDoor.P
open Go.RowKit Go.Proofs.YtagafmfmmnegfaaDoorW.PrintWords Go.Proofs.YtagafmfmmnegfaaDoorW.PrintLast Go.Proofs.YtagafmfmmnegfaaDoorW.PrintMore
attribute [local go_sem] max2_int min2_int max_two min_two max_three min_three max_four min_four   -- for this text's walks alone
set_option linter.unusedVariables false
set_option linter.unusedSimpArgs false

-- GIVEN by hand: function 38 (impl_Add)
/-! ### impl_Add: function 38 -/
def impl_Add.f (l0 : List Int) : Option Int := if l0.length ≤ 1000000 then some (sum64 l0) else none
set_option maxRecDepth 100000 in
theorem impl_Add.calls (A0 : Option Addr) (c0 : Nat) (l0 : List Int) (r : Int) (w : World) (hr0 : Kd.C (Kd.int .i64) w A0 l0.length l0) (_ : l0.length ≤ c0) (h : impl_Add.f l0 = some r) :
    Calls Tryd.prog 38 #[.slice A0 l0.length c0] w fun e w' => e = .returned (.int .i64 r) ∧ Below w.heap.size w w' := by
  unfold impl_Add.f at h
  split at h
  · rename_i hn
    injection h with h
    have HR := Lib.hid h
    clear h
    have H0 := Lib.hid hr0
    clear hr0
    go_enter Tryd.func38, Tryd.ntmps38
    go_wp2_with fail
    refine (impl_anys.row _ _ _ _ H0.out hn).mono ?_
    rintro e w1 ⟨v, rfl, ho, hb⟩
    have HO := Lib.hid ho
    have HB := Lib.hid hb
    clear ho hb
    go_wp2_with (first | (go_at_call 90; ((with_reducible refine (sprig_add.row _ _ l0 _ HO.out hn).mono ?_)); rintro e w' ⟨rfl, rfl⟩) | go_in)
    go_ret
    exact ⟨by have q := HR.out; subst q; rfl, HB.out⟩
  · cases h

end Go.Proofs.YtagafmfmmnegfaaDoor.P
