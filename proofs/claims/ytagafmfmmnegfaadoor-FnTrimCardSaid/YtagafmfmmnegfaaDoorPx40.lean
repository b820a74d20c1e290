-- WRITTEN by xprint.py (a program of this session, over the kit's print) out of the translation. Not trusted: Lean checks it.
import Derived.Test.YtagafmfmmnegfaaDoorPx0
namespace Go.Proofs.YtagafmfmmnegfaaDoor.P
open Go.RowKit Go.Proofs.YtagafmfmmnegfaaDoorW.PrintWords Go.Proofs.YtagafmfmmnegfaaDoorW.PrintLast Go.Proofs.YtagafmfmmnegfaaDoorW.PrintMore
attribute [local go_sem] max2_int min2_int max_two min_two max_three min_three max_four min_four   -- for this text's walks alone
set_option linter.unusedVariables false
set_option linter.unusedSimpArgs false

-- GIVEN by hand: function 94 (strings_TrimSpace)
/-! ### strings_TrimSpace: function 94 -/
/-- The tables that strings.TrimSpace looks into lie in memory as their initialisers laid them. -/
def TabsT (w : World) : Prop := Lib.TabIs Tryd.prog w "strings.asciiSpace" .u8 Lib.asciiSpaceTab ∧ Lib.Utf8Tabs 6 7 w ∧ Lib.WhiteTab 1 w
theorem TabsT.below {w w' : World} (h : TabsT w) (hb : Below w.heap.size w w') : TabsT w' :=
  ⟨Go.Proofs.TabIs_below (g := 0) (by kernel_rfl) h.1 hb, Utf8Tabs_below h.2.1 hb, WhiteTab_below h.2.2 hb⟩
def strings_TrimSpace.f (a0 : ByteArray) : Option ByteArray := if a0.size ≤ 9223372036854775807 then some ⟨(Lib.trimSpaceD a0.data.toList).toArray⟩ else none
theorem strings_TrimSpace.calls (a0 : ByteArray) (r : ByteArray) (w : World) (h : strings_TrimSpace.f a0 = some r) (HT : TabsT w) :
    Calls Tryd.prog 94 #[.string a0] w fun e w' => e = .returned (.string r) ∧ Below w.heap.size w w' := by
  unfold strings_TrimSpace.f at h
  split at h
  · rename_i hs
    injection h with h
    subst h
    exact Tryd.strings_TrimSpace_any a0 w hs HT.1 HT.2.1 HT.2.2
  · cases h

end Go.Proofs.YtagafmfmmnegfaaDoor.P
