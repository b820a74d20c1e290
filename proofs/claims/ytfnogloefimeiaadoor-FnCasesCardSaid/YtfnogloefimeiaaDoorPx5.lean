-- WRITTEN by xprint.py (a program of this session, over the kit's print) out of the translation. Not trusted: Lean checks it.
import Derived.Test.YtfnogloefimeiaaDoorPx0
namespace Go.Proofs.YtfnogloefimeiaaDoor.P
open Go.RowKit Go.Proofs.YtfnogloefimeiaaDoorW.PrintWords Go.Proofs.YtfnogloefimeiaaDoorW.PrintLast Go.Proofs.YtfnogloefimeiaaDoorW.PrintMore
attribute [local go_sem] max2_int min2_int max_two min_two max_three min_three max_four min_four   -- for this text's walks alone
set_option linter.unusedVariables false
set_option linter.unusedSimpArgs false

-- GIVEN by hand: function 51 (strings_ToUpper)
/-! ### strings_ToUpper: function 51 -/
def asciiL (s : ByteArray) : Bool := s.data.toList.all fun b => decide (b.toNat < 128)
theorem asciiL_at {s : ByteArray} (h : asciiL s = true) (j : Nat) (b : UInt8) (hb : s.data.toList[j]? = some b) : b.toNat < 128 :=
  of_decide_eq_true (List.all_eq_true.1 h b (List.mem_of_getElem? hb))
def strings_ToUpper.f (a0 : ByteArray) : Option ByteArray := if a0.size ≤ 140737488355328 ∧ asciiL a0 = true then some ⟨(Lib.toUpperA a0.data.toList).toArray⟩ else none
theorem strings_ToUpper.calls (a0 : ByteArray) (r : ByteArray) (w : World) (h : strings_ToUpper.f a0 = some r) :
    Calls Tryd.prog 51 #[.string a0] w fun e w' => e = .returned (.string r) ∧ Below w.heap.size w w' := by
  unfold strings_ToUpper.f at h
  split at h
  · rename_i hc
    injection h with h
    subst h
    exact Tryd.strings_ToUpper_ascii a0 w hc.1 (asciiL_at hc.2)
  · cases h

end Go.Proofs.YtfnogloefimeiaaDoor.P
