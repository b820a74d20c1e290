-- WRITTEN by xprint.py (a program of this session, over the kit's print) out of the translation. Not trusted: Lean checks it.
import Derived.Test.YtlhijjfbcgconaaGreatDoorZPx0
namespace Go.Proofs.YtlhijjfbcgconaaGreatDoor.P
open Go.RowKit Go.Proofs.YtlhijjfbcgconaaGreatDoorW.PrintWords Go.Proofs.YtlhijjfbcgconaaGreatDoorW.PrintLast Go.Proofs.YtlhijjfbcgconaaGreatDoorW.PrintMore
attribute [local go_sem] max2_int min2_int max_two min_two max_three min_three max_four min_four run_store_float   -- for this text's walks alone
set_option linter.unusedVariables false
set_option linter.unusedSimpArgs false

-- GIVEN by hand: function 45 (utf8_DecodeRuneInString)
/-! ### utf8_DecodeRuneInString: function 45 -/
/-- The two tables of unicode/utf8 lie in memory as their initialisers laid them. -/
def TabsU (w : World) : Prop := True
theorem TabsU.below {w w' : World} (h : TabsU w) (hb : Below w.heap.size w w') : TabsU w' := True.intro
def utf8_DecodeRuneInString.f (a0 : ByteArray) : Option (Int × Int) := none
theorem utf8_DecodeRuneInString.calls (a0 : ByteArray) (r1 r2 : Int) (w : World) (h : utf8_DecodeRuneInString.f a0 = some (r1, r2)) (HT : TabsU w) :
    Calls Tryz.prog 45 #[.string a0] w fun e w' => e = .returned (.tuple #[.int .i32 r1, .int .i64 r2]) ∧ Below w.heap.size w w' := by
  cases h
end Go.Proofs.YtlhijjfbcgconaaGreatDoor.P

