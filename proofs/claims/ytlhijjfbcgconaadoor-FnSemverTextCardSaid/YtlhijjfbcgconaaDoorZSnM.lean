/- Texts joined: Sn1, Sn2, Sn3, Sn4, Sn5, Sn6. -/
import Derived.Test.YtlhijjfbcgconaaDoorZSo5
import Derived.Test.YtlhijjfbcgconaaDoorZPx23
import Derived.Test.YtlhijjfbcgconaaDoorZPx20
import Derived.Test.YtlhijjfbcgconaaDoorZPx22
import Derived.Test.YtlhijjfbcgconaaDoorZQA3
import Derived.Test.YtlhijjfbcgconaaDoorZSo6

/- A version that is written out: its text, and its form. -/
set_option linter.unusedVariables false
set_option linter.unusedSimpArgs false
namespace Go.Proofs.YtlhijjfbcgconaaDoor.P
open Go.RowKit Go.Proofs.YtlhijjfbcgconaaDoorW.PrintWords Go.Proofs.YtlhijjfbcgconaaDoorW.PrintLast Go.Proofs.YtlhijjfbcgconaaDoorW.PrintMore

def decd (n : Nat) : ByteArray := ⟨(Lib.decDigits n).toArray⟩
theorem emp_list : (⟨#[]⟩ : ByteArray).toList = ([] : List UInt8) := by first | rfl | decide | simp
end Go.Proofs.YtlhijjfbcgconaaDoor.P

/- The next version. -/
set_option linter.unusedVariables false
set_option linter.unusedSimpArgs false
namespace Go.Proofs.YtlhijjfbcgconaaDoor.P
open Go.RowKit Go.Proofs.YtlhijjfbcgconaaDoorW.PrintWords Go.Proofs.YtlhijjfbcgconaaDoorW.PrintLast Go.Proofs.YtlhijjfbcgconaaDoorW.PrintMore

end Go.Proofs.YtlhijjfbcgconaaDoor.P

/- impl.next; the closure of impl.SemverNext. -/
set_option linter.unusedVariables false
set_option linter.unusedSimpArgs false
namespace Go.Proofs.YtlhijjfbcgconaaDoor.P
open Go.RowKit Go.Proofs.YtlhijjfbcgconaaDoorW.PrintWords Go.Proofs.YtlhijjfbcgconaaDoorW.PrintLast Go.Proofs.YtlhijjfbcgconaaDoorW.PrintMore

end Go.Proofs.YtlhijjfbcgconaaDoor.P

/- impl.SemverNext. -/
set_option linter.unusedVariables false
set_option linter.unusedSimpArgs false
namespace Go.Proofs.YtlhijjfbcgconaaDoor.P
open Go.RowKit Go.Proofs.YtlhijjfbcgconaaDoorW.PrintWords Go.Proofs.YtlhijjfbcgconaaDoorW.PrintLast Go.Proofs.YtlhijjfbcgconaaDoorW.PrintMore

end Go.Proofs.YtlhijjfbcgconaaDoor.P

/- A version's String; spec.Next. -/
set_option linter.unusedVariables false
set_option linter.unusedSimpArgs false
namespace Go.Proofs.YtlhijjfbcgconaaDoor.P
open Go.RowKit Go.Proofs.YtlhijjfbcgconaaDoorW.PrintWords Go.Proofs.YtlhijjfbcgconaaDoorW.PrintLast Go.Proofs.YtlhijjfbcgconaaDoorW.PrintMore

theorem fmt_f (a : Nat) (ha : a < 10 ^ 15) : strconv_FormatUint_60.f (a : Int) 10 = some (decd a) := by
  unfold strconv_FormatUint_60.f strconv_FormatUint_74.f
  rw [if_pos ⟨by omega, by omega, rfl⟩, Int.toNat_natCast]
  rfl
end Go.Proofs.YtlhijjfbcgconaaDoor.P

/- FnSemverNext holds. -/
set_option linter.unusedVariables false
set_option linter.unusedSimpArgs false
namespace Go.Proofs.YtlhijjfbcgconaaDoor.P
open Go.RowKit Go.Proofs.YtlhijjfbcgconaaDoorW.PrintWords Go.Proofs.YtlhijjfbcgconaaDoorW.PrintLast Go.Proofs.YtlhijjfbcgconaaDoorW.PrintMore

end Go.Proofs.YtlhijjfbcgconaaDoor.P

