-- PRINTED BY print.sh 35421559b90ae4d0a3588c463048766b98c2df88dd9212a6774a882060cdf62d: not written by this session
import Derived.Test.YtlhijjfbcgconaaGreatDoorZWInv
import Derived.Test.YtlhijjfbcgconaaGreatDoorZWFootNe
namespace Go.Proofs.YtlhijjfbcgconaaGreatDoorW.PrintWords
open Go.RowKit
end Go.Proofs.YtlhijjfbcgconaaGreatDoorW.PrintWords
namespace Go.Proofs.YtlhijjfbcgconaaGreatDoorW.PrintLast
section
variable {ops : Array Oper} {a : Act} {o og : Oper} {g : Nat} {t : Tmp} {u : Bool}
end
end Go.Proofs.YtlhijjfbcgconaaGreatDoorW.PrintLast

