/- FnSemver holds. -/
import Derived.Test.YtlhijjfbcgconaaDoorZSv5
set_option linter.unusedVariables false
set_option linter.unusedSimpArgs false
namespace Go.Proofs.YtlhijjfbcgconaaDoor.P
open Go.RowKit Go.Proofs.YtlhijjfbcgconaaDoorW.PrintWords Go.Proofs.YtlhijjfbcgconaaDoorW.PrintLast Go.Proofs.YtlhijjfbcgconaaDoorW.PrintMore

set_option maxHeartbeats 1600000 in
set_option maxRecDepth 100000 in
theorem verMajor_call (n1 n2 n3 : Int) (pre mt og : ByteArray) (w : World) : Calls Tryd.prog 29 #[.agg #[.int .u64 n1, .int .u64 n2, .int .u64 n3, .string pre, .string mt, .string og]] w fun e w' => e = .returned (.int .u64 n1) ∧ Below w.heap.size w w' := by
  have HB := Lib.hid (fun o => (Below.refl w.heap.size w).alloc (Nat.le_refl _) o)
  go_enter Tryd.func29, Tryd.ntmps29
  go_wp2
  go_ret
  exact ⟨rfl, HB.out _⟩
set_option maxHeartbeats 1600000 in
set_option maxRecDepth 100000 in
theorem verMinor_call (n1 n2 n3 : Int) (pre mt og : ByteArray) (w : World) : Calls Tryd.prog 30 #[.agg #[.int .u64 n1, .int .u64 n2, .int .u64 n3, .string pre, .string mt, .string og]] w fun e w' => e = .returned (.int .u64 n2) ∧ Below w.heap.size w w' := by
  have HB := Lib.hid (fun o => (Below.refl w.heap.size w).alloc (Nat.le_refl _) o)
  go_enter Tryd.func30, Tryd.ntmps30
  go_wp2
  go_ret
  exact ⟨rfl, HB.out _⟩
set_option maxHeartbeats 1600000 in
set_option maxRecDepth 100000 in
theorem verPatch_call (n1 n2 n3 : Int) (pre mt og : ByteArray) (w : World) : Calls Tryd.prog 31 #[.agg #[.int .u64 n1, .int .u64 n2, .int .u64 n3, .string pre, .string mt, .string og]] w fun e w' => e = .returned (.int .u64 n3) ∧ Below w.heap.size w w' := by
  have HB := Lib.hid (fun o => (Below.refl w.heap.size w).alloc (Nat.le_refl _) o)
  go_enter Tryd.func31, Tryd.ntmps31
  go_wp2
  go_ret
  exact ⟨rfl, HB.out _⟩
set_option maxHeartbeats 1600000 in
set_option maxRecDepth 100000 in
theorem verPrerelease_call (n1 n2 n3 : Int) (pre mt og : ByteArray) (w : World) : Calls Tryd.prog 32 #[.agg #[.int .u64 n1, .int .u64 n2, .int .u64 n3, .string pre, .string mt, .string og]] w fun e w' => e = .returned (.string pre) ∧ Below w.heap.size w w' := by
  have HB := Lib.hid (fun o => (Below.refl w.heap.size w).alloc (Nat.le_refl _) o)
  go_enter Tryd.func32, Tryd.ntmps32
  go_wp2
  go_ret
  exact ⟨rfl, HB.out _⟩
end Go.Proofs.YtlhijjfbcgconaaDoor.P

