/- zzEqual: its answers where no elements are looked at. -/
import Derived.Test.YtffkinonnkbcpaaG1
import Derived.Lib.Hide
set_option linter.unusedVariables false
set_option linter.unusedSimpArgs false
namespace Go.Proofs.Ytffkinonnkbcpaa.P
open Go.RowKit Go.Proofs.YtffkinonnkbcpaaW.PrintWords Go.Proofs.YtffkinonnkbcpaaW.PrintLast Go.Proofs.YtffkinonnkbcpaaW.PrintMore
attribute [local go_sem] run_store_float

set_option maxHeartbeats 3200000 in
set_option maxRecDepth 100000 in
theorem eq_ss {v u : Value} {B : Bool} (hv1 : (∀ W : World, (Instr.typeAssert v 20 43 true).run Try.prog W = .ok (.tuple #[.slice none 0 0, .bool false]) W)) (hv2 : (∀ W : World, (Instr.typeAssert v 20 58 true).run Try.prog W = .ok (.tuple #[.map none, .bool false]) W)) (hu1 : (∀ W : World, (Instr.typeAssert u 20 43 true).run Try.prog W = .ok (.tuple #[.slice none 0 0, .bool false]) W)) (hu2 : (∀ W : World, (Instr.typeAssert u 20 58 true).run Try.prog W = .ok (.tuple #[.map none, .bool false]) W)) (he : ∀ W : World, (binOp BinOp.eql 20 v u).run Try.prog W = .ok (.bool B) W) (hg : ∀ W : World, (eqGuard BinOp.eql 20 (Operand.tmp 118) (Operand.tmp 119) v u).run Try.prog W = .ok () W) (w : World) : Calls Try.prog 47 #[v, u] w fun e w' => e = .returned (.bool B) ∧ Below w.heap.size w w' := by
  go_enter Try.func47, Try.ntmps47
  go_wp2
  go_ret
  exact ⟨rfl, Below.refl _ _⟩
set_option maxHeartbeats 3200000 in
set_option maxRecDepth 100000 in
theorem eq_sl {v u : Value} {q : Value} (hv1 : (∀ W : World, (Instr.typeAssert v 20 43 true).run Try.prog W = .ok (.tuple #[.slice none 0 0, .bool false]) W)) (hv2 : (∀ W : World, (Instr.typeAssert v 20 58 true).run Try.prog W = .ok (.tuple #[.map none, .bool false]) W)) (hu1 : (∀ W : World, (Instr.typeAssert u 20 43 true).run Try.prog W = .ok (.tuple #[q, .bool true]) W)) (w : World) : Calls Try.prog 47 #[v, u] w fun e w' => e = .returned (.bool false) ∧ Below w.heap.size w w' := by
  go_enter Try.func47, Try.ntmps47
  go_wp2
  go_ret
  exact ⟨rfl, Below.refl _ _⟩
set_option maxHeartbeats 3200000 in
set_option maxRecDepth 100000 in
theorem eq_sm {v u : Value} {q : Value} (hv1 : (∀ W : World, (Instr.typeAssert v 20 43 true).run Try.prog W = .ok (.tuple #[.slice none 0 0, .bool false]) W)) (hv2 : (∀ W : World, (Instr.typeAssert v 20 58 true).run Try.prog W = .ok (.tuple #[.map none, .bool false]) W)) (hu1 : (∀ W : World, (Instr.typeAssert u 20 43 true).run Try.prog W = .ok (.tuple #[.slice none 0 0, .bool false]) W)) (hu2 : (∀ W : World, (Instr.typeAssert u 20 58 true).run Try.prog W = .ok (.tuple #[q, .bool true]) W)) (w : World) : Calls Try.prog 47 #[v, u] w fun e w' => e = .returned (.bool false) ∧ Below w.heap.size w w' := by
  go_enter Try.func47, Try.ntmps47
  go_wp2
  go_ret
  exact ⟨rfl, Below.refl _ _⟩
set_option maxHeartbeats 3200000 in
set_option maxRecDepth 100000 in
theorem eq_ln {v u : Value} {p : Value} (hv1 : (∀ W : World, (Instr.typeAssert v 20 43 true).run Try.prog W = .ok (.tuple #[p, .bool true]) W)) (hu1 : (∀ W : World, (Instr.typeAssert u 20 43 true).run Try.prog W = .ok (.tuple #[.slice none 0 0, .bool false]) W)) (w : World) : Calls Try.prog 47 #[v, u] w fun e w' => e = .returned (.bool false) ∧ Below w.heap.size w w' := by
  go_enter Try.func47, Try.ntmps47
  go_wp2
  go_ret
  exact ⟨rfl, Below.refl _ _⟩
set_option maxHeartbeats 3200000 in
set_option maxRecDepth 100000 in
theorem eq_mn {v u : Value} {p : Value} (hv1 : (∀ W : World, (Instr.typeAssert v 20 43 true).run Try.prog W = .ok (.tuple #[.slice none 0 0, .bool false]) W)) (hv2 : (∀ W : World, (Instr.typeAssert v 20 58 true).run Try.prog W = .ok (.tuple #[p, .bool true]) W)) (hu2 : (∀ W : World, (Instr.typeAssert u 20 58 true).run Try.prog W = .ok (.tuple #[.map none, .bool false]) W)) (w : World) : Calls Try.prog 47 #[v, u] w fun e w' => e = .returned (.bool false) ∧ Below w.heap.size w w' := by
  go_enter Try.func47, Try.ntmps47
  go_wp2
  go_ret
  exact ⟨rfl, Below.refl _ _⟩
theorem shl_0 (W : World) : (Instr.typeAssert .nilIface 20 43 true).run Try.prog W = .ok (.tuple #[.slice none 0 0, .bool false]) W := by kernel_rfl
theorem shm_0 (W : World) : (Instr.typeAssert .nilIface 20 58 true).run Try.prog W = .ok (.tuple #[.map none, .bool false]) W := by kernel_rfl
theorem shl_1 (a : Bool) (W : World) : (Instr.typeAssert (.iface 4 (.bool a)) 20 43 true).run Try.prog W = .ok (.tuple #[.slice none 0 0, .bool false]) W := by kernel_rfl
theorem shm_1 (a : Bool) (W : World) : (Instr.typeAssert (.iface 4 (.bool a)) 20 58 true).run Try.prog W = .ok (.tuple #[.map none, .bool false]) W := by kernel_rfl
theorem shl_2 (a : Int) (W : World) : (Instr.typeAssert (.iface 3 (.int .i64 a)) 20 43 true).run Try.prog W = .ok (.tuple #[.slice none 0 0, .bool false]) W := by kernel_rfl
theorem shm_2 (a : Int) (W : World) : (Instr.typeAssert (.iface 3 (.int .i64 a)) 20 58 true).run Try.prog W = .ok (.tuple #[.map none, .bool false]) W := by kernel_rfl
theorem shl_3 (a : Int) (W : World) : (Instr.typeAssert (.iface 2 (.int .i64 a)) 20 43 true).run Try.prog W = .ok (.tuple #[.slice none 0 0, .bool false]) W := by kernel_rfl
theorem shm_3 (a : Int) (W : World) : (Instr.typeAssert (.iface 2 (.int .i64 a)) 20 58 true).run Try.prog W = .ok (.tuple #[.map none, .bool false]) W := by kernel_rfl
theorem shl_4 (a : Nat) (W : World) : (Instr.typeAssert (.iface 29 (.float .f64 a)) 20 43 true).run Try.prog W = .ok (.tuple #[.slice none 0 0, .bool false]) W := by kernel_rfl
theorem shm_4 (a : Nat) (W : World) : (Instr.typeAssert (.iface 29 (.float .f64 a)) 20 58 true).run Try.prog W = .ok (.tuple #[.map none, .bool false]) W := by kernel_rfl
theorem shl_5 (a : ByteArray) (W : World) : (Instr.typeAssert (.iface 9 (.string a)) 20 43 true).run Try.prog W = .ok (.tuple #[.slice none 0 0, .bool false]) W := by kernel_rfl
theorem shm_5 (a : ByteArray) (W : World) : (Instr.typeAssert (.iface 9 (.string a)) 20 58 true).run Try.prog W = .ok (.tuple #[.map none, .bool false]) W := by kernel_rfl
theorem shl_6 (u : Value) (W : World) : (Instr.typeAssert (.iface 43 u) 20 43 true).run Try.prog W = .ok (.tuple #[u, .bool true]) W := by kernel_rfl
theorem shm_6 (u : Value) (W : World) : (Instr.typeAssert (.iface 43 u) 20 58 true).run Try.prog W = .ok (.tuple #[.map none, .bool false]) W := by kernel_rfl
theorem shl_7 (u : Value) (W : World) : (Instr.typeAssert (.iface 58 u) 20 43 true).run Try.prog W = .ok (.tuple #[.slice none 0 0, .bool false]) W := by kernel_rfl
theorem shm_7 (u : Value) (W : World) : (Instr.typeAssert (.iface 58 u) 20 58 true).run Try.prog W = .ok (.tuple #[u, .bool true]) W := by kernel_rfl
theorem eqv_00 (W : World) : (binOp BinOp.eql 20 .nilIface .nilIface).run Try.prog W = .ok (.bool true) W := by kernel_rfl
theorem eqg_00 (W : World) : (eqGuard BinOp.eql 20 (Operand.tmp 118) (Operand.tmp 119) .nilIface .nilIface).run Try.prog W = .ok () W := by kernel_rfl
theorem eqv_01 (b : Bool) (W : World) : (binOp BinOp.eql 20 .nilIface (.iface 4 (.bool b))).run Try.prog W = .ok (.bool false) W := by kernel_rfl
theorem eqg_01 (b : Bool) (W : World) : (eqGuard BinOp.eql 20 (Operand.tmp 118) (Operand.tmp 119) .nilIface (.iface 4 (.bool b))).run Try.prog W = .ok () W := by kernel_rfl
theorem eqv_02 (b : Int) (W : World) : (binOp BinOp.eql 20 .nilIface (.iface 3 (.int .i64 b))).run Try.prog W = .ok (.bool false) W := by kernel_rfl
theorem eqg_02 (b : Int) (W : World) : (eqGuard BinOp.eql 20 (Operand.tmp 118) (Operand.tmp 119) .nilIface (.iface 3 (.int .i64 b))).run Try.prog W = .ok () W := by kernel_rfl
theorem eqv_03 (b : Int) (W : World) : (binOp BinOp.eql 20 .nilIface (.iface 2 (.int .i64 b))).run Try.prog W = .ok (.bool false) W := by kernel_rfl
theorem eqg_03 (b : Int) (W : World) : (eqGuard BinOp.eql 20 (Operand.tmp 118) (Operand.tmp 119) .nilIface (.iface 2 (.int .i64 b))).run Try.prog W = .ok () W := by kernel_rfl
theorem eqv_04 (b : Nat) (W : World) : (binOp BinOp.eql 20 .nilIface (.iface 29 (.float .f64 b))).run Try.prog W = .ok (.bool false) W := by kernel_rfl
theorem eqg_04 (b : Nat) (W : World) : (eqGuard BinOp.eql 20 (Operand.tmp 118) (Operand.tmp 119) .nilIface (.iface 29 (.float .f64 b))).run Try.prog W = .ok () W := by kernel_rfl
theorem eqv_05 (b : ByteArray) (W : World) : (binOp BinOp.eql 20 .nilIface (.iface 9 (.string b))).run Try.prog W = .ok (.bool false) W := by kernel_rfl
theorem eqg_05 (b : ByteArray) (W : World) : (eqGuard BinOp.eql 20 (Operand.tmp 118) (Operand.tmp 119) .nilIface (.iface 9 (.string b))).run Try.prog W = .ok () W := by kernel_rfl
theorem eqv_10 (a : Bool) (W : World) : (binOp BinOp.eql 20 (.iface 4 (.bool a)) .nilIface).run Try.prog W = .ok (.bool false) W := by kernel_rfl
theorem eqg_10 (a : Bool) (W : World) : (eqGuard BinOp.eql 20 (Operand.tmp 118) (Operand.tmp 119) (.iface 4 (.bool a)) .nilIface).run Try.prog W = .ok () W := by kernel_rfl
theorem eqv_11 (a : Bool) (b : Bool) (W : World) : (binOp BinOp.eql 20 (.iface 4 (.bool a)) (.iface 4 (.bool b))).run Try.prog W = .ok (.bool (a == b)) W := by kernel_rfl
theorem eqg_11 (a : Bool) (b : Bool) (W : World) : (eqGuard BinOp.eql 20 (Operand.tmp 118) (Operand.tmp 119) (.iface 4 (.bool a)) (.iface 4 (.bool b))).run Try.prog W = .ok () W := by kernel_rfl
theorem eqv_12 (a : Bool) (b : Int) (W : World) : (binOp BinOp.eql 20 (.iface 4 (.bool a)) (.iface 3 (.int .i64 b))).run Try.prog W = .ok (.bool false) W := by kernel_rfl
theorem eqg_12 (a : Bool) (b : Int) (W : World) : (eqGuard BinOp.eql 20 (Operand.tmp 118) (Operand.tmp 119) (.iface 4 (.bool a)) (.iface 3 (.int .i64 b))).run Try.prog W = .ok () W := by kernel_rfl
theorem eqv_13 (a : Bool) (b : Int) (W : World) : (binOp BinOp.eql 20 (.iface 4 (.bool a)) (.iface 2 (.int .i64 b))).run Try.prog W = .ok (.bool false) W := by kernel_rfl
theorem eqg_13 (a : Bool) (b : Int) (W : World) : (eqGuard BinOp.eql 20 (Operand.tmp 118) (Operand.tmp 119) (.iface 4 (.bool a)) (.iface 2 (.int .i64 b))).run Try.prog W = .ok () W := by kernel_rfl
theorem eqv_14 (a : Bool) (b : Nat) (W : World) : (binOp BinOp.eql 20 (.iface 4 (.bool a)) (.iface 29 (.float .f64 b))).run Try.prog W = .ok (.bool false) W := by kernel_rfl
theorem eqg_14 (a : Bool) (b : Nat) (W : World) : (eqGuard BinOp.eql 20 (Operand.tmp 118) (Operand.tmp 119) (.iface 4 (.bool a)) (.iface 29 (.float .f64 b))).run Try.prog W = .ok () W := by kernel_rfl
theorem eqv_15 (a : Bool) (b : ByteArray) (W : World) : (binOp BinOp.eql 20 (.iface 4 (.bool a)) (.iface 9 (.string b))).run Try.prog W = .ok (.bool false) W := by kernel_rfl
theorem eqg_15 (a : Bool) (b : ByteArray) (W : World) : (eqGuard BinOp.eql 20 (Operand.tmp 118) (Operand.tmp 119) (.iface 4 (.bool a)) (.iface 9 (.string b))).run Try.prog W = .ok () W := by kernel_rfl
theorem eqv_20 (a : Int) (W : World) : (binOp BinOp.eql 20 (.iface 3 (.int .i64 a)) .nilIface).run Try.prog W = .ok (.bool false) W := by kernel_rfl
theorem eqg_20 (a : Int) (W : World) : (eqGuard BinOp.eql 20 (Operand.tmp 118) (Operand.tmp 119) (.iface 3 (.int .i64 a)) .nilIface).run Try.prog W = .ok () W := by kernel_rfl
theorem eqv_21 (a : Int) (b : Bool) (W : World) : (binOp BinOp.eql 20 (.iface 3 (.int .i64 a)) (.iface 4 (.bool b))).run Try.prog W = .ok (.bool false) W := by kernel_rfl
theorem eqg_21 (a : Int) (b : Bool) (W : World) : (eqGuard BinOp.eql 20 (Operand.tmp 118) (Operand.tmp 119) (.iface 3 (.int .i64 a)) (.iface 4 (.bool b))).run Try.prog W = .ok () W := by kernel_rfl
theorem eqv_22 (a : Int) (b : Int) (W : World) : (binOp BinOp.eql 20 (.iface 3 (.int .i64 a)) (.iface 3 (.int .i64 b))).run Try.prog W = .ok (.bool (a == b)) W := by kernel_rfl
theorem eqg_22 (a : Int) (b : Int) (W : World) : (eqGuard BinOp.eql 20 (Operand.tmp 118) (Operand.tmp 119) (.iface 3 (.int .i64 a)) (.iface 3 (.int .i64 b))).run Try.prog W = .ok () W := by kernel_rfl
theorem eqv_23 (a : Int) (b : Int) (W : World) : (binOp BinOp.eql 20 (.iface 3 (.int .i64 a)) (.iface 2 (.int .i64 b))).run Try.prog W = .ok (.bool false) W := by kernel_rfl
theorem eqg_23 (a : Int) (b : Int) (W : World) : (eqGuard BinOp.eql 20 (Operand.tmp 118) (Operand.tmp 119) (.iface 3 (.int .i64 a)) (.iface 2 (.int .i64 b))).run Try.prog W = .ok () W := by kernel_rfl
theorem eqv_24 (a : Int) (b : Nat) (W : World) : (binOp BinOp.eql 20 (.iface 3 (.int .i64 a)) (.iface 29 (.float .f64 b))).run Try.prog W = .ok (.bool false) W := by kernel_rfl
theorem eqg_24 (a : Int) (b : Nat) (W : World) : (eqGuard BinOp.eql 20 (Operand.tmp 118) (Operand.tmp 119) (.iface 3 (.int .i64 a)) (.iface 29 (.float .f64 b))).run Try.prog W = .ok () W := by kernel_rfl
theorem eqv_25 (a : Int) (b : ByteArray) (W : World) : (binOp BinOp.eql 20 (.iface 3 (.int .i64 a)) (.iface 9 (.string b))).run Try.prog W = .ok (.bool false) W := by kernel_rfl
theorem eqg_25 (a : Int) (b : ByteArray) (W : World) : (eqGuard BinOp.eql 20 (Operand.tmp 118) (Operand.tmp 119) (.iface 3 (.int .i64 a)) (.iface 9 (.string b))).run Try.prog W = .ok () W := by kernel_rfl
theorem eqv_30 (a : Int) (W : World) : (binOp BinOp.eql 20 (.iface 2 (.int .i64 a)) .nilIface).run Try.prog W = .ok (.bool false) W := by kernel_rfl
theorem eqg_30 (a : Int) (W : World) : (eqGuard BinOp.eql 20 (Operand.tmp 118) (Operand.tmp 119) (.iface 2 (.int .i64 a)) .nilIface).run Try.prog W = .ok () W := by kernel_rfl
theorem eqv_31 (a : Int) (b : Bool) (W : World) : (binOp BinOp.eql 20 (.iface 2 (.int .i64 a)) (.iface 4 (.bool b))).run Try.prog W = .ok (.bool false) W := by kernel_rfl
theorem eqg_31 (a : Int) (b : Bool) (W : World) : (eqGuard BinOp.eql 20 (Operand.tmp 118) (Operand.tmp 119) (.iface 2 (.int .i64 a)) (.iface 4 (.bool b))).run Try.prog W = .ok () W := by kernel_rfl
theorem eqv_32 (a : Int) (b : Int) (W : World) : (binOp BinOp.eql 20 (.iface 2 (.int .i64 a)) (.iface 3 (.int .i64 b))).run Try.prog W = .ok (.bool false) W := by kernel_rfl
theorem eqg_32 (a : Int) (b : Int) (W : World) : (eqGuard BinOp.eql 20 (Operand.tmp 118) (Operand.tmp 119) (.iface 2 (.int .i64 a)) (.iface 3 (.int .i64 b))).run Try.prog W = .ok () W := by kernel_rfl
theorem eqv_33 (a : Int) (b : Int) (W : World) : (binOp BinOp.eql 20 (.iface 2 (.int .i64 a)) (.iface 2 (.int .i64 b))).run Try.prog W = .ok (.bool (a == b)) W := by kernel_rfl
theorem eqg_33 (a : Int) (b : Int) (W : World) : (eqGuard BinOp.eql 20 (Operand.tmp 118) (Operand.tmp 119) (.iface 2 (.int .i64 a)) (.iface 2 (.int .i64 b))).run Try.prog W = .ok () W := by kernel_rfl
theorem eqv_34 (a : Int) (b : Nat) (W : World) : (binOp BinOp.eql 20 (.iface 2 (.int .i64 a)) (.iface 29 (.float .f64 b))).run Try.prog W = .ok (.bool false) W := by kernel_rfl
theorem eqg_34 (a : Int) (b : Nat) (W : World) : (eqGuard BinOp.eql 20 (Operand.tmp 118) (Operand.tmp 119) (.iface 2 (.int .i64 a)) (.iface 29 (.float .f64 b))).run Try.prog W = .ok () W := by kernel_rfl
theorem eqv_35 (a : Int) (b : ByteArray) (W : World) : (binOp BinOp.eql 20 (.iface 2 (.int .i64 a)) (.iface 9 (.string b))).run Try.prog W = .ok (.bool false) W := by kernel_rfl
theorem eqg_35 (a : Int) (b : ByteArray) (W : World) : (eqGuard BinOp.eql 20 (Operand.tmp 118) (Operand.tmp 119) (.iface 2 (.int .i64 a)) (.iface 9 (.string b))).run Try.prog W = .ok () W := by kernel_rfl
theorem eqv_40 (a : Nat) (W : World) : (binOp BinOp.eql 20 (.iface 29 (.float .f64 a)) .nilIface).run Try.prog W = .ok (.bool false) W := by kernel_rfl
theorem eqg_40 (a : Nat) (W : World) : (eqGuard BinOp.eql 20 (Operand.tmp 118) (Operand.tmp 119) (.iface 29 (.float .f64 a)) .nilIface).run Try.prog W = .ok () W := by kernel_rfl
theorem eqv_41 (a : Nat) (b : Bool) (W : World) : (binOp BinOp.eql 20 (.iface 29 (.float .f64 a)) (.iface 4 (.bool b))).run Try.prog W = .ok (.bool false) W := by kernel_rfl
theorem eqg_41 (a : Nat) (b : Bool) (W : World) : (eqGuard BinOp.eql 20 (Operand.tmp 118) (Operand.tmp 119) (.iface 29 (.float .f64 a)) (.iface 4 (.bool b))).run Try.prog W = .ok () W := by kernel_rfl
theorem eqv_42 (a : Nat) (b : Int) (W : World) : (binOp BinOp.eql 20 (.iface 29 (.float .f64 a)) (.iface 3 (.int .i64 b))).run Try.prog W = .ok (.bool false) W := by kernel_rfl
theorem eqg_42 (a : Nat) (b : Int) (W : World) : (eqGuard BinOp.eql 20 (Operand.tmp 118) (Operand.tmp 119) (.iface 29 (.float .f64 a)) (.iface 3 (.int .i64 b))).run Try.prog W = .ok () W := by kernel_rfl
theorem eqv_43 (a : Nat) (b : Int) (W : World) : (binOp BinOp.eql 20 (.iface 29 (.float .f64 a)) (.iface 2 (.int .i64 b))).run Try.prog W = .ok (.bool false) W := by kernel_rfl
theorem eqg_43 (a : Nat) (b : Int) (W : World) : (eqGuard BinOp.eql 20 (Operand.tmp 118) (Operand.tmp 119) (.iface 29 (.float .f64 a)) (.iface 2 (.int .i64 b))).run Try.prog W = .ok () W := by kernel_rfl
theorem eqv_44 (a : Nat) (b : Nat) (W : World) : (binOp BinOp.eql 20 (.iface 29 (.float .f64 a)) (.iface 29 (.float .f64 b))).run Try.prog W = .ok (.bool (FloatKind.f64.format.order a b == some Ordering.eq)) W := by kernel_rfl
theorem eqg_44 (a : Nat) (b : Nat) (W : World) : (eqGuard BinOp.eql 20 (Operand.tmp 118) (Operand.tmp 119) (.iface 29 (.float .f64 a)) (.iface 29 (.float .f64 b))).run Try.prog W = .ok () W := by kernel_rfl
theorem eqv_45 (a : Nat) (b : ByteArray) (W : World) : (binOp BinOp.eql 20 (.iface 29 (.float .f64 a)) (.iface 9 (.string b))).run Try.prog W = .ok (.bool false) W := by kernel_rfl
theorem eqg_45 (a : Nat) (b : ByteArray) (W : World) : (eqGuard BinOp.eql 20 (Operand.tmp 118) (Operand.tmp 119) (.iface 29 (.float .f64 a)) (.iface 9 (.string b))).run Try.prog W = .ok () W := by kernel_rfl
theorem eqv_50 (a : ByteArray) (W : World) : (binOp BinOp.eql 20 (.iface 9 (.string a)) .nilIface).run Try.prog W = .ok (.bool false) W := by kernel_rfl
theorem eqg_50 (a : ByteArray) (W : World) : (eqGuard BinOp.eql 20 (Operand.tmp 118) (Operand.tmp 119) (.iface 9 (.string a)) .nilIface).run Try.prog W = .ok () W := by kernel_rfl
theorem eqv_51 (a : ByteArray) (b : Bool) (W : World) : (binOp BinOp.eql 20 (.iface 9 (.string a)) (.iface 4 (.bool b))).run Try.prog W = .ok (.bool false) W := by kernel_rfl
theorem eqg_51 (a : ByteArray) (b : Bool) (W : World) : (eqGuard BinOp.eql 20 (Operand.tmp 118) (Operand.tmp 119) (.iface 9 (.string a)) (.iface 4 (.bool b))).run Try.prog W = .ok () W := by kernel_rfl
theorem eqv_52 (a : ByteArray) (b : Int) (W : World) : (binOp BinOp.eql 20 (.iface 9 (.string a)) (.iface 3 (.int .i64 b))).run Try.prog W = .ok (.bool false) W := by kernel_rfl
theorem eqg_52 (a : ByteArray) (b : Int) (W : World) : (eqGuard BinOp.eql 20 (Operand.tmp 118) (Operand.tmp 119) (.iface 9 (.string a)) (.iface 3 (.int .i64 b))).run Try.prog W = .ok () W := by kernel_rfl
theorem eqv_53 (a : ByteArray) (b : Int) (W : World) : (binOp BinOp.eql 20 (.iface 9 (.string a)) (.iface 2 (.int .i64 b))).run Try.prog W = .ok (.bool false) W := by kernel_rfl
theorem eqg_53 (a : ByteArray) (b : Int) (W : World) : (eqGuard BinOp.eql 20 (Operand.tmp 118) (Operand.tmp 119) (.iface 9 (.string a)) (.iface 2 (.int .i64 b))).run Try.prog W = .ok () W := by kernel_rfl
theorem eqv_54 (a : ByteArray) (b : Nat) (W : World) : (binOp BinOp.eql 20 (.iface 9 (.string a)) (.iface 29 (.float .f64 b))).run Try.prog W = .ok (.bool false) W := by kernel_rfl
theorem eqg_54 (a : ByteArray) (b : Nat) (W : World) : (eqGuard BinOp.eql 20 (Operand.tmp 118) (Operand.tmp 119) (.iface 9 (.string a)) (.iface 29 (.float .f64 b))).run Try.prog W = .ok () W := by kernel_rfl
theorem eqv_55 (a : ByteArray) (b : ByteArray) (W : World) : (binOp BinOp.eql 20 (.iface 9 (.string a)) (.iface 9 (.string b))).run Try.prog W = .ok (.bool (a.data == b.data)) W := by kernel_rfl
theorem eqg_55 (a : ByteArray) (b : ByteArray) (W : World) : (eqGuard BinOp.eql 20 (Operand.tmp 118) (Operand.tmp 119) (.iface 9 (.string a)) (.iface 9 (.string b))).run Try.prog W = .ok () W := by kernel_rfl
end Go.Proofs.Ytffkinonnkbcpaa.P
