/- What is no number is 0: cast.ToInt, ToInt64, ToFloat64. -/
import Derived.Test.YtdconkiilelaoaaDoorCN1
set_option linter.unusedVariables false
set_option linter.unusedSimpArgs false
namespace Go.Proofs.YtdconkiilelaoaaDoor.P
open Go.RowKit Go.Proofs.YtdconkiilelaoaaDoorW.PrintWords Go.Proofs.YtdconkiilelaoaaDoorW.PrintLast Go.Proofs.YtdconkiilelaoaaDoorW.PrintMore

set_option maxHeartbeats 1600000 in
set_option maxRecDepth 100000 in
theorem num_int_nil (w : World) : Calls Tryd.prog 68 #[.nilIface] w fun e w' => e = .returned (.tuple #[.int .i64 0, .bool true]) ∧ w = w' := by
  have ht_int : ∀ W : World, (Instr.typeAssert (.nilIface : Value) 20 3 true).run Tryd.prog W = .ok (.tuple #[.int .i64 0, .bool false]) W := fun _ => by kernel_rfl
  have ht_int8 : ∀ W : World, (Instr.typeAssert (.nilIface : Value) 20 83 true).run Tryd.prog W = .ok (.tuple #[.int .i8 0, .bool false]) W := fun _ => by kernel_rfl
  have ht_int16 : ∀ W : World, (Instr.typeAssert (.nilIface : Value) 20 84 true).run Tryd.prog W = .ok (.tuple #[.int .i16 0, .bool false]) W := fun _ => by kernel_rfl
  have ht_int32 : ∀ W : World, (Instr.typeAssert (.nilIface : Value) 20 21 true).run Tryd.prog W = .ok (.tuple #[.int .i32 0, .bool false]) W := fun _ => by kernel_rfl
  have ht_int64 : ∀ W : World, (Instr.typeAssert (.nilIface : Value) 20 2 true).run Tryd.prog W = .ok (.tuple #[.int .i64 0, .bool false]) W := fun _ => by kernel_rfl
  have ht_uint : ∀ W : World, (Instr.typeAssert (.nilIface : Value) 20 65 true).run Tryd.prog W = .ok (.tuple #[.int .u64 0, .bool false]) W := fun _ => by kernel_rfl
  have ht_uint8 : ∀ W : World, (Instr.typeAssert (.nilIface : Value) 20 5 true).run Tryd.prog W = .ok (.tuple #[.int .u8 0, .bool false]) W := fun _ => by kernel_rfl
  have ht_uint16 : ∀ W : World, (Instr.typeAssert (.nilIface : Value) 20 85 true).run Tryd.prog W = .ok (.tuple #[.int .u16 0, .bool false]) W := fun _ => by kernel_rfl
  have ht_uint32 : ∀ W : World, (Instr.typeAssert (.nilIface : Value) 20 86 true).run Tryd.prog W = .ok (.tuple #[.int .u32 0, .bool false]) W := fun _ => by kernel_rfl
  have ht_uint64 : ∀ W : World, (Instr.typeAssert (.nilIface : Value) 20 46 true).run Tryd.prog W = .ok (.tuple #[.int .u64 0, .bool false]) W := fun _ => by kernel_rfl
  have ht_float32 : ∀ W : World, (Instr.typeAssert (.nilIface : Value) 20 81 true).run Tryd.prog W = .ok (.tuple #[.float .f32 0, .bool false]) W := fun _ => by kernel_rfl
  have ht_float64 : ∀ W : World, (Instr.typeAssert (.nilIface : Value) 20 22 true).run Tryd.prog W = .ok (.tuple #[.float .f64 0, .bool false]) W := fun _ => by kernel_rfl
  have ht_bool : ∀ W : World, (Instr.typeAssert (.nilIface : Value) 20 4 true).run Tryd.prog W = .ok (.tuple #[.bool false, .bool false]) W := fun _ => by kernel_rfl
  have ht_string : ∀ W : World, (Instr.typeAssert (.nilIface : Value) 20 9 true).run Tryd.prog W = .ok (.tuple #[.string ⟨#[]⟩, .bool false]) W := fun _ => by kernel_rfl
  go_enter Tryd.func68, Tryd.ntmps68
  go_wp2
  go_ret2
  exact ⟨rfl, rfl⟩
set_option maxHeartbeats 1600000 in
set_option maxRecDepth 100000 in
theorem num_int_list (A : Option Addr) (n c : Nat) (w : World) : Calls Tryd.prog 68 #[.iface 39 (.slice A n c)] w fun e w' => e = .returned (.tuple #[.int .i64 0, .bool false]) ∧ w = w' := by
  have ht_int : ∀ W : World, (Instr.typeAssert (.iface 39 (.slice A n c) : Value) 20 3 true).run Tryd.prog W = .ok (.tuple #[.int .i64 0, .bool false]) W := fun _ => by kernel_rfl
  have ht_int8 : ∀ W : World, (Instr.typeAssert (.iface 39 (.slice A n c) : Value) 20 83 true).run Tryd.prog W = .ok (.tuple #[.int .i8 0, .bool false]) W := fun _ => by kernel_rfl
  have ht_int16 : ∀ W : World, (Instr.typeAssert (.iface 39 (.slice A n c) : Value) 20 84 true).run Tryd.prog W = .ok (.tuple #[.int .i16 0, .bool false]) W := fun _ => by kernel_rfl
  have ht_int32 : ∀ W : World, (Instr.typeAssert (.iface 39 (.slice A n c) : Value) 20 21 true).run Tryd.prog W = .ok (.tuple #[.int .i32 0, .bool false]) W := fun _ => by kernel_rfl
  have ht_int64 : ∀ W : World, (Instr.typeAssert (.iface 39 (.slice A n c) : Value) 20 2 true).run Tryd.prog W = .ok (.tuple #[.int .i64 0, .bool false]) W := fun _ => by kernel_rfl
  have ht_uint : ∀ W : World, (Instr.typeAssert (.iface 39 (.slice A n c) : Value) 20 65 true).run Tryd.prog W = .ok (.tuple #[.int .u64 0, .bool false]) W := fun _ => by kernel_rfl
  have ht_uint8 : ∀ W : World, (Instr.typeAssert (.iface 39 (.slice A n c) : Value) 20 5 true).run Tryd.prog W = .ok (.tuple #[.int .u8 0, .bool false]) W := fun _ => by kernel_rfl
  have ht_uint16 : ∀ W : World, (Instr.typeAssert (.iface 39 (.slice A n c) : Value) 20 85 true).run Tryd.prog W = .ok (.tuple #[.int .u16 0, .bool false]) W := fun _ => by kernel_rfl
  have ht_uint32 : ∀ W : World, (Instr.typeAssert (.iface 39 (.slice A n c) : Value) 20 86 true).run Tryd.prog W = .ok (.tuple #[.int .u32 0, .bool false]) W := fun _ => by kernel_rfl
  have ht_uint64 : ∀ W : World, (Instr.typeAssert (.iface 39 (.slice A n c) : Value) 20 46 true).run Tryd.prog W = .ok (.tuple #[.int .u64 0, .bool false]) W := fun _ => by kernel_rfl
  have ht_float32 : ∀ W : World, (Instr.typeAssert (.iface 39 (.slice A n c) : Value) 20 81 true).run Tryd.prog W = .ok (.tuple #[.float .f32 0, .bool false]) W := fun _ => by kernel_rfl
  have ht_float64 : ∀ W : World, (Instr.typeAssert (.iface 39 (.slice A n c) : Value) 20 22 true).run Tryd.prog W = .ok (.tuple #[.float .f64 0, .bool false]) W := fun _ => by kernel_rfl
  have ht_bool : ∀ W : World, (Instr.typeAssert (.iface 39 (.slice A n c) : Value) 20 4 true).run Tryd.prog W = .ok (.tuple #[.bool false, .bool false]) W := fun _ => by kernel_rfl
  have ht_string : ∀ W : World, (Instr.typeAssert (.iface 39 (.slice A n c) : Value) 20 9 true).run Tryd.prog W = .ok (.tuple #[.string ⟨#[]⟩, .bool false]) W := fun _ => by kernel_rfl
  go_enter Tryd.func68, Tryd.ntmps68
  go_wp2
  go_ret2
  exact ⟨rfl, rfl⟩
set_option maxHeartbeats 1600000 in
set_option maxRecDepth 100000 in
theorem num_int_dict (p : Option Nat) (w : World) : Calls Tryd.prog 68 #[.iface 54 (.map p)] w fun e w' => e = .returned (.tuple #[.int .i64 0, .bool false]) ∧ w = w' := by
  have ht_int : ∀ W : World, (Instr.typeAssert (.iface 54 (.map p) : Value) 20 3 true).run Tryd.prog W = .ok (.tuple #[.int .i64 0, .bool false]) W := fun _ => by kernel_rfl
  have ht_int8 : ∀ W : World, (Instr.typeAssert (.iface 54 (.map p) : Value) 20 83 true).run Tryd.prog W = .ok (.tuple #[.int .i8 0, .bool false]) W := fun _ => by kernel_rfl
  have ht_int16 : ∀ W : World, (Instr.typeAssert (.iface 54 (.map p) : Value) 20 84 true).run Tryd.prog W = .ok (.tuple #[.int .i16 0, .bool false]) W := fun _ => by kernel_rfl
  have ht_int32 : ∀ W : World, (Instr.typeAssert (.iface 54 (.map p) : Value) 20 21 true).run Tryd.prog W = .ok (.tuple #[.int .i32 0, .bool false]) W := fun _ => by kernel_rfl
  have ht_int64 : ∀ W : World, (Instr.typeAssert (.iface 54 (.map p) : Value) 20 2 true).run Tryd.prog W = .ok (.tuple #[.int .i64 0, .bool false]) W := fun _ => by kernel_rfl
  have ht_uint : ∀ W : World, (Instr.typeAssert (.iface 54 (.map p) : Value) 20 65 true).run Tryd.prog W = .ok (.tuple #[.int .u64 0, .bool false]) W := fun _ => by kernel_rfl
  have ht_uint8 : ∀ W : World, (Instr.typeAssert (.iface 54 (.map p) : Value) 20 5 true).run Tryd.prog W = .ok (.tuple #[.int .u8 0, .bool false]) W := fun _ => by kernel_rfl
  have ht_uint16 : ∀ W : World, (Instr.typeAssert (.iface 54 (.map p) : Value) 20 85 true).run Tryd.prog W = .ok (.tuple #[.int .u16 0, .bool false]) W := fun _ => by kernel_rfl
  have ht_uint32 : ∀ W : World, (Instr.typeAssert (.iface 54 (.map p) : Value) 20 86 true).run Tryd.prog W = .ok (.tuple #[.int .u32 0, .bool false]) W := fun _ => by kernel_rfl
  have ht_uint64 : ∀ W : World, (Instr.typeAssert (.iface 54 (.map p) : Value) 20 46 true).run Tryd.prog W = .ok (.tuple #[.int .u64 0, .bool false]) W := fun _ => by kernel_rfl
  have ht_float32 : ∀ W : World, (Instr.typeAssert (.iface 54 (.map p) : Value) 20 81 true).run Tryd.prog W = .ok (.tuple #[.float .f32 0, .bool false]) W := fun _ => by kernel_rfl
  have ht_float64 : ∀ W : World, (Instr.typeAssert (.iface 54 (.map p) : Value) 20 22 true).run Tryd.prog W = .ok (.tuple #[.float .f64 0, .bool false]) W := fun _ => by kernel_rfl
  have ht_bool : ∀ W : World, (Instr.typeAssert (.iface 54 (.map p) : Value) 20 4 true).run Tryd.prog W = .ok (.tuple #[.bool false, .bool false]) W := fun _ => by kernel_rfl
  have ht_string : ∀ W : World, (Instr.typeAssert (.iface 54 (.map p) : Value) 20 9 true).run Tryd.prog W = .ok (.tuple #[.string ⟨#[]⟩, .bool false]) W := fun _ => by kernel_rfl
  go_enter Tryd.func68, Tryd.ntmps68
  go_wp2
  go_ret2
  exact ⟨rfl, rfl⟩
set_option maxHeartbeats 1600000 in
set_option maxRecDepth 100000 in
theorem num_int_text (s : ByteArray) (w : World) : Calls Tryd.prog 68 #[.iface 9 (.string s)] w fun e w' => e = .returned (.tuple #[.int .i64 0, .bool false]) ∧ w = w' := by
  have ht_int : ∀ W : World, (Instr.typeAssert (.iface 9 (.string s) : Value) 20 3 true).run Tryd.prog W = .ok (.tuple #[.int .i64 0, .bool false]) W := fun _ => by kernel_rfl
  have ht_int8 : ∀ W : World, (Instr.typeAssert (.iface 9 (.string s) : Value) 20 83 true).run Tryd.prog W = .ok (.tuple #[.int .i8 0, .bool false]) W := fun _ => by kernel_rfl
  have ht_int16 : ∀ W : World, (Instr.typeAssert (.iface 9 (.string s) : Value) 20 84 true).run Tryd.prog W = .ok (.tuple #[.int .i16 0, .bool false]) W := fun _ => by kernel_rfl
  have ht_int32 : ∀ W : World, (Instr.typeAssert (.iface 9 (.string s) : Value) 20 21 true).run Tryd.prog W = .ok (.tuple #[.int .i32 0, .bool false]) W := fun _ => by kernel_rfl
  have ht_int64 : ∀ W : World, (Instr.typeAssert (.iface 9 (.string s) : Value) 20 2 true).run Tryd.prog W = .ok (.tuple #[.int .i64 0, .bool false]) W := fun _ => by kernel_rfl
  have ht_uint : ∀ W : World, (Instr.typeAssert (.iface 9 (.string s) : Value) 20 65 true).run Tryd.prog W = .ok (.tuple #[.int .u64 0, .bool false]) W := fun _ => by kernel_rfl
  have ht_uint8 : ∀ W : World, (Instr.typeAssert (.iface 9 (.string s) : Value) 20 5 true).run Tryd.prog W = .ok (.tuple #[.int .u8 0, .bool false]) W := fun _ => by kernel_rfl
  have ht_uint16 : ∀ W : World, (Instr.typeAssert (.iface 9 (.string s) : Value) 20 85 true).run Tryd.prog W = .ok (.tuple #[.int .u16 0, .bool false]) W := fun _ => by kernel_rfl
  have ht_uint32 : ∀ W : World, (Instr.typeAssert (.iface 9 (.string s) : Value) 20 86 true).run Tryd.prog W = .ok (.tuple #[.int .u32 0, .bool false]) W := fun _ => by kernel_rfl
  have ht_uint64 : ∀ W : World, (Instr.typeAssert (.iface 9 (.string s) : Value) 20 46 true).run Tryd.prog W = .ok (.tuple #[.int .u64 0, .bool false]) W := fun _ => by kernel_rfl
  have ht_float32 : ∀ W : World, (Instr.typeAssert (.iface 9 (.string s) : Value) 20 81 true).run Tryd.prog W = .ok (.tuple #[.float .f32 0, .bool false]) W := fun _ => by kernel_rfl
  have ht_float64 : ∀ W : World, (Instr.typeAssert (.iface 9 (.string s) : Value) 20 22 true).run Tryd.prog W = .ok (.tuple #[.float .f64 0, .bool false]) W := fun _ => by kernel_rfl
  have ht_bool : ∀ W : World, (Instr.typeAssert (.iface 9 (.string s) : Value) 20 4 true).run Tryd.prog W = .ok (.tuple #[.bool false, .bool false]) W := fun _ => by kernel_rfl
  have ht_string : ∀ W : World, (Instr.typeAssert (.iface 9 (.string s) : Value) 20 9 true).run Tryd.prog W = .ok (.tuple #[.string s, .bool true]) W := fun _ => by kernel_rfl
  go_enter Tryd.func68, Tryd.ntmps68
  go_wp2
  go_ret2
  exact ⟨rfl, rfl⟩
set_option maxHeartbeats 1600000 in
set_option maxRecDepth 100000 in
theorem num_int_bool (b : Bool) (w : World) : Calls Tryd.prog 68 #[.iface 4 (.bool b)] w fun e w' => e = .returned (.tuple #[.int .i64 (if b = true then 1 else 0), .bool true]) ∧ w = w' := by
  have ht_int : ∀ W : World, (Instr.typeAssert (.iface 4 (.bool b) : Value) 20 3 true).run Tryd.prog W = .ok (.tuple #[.int .i64 0, .bool false]) W := fun _ => by kernel_rfl
  have ht_int8 : ∀ W : World, (Instr.typeAssert (.iface 4 (.bool b) : Value) 20 83 true).run Tryd.prog W = .ok (.tuple #[.int .i8 0, .bool false]) W := fun _ => by kernel_rfl
  have ht_int16 : ∀ W : World, (Instr.typeAssert (.iface 4 (.bool b) : Value) 20 84 true).run Tryd.prog W = .ok (.tuple #[.int .i16 0, .bool false]) W := fun _ => by kernel_rfl
  have ht_int32 : ∀ W : World, (Instr.typeAssert (.iface 4 (.bool b) : Value) 20 21 true).run Tryd.prog W = .ok (.tuple #[.int .i32 0, .bool false]) W := fun _ => by kernel_rfl
  have ht_int64 : ∀ W : World, (Instr.typeAssert (.iface 4 (.bool b) : Value) 20 2 true).run Tryd.prog W = .ok (.tuple #[.int .i64 0, .bool false]) W := fun _ => by kernel_rfl
  have ht_uint : ∀ W : World, (Instr.typeAssert (.iface 4 (.bool b) : Value) 20 65 true).run Tryd.prog W = .ok (.tuple #[.int .u64 0, .bool false]) W := fun _ => by kernel_rfl
  have ht_uint8 : ∀ W : World, (Instr.typeAssert (.iface 4 (.bool b) : Value) 20 5 true).run Tryd.prog W = .ok (.tuple #[.int .u8 0, .bool false]) W := fun _ => by kernel_rfl
  have ht_uint16 : ∀ W : World, (Instr.typeAssert (.iface 4 (.bool b) : Value) 20 85 true).run Tryd.prog W = .ok (.tuple #[.int .u16 0, .bool false]) W := fun _ => by kernel_rfl
  have ht_uint32 : ∀ W : World, (Instr.typeAssert (.iface 4 (.bool b) : Value) 20 86 true).run Tryd.prog W = .ok (.tuple #[.int .u32 0, .bool false]) W := fun _ => by kernel_rfl
  have ht_uint64 : ∀ W : World, (Instr.typeAssert (.iface 4 (.bool b) : Value) 20 46 true).run Tryd.prog W = .ok (.tuple #[.int .u64 0, .bool false]) W := fun _ => by kernel_rfl
  have ht_float32 : ∀ W : World, (Instr.typeAssert (.iface 4 (.bool b) : Value) 20 81 true).run Tryd.prog W = .ok (.tuple #[.float .f32 0, .bool false]) W := fun _ => by kernel_rfl
  have ht_float64 : ∀ W : World, (Instr.typeAssert (.iface 4 (.bool b) : Value) 20 22 true).run Tryd.prog W = .ok (.tuple #[.float .f64 0, .bool false]) W := fun _ => by kernel_rfl
  have ht_bool : ∀ W : World, (Instr.typeAssert (.iface 4 (.bool b) : Value) 20 4 true).run Tryd.prog W = .ok (.tuple #[.bool b, .bool true]) W := fun _ => by kernel_rfl
  have ht_string : ∀ W : World, (Instr.typeAssert (.iface 4 (.bool b) : Value) 20 9 true).run Tryd.prog W = .ok (.tuple #[.string ⟨#[]⟩, .bool false]) W := fun _ => by kernel_rfl
  cases b with
  | true =>
    go_enter Tryd.func68, Tryd.ntmps68
    go_wp2
    go_ret2
    exact ⟨rfl, rfl⟩
  | false =>
    go_enter Tryd.func68, Tryd.ntmps68
    go_wp2
    go_ret2
    exact ⟨rfl, rfl⟩
set_option maxHeartbeats 1600000 in
set_option maxRecDepth 100000 in
theorem num_int64_nil (w : World) : Calls Tryd.prog 72 #[.nilIface] w fun e w' => e = .returned (.tuple #[.int .i64 0, .bool true]) ∧ w = w' := by
  have ht_int : ∀ W : World, (Instr.typeAssert (.nilIface : Value) 20 3 true).run Tryd.prog W = .ok (.tuple #[.int .i64 0, .bool false]) W := fun _ => by kernel_rfl
  have ht_int8 : ∀ W : World, (Instr.typeAssert (.nilIface : Value) 20 83 true).run Tryd.prog W = .ok (.tuple #[.int .i8 0, .bool false]) W := fun _ => by kernel_rfl
  have ht_int16 : ∀ W : World, (Instr.typeAssert (.nilIface : Value) 20 84 true).run Tryd.prog W = .ok (.tuple #[.int .i16 0, .bool false]) W := fun _ => by kernel_rfl
  have ht_int32 : ∀ W : World, (Instr.typeAssert (.nilIface : Value) 20 21 true).run Tryd.prog W = .ok (.tuple #[.int .i32 0, .bool false]) W := fun _ => by kernel_rfl
  have ht_int64 : ∀ W : World, (Instr.typeAssert (.nilIface : Value) 20 2 true).run Tryd.prog W = .ok (.tuple #[.int .i64 0, .bool false]) W := fun _ => by kernel_rfl
  have ht_uint : ∀ W : World, (Instr.typeAssert (.nilIface : Value) 20 65 true).run Tryd.prog W = .ok (.tuple #[.int .u64 0, .bool false]) W := fun _ => by kernel_rfl
  have ht_uint8 : ∀ W : World, (Instr.typeAssert (.nilIface : Value) 20 5 true).run Tryd.prog W = .ok (.tuple #[.int .u8 0, .bool false]) W := fun _ => by kernel_rfl
  have ht_uint16 : ∀ W : World, (Instr.typeAssert (.nilIface : Value) 20 85 true).run Tryd.prog W = .ok (.tuple #[.int .u16 0, .bool false]) W := fun _ => by kernel_rfl
  have ht_uint32 : ∀ W : World, (Instr.typeAssert (.nilIface : Value) 20 86 true).run Tryd.prog W = .ok (.tuple #[.int .u32 0, .bool false]) W := fun _ => by kernel_rfl
  have ht_uint64 : ∀ W : World, (Instr.typeAssert (.nilIface : Value) 20 46 true).run Tryd.prog W = .ok (.tuple #[.int .u64 0, .bool false]) W := fun _ => by kernel_rfl
  have ht_float32 : ∀ W : World, (Instr.typeAssert (.nilIface : Value) 20 81 true).run Tryd.prog W = .ok (.tuple #[.float .f32 0, .bool false]) W := fun _ => by kernel_rfl
  have ht_float64 : ∀ W : World, (Instr.typeAssert (.nilIface : Value) 20 22 true).run Tryd.prog W = .ok (.tuple #[.float .f64 0, .bool false]) W := fun _ => by kernel_rfl
  have ht_bool : ∀ W : World, (Instr.typeAssert (.nilIface : Value) 20 4 true).run Tryd.prog W = .ok (.tuple #[.bool false, .bool false]) W := fun _ => by kernel_rfl
  have ht_string : ∀ W : World, (Instr.typeAssert (.nilIface : Value) 20 9 true).run Tryd.prog W = .ok (.tuple #[.string ⟨#[]⟩, .bool false]) W := fun _ => by kernel_rfl
  go_enter Tryd.func72, Tryd.ntmps72
  go_wp2
  go_ret2
  exact ⟨rfl, rfl⟩
set_option maxHeartbeats 1600000 in
set_option maxRecDepth 100000 in
theorem num_int64_list (A : Option Addr) (n c : Nat) (w : World) : Calls Tryd.prog 72 #[.iface 39 (.slice A n c)] w fun e w' => e = .returned (.tuple #[.int .i64 0, .bool false]) ∧ w = w' := by
  have ht_int : ∀ W : World, (Instr.typeAssert (.iface 39 (.slice A n c) : Value) 20 3 true).run Tryd.prog W = .ok (.tuple #[.int .i64 0, .bool false]) W := fun _ => by kernel_rfl
  have ht_int8 : ∀ W : World, (Instr.typeAssert (.iface 39 (.slice A n c) : Value) 20 83 true).run Tryd.prog W = .ok (.tuple #[.int .i8 0, .bool false]) W := fun _ => by kernel_rfl
  have ht_int16 : ∀ W : World, (Instr.typeAssert (.iface 39 (.slice A n c) : Value) 20 84 true).run Tryd.prog W = .ok (.tuple #[.int .i16 0, .bool false]) W := fun _ => by kernel_rfl
  have ht_int32 : ∀ W : World, (Instr.typeAssert (.iface 39 (.slice A n c) : Value) 20 21 true).run Tryd.prog W = .ok (.tuple #[.int .i32 0, .bool false]) W := fun _ => by kernel_rfl
  have ht_int64 : ∀ W : World, (Instr.typeAssert (.iface 39 (.slice A n c) : Value) 20 2 true).run Tryd.prog W = .ok (.tuple #[.int .i64 0, .bool false]) W := fun _ => by kernel_rfl
  have ht_uint : ∀ W : World, (Instr.typeAssert (.iface 39 (.slice A n c) : Value) 20 65 true).run Tryd.prog W = .ok (.tuple #[.int .u64 0, .bool false]) W := fun _ => by kernel_rfl
  have ht_uint8 : ∀ W : World, (Instr.typeAssert (.iface 39 (.slice A n c) : Value) 20 5 true).run Tryd.prog W = .ok (.tuple #[.int .u8 0, .bool false]) W := fun _ => by kernel_rfl
  have ht_uint16 : ∀ W : World, (Instr.typeAssert (.iface 39 (.slice A n c) : Value) 20 85 true).run Tryd.prog W = .ok (.tuple #[.int .u16 0, .bool false]) W := fun _ => by kernel_rfl
  have ht_uint32 : ∀ W : World, (Instr.typeAssert (.iface 39 (.slice A n c) : Value) 20 86 true).run Tryd.prog W = .ok (.tuple #[.int .u32 0, .bool false]) W := fun _ => by kernel_rfl
  have ht_uint64 : ∀ W : World, (Instr.typeAssert (.iface 39 (.slice A n c) : Value) 20 46 true).run Tryd.prog W = .ok (.tuple #[.int .u64 0, .bool false]) W := fun _ => by kernel_rfl
  have ht_float32 : ∀ W : World, (Instr.typeAssert (.iface 39 (.slice A n c) : Value) 20 81 true).run Tryd.prog W = .ok (.tuple #[.float .f32 0, .bool false]) W := fun _ => by kernel_rfl
  have ht_float64 : ∀ W : World, (Instr.typeAssert (.iface 39 (.slice A n c) : Value) 20 22 true).run Tryd.prog W = .ok (.tuple #[.float .f64 0, .bool false]) W := fun _ => by kernel_rfl
  have ht_bool : ∀ W : World, (Instr.typeAssert (.iface 39 (.slice A n c) : Value) 20 4 true).run Tryd.prog W = .ok (.tuple #[.bool false, .bool false]) W := fun _ => by kernel_rfl
  have ht_string : ∀ W : World, (Instr.typeAssert (.iface 39 (.slice A n c) : Value) 20 9 true).run Tryd.prog W = .ok (.tuple #[.string ⟨#[]⟩, .bool false]) W := fun _ => by kernel_rfl
  go_enter Tryd.func72, Tryd.ntmps72
  go_wp2
  go_ret2
  exact ⟨rfl, rfl⟩
set_option maxHeartbeats 1600000 in
set_option maxRecDepth 100000 in
theorem num_int64_dict (p : Option Nat) (w : World) : Calls Tryd.prog 72 #[.iface 54 (.map p)] w fun e w' => e = .returned (.tuple #[.int .i64 0, .bool false]) ∧ w = w' := by
  have ht_int : ∀ W : World, (Instr.typeAssert (.iface 54 (.map p) : Value) 20 3 true).run Tryd.prog W = .ok (.tuple #[.int .i64 0, .bool false]) W := fun _ => by kernel_rfl
  have ht_int8 : ∀ W : World, (Instr.typeAssert (.iface 54 (.map p) : Value) 20 83 true).run Tryd.prog W = .ok (.tuple #[.int .i8 0, .bool false]) W := fun _ => by kernel_rfl
  have ht_int16 : ∀ W : World, (Instr.typeAssert (.iface 54 (.map p) : Value) 20 84 true).run Tryd.prog W = .ok (.tuple #[.int .i16 0, .bool false]) W := fun _ => by kernel_rfl
  have ht_int32 : ∀ W : World, (Instr.typeAssert (.iface 54 (.map p) : Value) 20 21 true).run Tryd.prog W = .ok (.tuple #[.int .i32 0, .bool false]) W := fun _ => by kernel_rfl
  have ht_int64 : ∀ W : World, (Instr.typeAssert (.iface 54 (.map p) : Value) 20 2 true).run Tryd.prog W = .ok (.tuple #[.int .i64 0, .bool false]) W := fun _ => by kernel_rfl
  have ht_uint : ∀ W : World, (Instr.typeAssert (.iface 54 (.map p) : Value) 20 65 true).run Tryd.prog W = .ok (.tuple #[.int .u64 0, .bool false]) W := fun _ => by kernel_rfl
  have ht_uint8 : ∀ W : World, (Instr.typeAssert (.iface 54 (.map p) : Value) 20 5 true).run Tryd.prog W = .ok (.tuple #[.int .u8 0, .bool false]) W := fun _ => by kernel_rfl
  have ht_uint16 : ∀ W : World, (Instr.typeAssert (.iface 54 (.map p) : Value) 20 85 true).run Tryd.prog W = .ok (.tuple #[.int .u16 0, .bool false]) W := fun _ => by kernel_rfl
  have ht_uint32 : ∀ W : World, (Instr.typeAssert (.iface 54 (.map p) : Value) 20 86 true).run Tryd.prog W = .ok (.tuple #[.int .u32 0, .bool false]) W := fun _ => by kernel_rfl
  have ht_uint64 : ∀ W : World, (Instr.typeAssert (.iface 54 (.map p) : Value) 20 46 true).run Tryd.prog W = .ok (.tuple #[.int .u64 0, .bool false]) W := fun _ => by kernel_rfl
  have ht_float32 : ∀ W : World, (Instr.typeAssert (.iface 54 (.map p) : Value) 20 81 true).run Tryd.prog W = .ok (.tuple #[.float .f32 0, .bool false]) W := fun _ => by kernel_rfl
  have ht_float64 : ∀ W : World, (Instr.typeAssert (.iface 54 (.map p) : Value) 20 22 true).run Tryd.prog W = .ok (.tuple #[.float .f64 0, .bool false]) W := fun _ => by kernel_rfl
  have ht_bool : ∀ W : World, (Instr.typeAssert (.iface 54 (.map p) : Value) 20 4 true).run Tryd.prog W = .ok (.tuple #[.bool false, .bool false]) W := fun _ => by kernel_rfl
  have ht_string : ∀ W : World, (Instr.typeAssert (.iface 54 (.map p) : Value) 20 9 true).run Tryd.prog W = .ok (.tuple #[.string ⟨#[]⟩, .bool false]) W := fun _ => by kernel_rfl
  go_enter Tryd.func72, Tryd.ntmps72
  go_wp2
  go_ret2
  exact ⟨rfl, rfl⟩
set_option maxHeartbeats 1600000 in
set_option maxRecDepth 100000 in
theorem num_int64_text (s : ByteArray) (w : World) : Calls Tryd.prog 72 #[.iface 9 (.string s)] w fun e w' => e = .returned (.tuple #[.int .i64 0, .bool false]) ∧ w = w' := by
  have ht_int : ∀ W : World, (Instr.typeAssert (.iface 9 (.string s) : Value) 20 3 true).run Tryd.prog W = .ok (.tuple #[.int .i64 0, .bool false]) W := fun _ => by kernel_rfl
  have ht_int8 : ∀ W : World, (Instr.typeAssert (.iface 9 (.string s) : Value) 20 83 true).run Tryd.prog W = .ok (.tuple #[.int .i8 0, .bool false]) W := fun _ => by kernel_rfl
  have ht_int16 : ∀ W : World, (Instr.typeAssert (.iface 9 (.string s) : Value) 20 84 true).run Tryd.prog W = .ok (.tuple #[.int .i16 0, .bool false]) W := fun _ => by kernel_rfl
  have ht_int32 : ∀ W : World, (Instr.typeAssert (.iface 9 (.string s) : Value) 20 21 true).run Tryd.prog W = .ok (.tuple #[.int .i32 0, .bool false]) W := fun _ => by kernel_rfl
  have ht_int64 : ∀ W : World, (Instr.typeAssert (.iface 9 (.string s) : Value) 20 2 true).run Tryd.prog W = .ok (.tuple #[.int .i64 0, .bool false]) W := fun _ => by kernel_rfl
  have ht_uint : ∀ W : World, (Instr.typeAssert (.iface 9 (.string s) : Value) 20 65 true).run Tryd.prog W = .ok (.tuple #[.int .u64 0, .bool false]) W := fun _ => by kernel_rfl
  have ht_uint8 : ∀ W : World, (Instr.typeAssert (.iface 9 (.string s) : Value) 20 5 true).run Tryd.prog W = .ok (.tuple #[.int .u8 0, .bool false]) W := fun _ => by kernel_rfl
  have ht_uint16 : ∀ W : World, (Instr.typeAssert (.iface 9 (.string s) : Value) 20 85 true).run Tryd.prog W = .ok (.tuple #[.int .u16 0, .bool false]) W := fun _ => by kernel_rfl
  have ht_uint32 : ∀ W : World, (Instr.typeAssert (.iface 9 (.string s) : Value) 20 86 true).run Tryd.prog W = .ok (.tuple #[.int .u32 0, .bool false]) W := fun _ => by kernel_rfl
  have ht_uint64 : ∀ W : World, (Instr.typeAssert (.iface 9 (.string s) : Value) 20 46 true).run Tryd.prog W = .ok (.tuple #[.int .u64 0, .bool false]) W := fun _ => by kernel_rfl
  have ht_float32 : ∀ W : World, (Instr.typeAssert (.iface 9 (.string s) : Value) 20 81 true).run Tryd.prog W = .ok (.tuple #[.float .f32 0, .bool false]) W := fun _ => by kernel_rfl
  have ht_float64 : ∀ W : World, (Instr.typeAssert (.iface 9 (.string s) : Value) 20 22 true).run Tryd.prog W = .ok (.tuple #[.float .f64 0, .bool false]) W := fun _ => by kernel_rfl
  have ht_bool : ∀ W : World, (Instr.typeAssert (.iface 9 (.string s) : Value) 20 4 true).run Tryd.prog W = .ok (.tuple #[.bool false, .bool false]) W := fun _ => by kernel_rfl
  have ht_string : ∀ W : World, (Instr.typeAssert (.iface 9 (.string s) : Value) 20 9 true).run Tryd.prog W = .ok (.tuple #[.string s, .bool true]) W := fun _ => by kernel_rfl
  go_enter Tryd.func72, Tryd.ntmps72
  go_wp2
  go_ret2
  exact ⟨rfl, rfl⟩
set_option maxHeartbeats 1600000 in
set_option maxRecDepth 100000 in
theorem num_int64_bool (b : Bool) (w : World) : Calls Tryd.prog 72 #[.iface 4 (.bool b)] w fun e w' => e = .returned (.tuple #[.int .i64 (if b = true then 1 else 0), .bool true]) ∧ w = w' := by
  have ht_int : ∀ W : World, (Instr.typeAssert (.iface 4 (.bool b) : Value) 20 3 true).run Tryd.prog W = .ok (.tuple #[.int .i64 0, .bool false]) W := fun _ => by kernel_rfl
  have ht_int8 : ∀ W : World, (Instr.typeAssert (.iface 4 (.bool b) : Value) 20 83 true).run Tryd.prog W = .ok (.tuple #[.int .i8 0, .bool false]) W := fun _ => by kernel_rfl
  have ht_int16 : ∀ W : World, (Instr.typeAssert (.iface 4 (.bool b) : Value) 20 84 true).run Tryd.prog W = .ok (.tuple #[.int .i16 0, .bool false]) W := fun _ => by kernel_rfl
  have ht_int32 : ∀ W : World, (Instr.typeAssert (.iface 4 (.bool b) : Value) 20 21 true).run Tryd.prog W = .ok (.tuple #[.int .i32 0, .bool false]) W := fun _ => by kernel_rfl
  have ht_int64 : ∀ W : World, (Instr.typeAssert (.iface 4 (.bool b) : Value) 20 2 true).run Tryd.prog W = .ok (.tuple #[.int .i64 0, .bool false]) W := fun _ => by kernel_rfl
  have ht_uint : ∀ W : World, (Instr.typeAssert (.iface 4 (.bool b) : Value) 20 65 true).run Tryd.prog W = .ok (.tuple #[.int .u64 0, .bool false]) W := fun _ => by kernel_rfl
  have ht_uint8 : ∀ W : World, (Instr.typeAssert (.iface 4 (.bool b) : Value) 20 5 true).run Tryd.prog W = .ok (.tuple #[.int .u8 0, .bool false]) W := fun _ => by kernel_rfl
  have ht_uint16 : ∀ W : World, (Instr.typeAssert (.iface 4 (.bool b) : Value) 20 85 true).run Tryd.prog W = .ok (.tuple #[.int .u16 0, .bool false]) W := fun _ => by kernel_rfl
  have ht_uint32 : ∀ W : World, (Instr.typeAssert (.iface 4 (.bool b) : Value) 20 86 true).run Tryd.prog W = .ok (.tuple #[.int .u32 0, .bool false]) W := fun _ => by kernel_rfl
  have ht_uint64 : ∀ W : World, (Instr.typeAssert (.iface 4 (.bool b) : Value) 20 46 true).run Tryd.prog W = .ok (.tuple #[.int .u64 0, .bool false]) W := fun _ => by kernel_rfl
  have ht_float32 : ∀ W : World, (Instr.typeAssert (.iface 4 (.bool b) : Value) 20 81 true).run Tryd.prog W = .ok (.tuple #[.float .f32 0, .bool false]) W := fun _ => by kernel_rfl
  have ht_float64 : ∀ W : World, (Instr.typeAssert (.iface 4 (.bool b) : Value) 20 22 true).run Tryd.prog W = .ok (.tuple #[.float .f64 0, .bool false]) W := fun _ => by kernel_rfl
  have ht_bool : ∀ W : World, (Instr.typeAssert (.iface 4 (.bool b) : Value) 20 4 true).run Tryd.prog W = .ok (.tuple #[.bool b, .bool true]) W := fun _ => by kernel_rfl
  have ht_string : ∀ W : World, (Instr.typeAssert (.iface 4 (.bool b) : Value) 20 9 true).run Tryd.prog W = .ok (.tuple #[.string ⟨#[]⟩, .bool false]) W := fun _ => by kernel_rfl
  cases b with
  | true =>
    go_enter Tryd.func72, Tryd.ntmps72
    go_wp2
    go_ret2
    exact ⟨rfl, rfl⟩
  | false =>
    go_enter Tryd.func72, Tryd.ntmps72
    go_wp2
    go_ret2
    exact ⟨rfl, rfl⟩
set_option maxHeartbeats 1600000 in
set_option maxRecDepth 100000 in
theorem num_float64_bool (w : World) : Calls Tryd.prog 73 #[.iface 4 (.bool true)] w fun e w' => e = .returned (.tuple #[.float .f64 4607182418800017408, .bool true]) ∧ w = w' := by
  have ht_int : ∀ W : World, (Instr.typeAssert (.iface 4 (.bool true) : Value) 20 3 true).run Tryd.prog W = .ok (.tuple #[.int .i64 0, .bool false]) W := fun _ => by kernel_rfl
  have ht_int8 : ∀ W : World, (Instr.typeAssert (.iface 4 (.bool true) : Value) 20 83 true).run Tryd.prog W = .ok (.tuple #[.int .i8 0, .bool false]) W := fun _ => by kernel_rfl
  have ht_int16 : ∀ W : World, (Instr.typeAssert (.iface 4 (.bool true) : Value) 20 84 true).run Tryd.prog W = .ok (.tuple #[.int .i16 0, .bool false]) W := fun _ => by kernel_rfl
  have ht_int32 : ∀ W : World, (Instr.typeAssert (.iface 4 (.bool true) : Value) 20 21 true).run Tryd.prog W = .ok (.tuple #[.int .i32 0, .bool false]) W := fun _ => by kernel_rfl
  have ht_int64 : ∀ W : World, (Instr.typeAssert (.iface 4 (.bool true) : Value) 20 2 true).run Tryd.prog W = .ok (.tuple #[.int .i64 0, .bool false]) W := fun _ => by kernel_rfl
  have ht_uint : ∀ W : World, (Instr.typeAssert (.iface 4 (.bool true) : Value) 20 65 true).run Tryd.prog W = .ok (.tuple #[.int .u64 0, .bool false]) W := fun _ => by kernel_rfl
  have ht_uint8 : ∀ W : World, (Instr.typeAssert (.iface 4 (.bool true) : Value) 20 5 true).run Tryd.prog W = .ok (.tuple #[.int .u8 0, .bool false]) W := fun _ => by kernel_rfl
  have ht_uint16 : ∀ W : World, (Instr.typeAssert (.iface 4 (.bool true) : Value) 20 85 true).run Tryd.prog W = .ok (.tuple #[.int .u16 0, .bool false]) W := fun _ => by kernel_rfl
  have ht_uint32 : ∀ W : World, (Instr.typeAssert (.iface 4 (.bool true) : Value) 20 86 true).run Tryd.prog W = .ok (.tuple #[.int .u32 0, .bool false]) W := fun _ => by kernel_rfl
  have ht_uint64 : ∀ W : World, (Instr.typeAssert (.iface 4 (.bool true) : Value) 20 46 true).run Tryd.prog W = .ok (.tuple #[.int .u64 0, .bool false]) W := fun _ => by kernel_rfl
  have ht_float32 : ∀ W : World, (Instr.typeAssert (.iface 4 (.bool true) : Value) 20 81 true).run Tryd.prog W = .ok (.tuple #[.float .f32 0, .bool false]) W := fun _ => by kernel_rfl
  have ht_float64 : ∀ W : World, (Instr.typeAssert (.iface 4 (.bool true) : Value) 20 22 true).run Tryd.prog W = .ok (.tuple #[.float .f64 0, .bool false]) W := fun _ => by kernel_rfl
  have ht_bool : ∀ W : World, (Instr.typeAssert (.iface 4 (.bool true) : Value) 20 4 true).run Tryd.prog W = .ok (.tuple #[.bool true, .bool true]) W := fun _ => by kernel_rfl
  have ht_string : ∀ W : World, (Instr.typeAssert (.iface 4 (.bool true) : Value) 20 9 true).run Tryd.prog W = .ok (.tuple #[.string ⟨#[]⟩, .bool false]) W := fun _ => by kernel_rfl
  go_enter Tryd.func73, Tryd.ntmps73
  go_wp2
  go_ret2
  exact ⟨rfl, rfl⟩
theorem empty_c {s : ByteArray} (h : s.size = 0) : s.toList.isEmpty = true := by
  rw [ByteArray.toList_eq]
  have h2 := size_list s
  rw [h] at h2
  rw [List.isEmpty_iff]
  exact List.length_eq_zero_iff.1 h2
set_option maxHeartbeats 1600000 in
set_option maxRecDepth 100000 in
theorem cast_int_nil (w : World) : Calls Tryd.prog 54 #[.nilIface] w fun e w' => e = .returned (.int .i64 0) ∧ w = w' := by
  go_enter Tryd.func54, Tryd.ntmps54
  go_wp2_with (first | (go_at_call 68; refine (num_int_nil  _).mono ?_; rintro e w' ⟨rfl, rfl⟩) | go_in)
  go_ret
  exact ⟨rfl, rfl⟩
set_option maxHeartbeats 1600000 in
set_option maxRecDepth 100000 in
theorem cast_int_list (A : Option Addr) (n c : Nat) (w : World) : Calls Tryd.prog 54 #[.iface 39 (.slice A n c)] w fun e w' => e = .returned (.int .i64 0) ∧ Below w.heap.size w w' := by
  have ht : ∀ W : World, (Instr.typeAssert (.iface 39 (.slice A n c) : Value) 20 9 true).run Tryd.prog W = .ok (.tuple #[.string ⟨#[]⟩, .bool false]) W := fun _ => by kernel_rfl
  go_enter Tryd.func54, Tryd.ntmps54
  go_wp2_with (first | (go_at_call 68; refine (num_int_list A n c _).mono ?_; rintro e w' ⟨rfl, rfl⟩) | (go_at_call 69; refine (errors_New.calls _ _).mono ?_; rintro e w1 ⟨⟨y, rfl⟩, hb⟩) | go_in)
  go_ret
  exact ⟨rfl, hb⟩
set_option maxHeartbeats 1600000 in
set_option maxRecDepth 100000 in
theorem cast_int_dict (p : Option Nat) (w : World) : Calls Tryd.prog 54 #[.iface 54 (.map p)] w fun e w' => e = .returned (.int .i64 0) ∧ Below w.heap.size w w' := by
  have ht : ∀ W : World, (Instr.typeAssert (.iface 54 (.map p) : Value) 20 9 true).run Tryd.prog W = .ok (.tuple #[.string ⟨#[]⟩, .bool false]) W := fun _ => by kernel_rfl
  go_enter Tryd.func54, Tryd.ntmps54
  go_wp2_with (first | (go_at_call 68; refine (num_int_dict p _).mono ?_; rintro e w' ⟨rfl, rfl⟩) | (go_at_call 69; refine (errors_New.calls _ _).mono ?_; rintro e w1 ⟨⟨y, rfl⟩, hb⟩) | go_in)
  go_ret
  exact ⟨rfl, hb⟩
set_option maxHeartbeats 1600000 in
set_option maxRecDepth 100000 in
theorem cast_int_text0 (s : ByteArray) (h0 : s.size = 0) (w : World) : Calls Tryd.prog 54 #[.iface 9 (.string s)] w fun e w' => e = .returned (.int .i64 0) ∧ w = w' := by
  have ht : ∀ W : World, (Instr.typeAssert (.iface 9 (.string s) : Value) 20 9 true).run Tryd.prog W = .ok (.tuple #[.string s, .bool true]) W := fun _ => by kernel_rfl
  have hne : s.toList.isEmpty = true := empty_c h0
  clear h0
  go_enter Tryd.func54, Tryd.ntmps54
  go_wp2_with (first | (go_at_call 68; refine (num_int_text s _).mono ?_; rintro e w' ⟨rfl, rfl⟩) | go_in)
  go_ret
  exact ⟨rfl, rfl⟩
set_option maxHeartbeats 1600000 in
set_option maxRecDepth 100000 in
theorem cast_int_text (s : ByteArray) (h0 : 0 < s.size) (hs : s.size ≤ 2147483647) (hl : Low s) (w : World) (hE : TabsE w) : Calls Tryd.prog 54 #[.iface 9 (.string s)] w fun e w' => e = .returned (.int .i64 0) ∧ Below w.heap.size w w' := by
  have ht : ∀ W : World, (Instr.typeAssert (.iface 9 (.string s) : Value) 20 9 true).run Tryd.prog W = .ok (.tuple #[.string s, .bool true]) W := fun _ => by kernel_rfl
  have hne : s.toList.isEmpty = false := full_c h0
  have HP := Lib.hid (parse_int s h0 hs hl w hE)
  clear h0 hl hE
  go_enter Tryd.func54, Tryd.ntmps54
  go_wp2_with (first | (go_at_call 68; refine (num_int_text s _).mono ?_; rintro e w' ⟨rfl, rfl⟩) | (go_at_call 63; refine HP.out.mono ?_; rintro e w1 ⟨⟨ty, y, rfl⟩, hb1⟩) | (go_at_call 69; refine (errors_New.calls _ _).mono ?_; rintro e w2 ⟨⟨y2, rfl⟩, hb2⟩) | go_in)
  go_ret
  exact ⟨rfl, hb1.trans (hb2.mono hb1.size)⟩
set_option maxHeartbeats 1600000 in
set_option maxRecDepth 100000 in
theorem cast_int_true (w : World) : Calls Tryd.prog 54 #[.iface 4 (.bool true)] w fun e w' => e = .returned (.int .i64 1) ∧ w = w' := by
  go_enter Tryd.func54, Tryd.ntmps54
  go_wp2_with (first | (go_at_call 68; refine (num_int_bool true _).mono ?_; rintro e w' ⟨rfl, rfl⟩) | go_in)
  go_ret
  exact ⟨rfl, rfl⟩
set_option maxHeartbeats 1600000 in
set_option maxRecDepth 100000 in
theorem cast_int_false (w : World) : Calls Tryd.prog 54 #[.iface 4 (.bool false)] w fun e w' => e = .returned (.int .i64 0) ∧ w = w' := by
  go_enter Tryd.func54, Tryd.ntmps54
  go_wp2_with (first | (go_at_call 68; refine (num_int_bool false _).mono ?_; rintro e w' ⟨rfl, rfl⟩) | go_in)
  go_ret
  exact ⟨rfl, rfl⟩
set_option maxHeartbeats 1600000 in
set_option maxRecDepth 100000 in
theorem cast_int64_nil (w : World) : Calls Tryd.prog 55 #[.nilIface] w fun e w' => e = .returned (.int .i64 0) ∧ w = w' := by
  go_enter Tryd.func55, Tryd.ntmps55
  go_wp2_with (first | (go_at_call 72; refine (num_int64_nil  _).mono ?_; rintro e w' ⟨rfl, rfl⟩) | go_in)
  go_ret
  exact ⟨rfl, rfl⟩
set_option maxHeartbeats 1600000 in
set_option maxRecDepth 100000 in
theorem cast_int64_list (A : Option Addr) (n c : Nat) (w : World) : Calls Tryd.prog 55 #[.iface 39 (.slice A n c)] w fun e w' => e = .returned (.int .i64 0) ∧ Below w.heap.size w w' := by
  have ht : ∀ W : World, (Instr.typeAssert (.iface 39 (.slice A n c) : Value) 20 9 true).run Tryd.prog W = .ok (.tuple #[.string ⟨#[]⟩, .bool false]) W := fun _ => by kernel_rfl
  go_enter Tryd.func55, Tryd.ntmps55
  go_wp2_with (first | (go_at_call 72; refine (num_int64_list A n c _).mono ?_; rintro e w' ⟨rfl, rfl⟩) | (go_at_call 69; refine (errors_New.calls _ _).mono ?_; rintro e w1 ⟨⟨y, rfl⟩, hb⟩) | go_in)
  go_ret
  exact ⟨rfl, hb⟩
set_option maxHeartbeats 1600000 in
set_option maxRecDepth 100000 in
theorem cast_int64_dict (p : Option Nat) (w : World) : Calls Tryd.prog 55 #[.iface 54 (.map p)] w fun e w' => e = .returned (.int .i64 0) ∧ Below w.heap.size w w' := by
  have ht : ∀ W : World, (Instr.typeAssert (.iface 54 (.map p) : Value) 20 9 true).run Tryd.prog W = .ok (.tuple #[.string ⟨#[]⟩, .bool false]) W := fun _ => by kernel_rfl
  go_enter Tryd.func55, Tryd.ntmps55
  go_wp2_with (first | (go_at_call 72; refine (num_int64_dict p _).mono ?_; rintro e w' ⟨rfl, rfl⟩) | (go_at_call 69; refine (errors_New.calls _ _).mono ?_; rintro e w1 ⟨⟨y, rfl⟩, hb⟩) | go_in)
  go_ret
  exact ⟨rfl, hb⟩
set_option maxHeartbeats 1600000 in
set_option maxRecDepth 100000 in
theorem cast_int64_text0 (s : ByteArray) (h0 : s.size = 0) (w : World) : Calls Tryd.prog 55 #[.iface 9 (.string s)] w fun e w' => e = .returned (.int .i64 0) ∧ w = w' := by
  have ht : ∀ W : World, (Instr.typeAssert (.iface 9 (.string s) : Value) 20 9 true).run Tryd.prog W = .ok (.tuple #[.string s, .bool true]) W := fun _ => by kernel_rfl
  have hne : s.toList.isEmpty = true := empty_c h0
  clear h0
  go_enter Tryd.func55, Tryd.ntmps55
  go_wp2_with (first | (go_at_call 72; refine (num_int64_text s _).mono ?_; rintro e w' ⟨rfl, rfl⟩) | go_in)
  go_ret
  exact ⟨rfl, rfl⟩
set_option maxHeartbeats 1600000 in
set_option maxRecDepth 100000 in
theorem cast_int64_text (s : ByteArray) (h0 : 0 < s.size) (hs : s.size ≤ 2147483647) (hl : Low s) (w : World) (hE : TabsE w) : Calls Tryd.prog 55 #[.iface 9 (.string s)] w fun e w' => e = .returned (.int .i64 0) ∧ Below w.heap.size w w' := by
  have ht : ∀ W : World, (Instr.typeAssert (.iface 9 (.string s) : Value) 20 9 true).run Tryd.prog W = .ok (.tuple #[.string s, .bool true]) W := fun _ => by kernel_rfl
  have hne : s.toList.isEmpty = false := full_c h0
  have HP := Lib.hid (parse_int64 s h0 hs hl w hE)
  clear h0 hl hE
  go_enter Tryd.func55, Tryd.ntmps55
  go_wp2_with (first | (go_at_call 72; refine (num_int64_text s _).mono ?_; rintro e w' ⟨rfl, rfl⟩) | (go_at_call 65; refine HP.out.mono ?_; rintro e w1 ⟨⟨ty, y, rfl⟩, hb1⟩) | (go_at_call 69; refine (errors_New.calls _ _).mono ?_; rintro e w2 ⟨⟨y2, rfl⟩, hb2⟩) | go_in)
  go_ret
  exact ⟨rfl, hb1.trans (hb2.mono hb1.size)⟩
set_option maxHeartbeats 1600000 in
set_option maxRecDepth 100000 in
theorem cast_int64_true (w : World) : Calls Tryd.prog 55 #[.iface 4 (.bool true)] w fun e w' => e = .returned (.int .i64 1) ∧ w = w' := by
  go_enter Tryd.func55, Tryd.ntmps55
  go_wp2_with (first | (go_at_call 72; refine (num_int64_bool true _).mono ?_; rintro e w' ⟨rfl, rfl⟩) | go_in)
  go_ret
  exact ⟨rfl, rfl⟩
set_option maxHeartbeats 1600000 in
set_option maxRecDepth 100000 in
theorem cast_int64_false (w : World) : Calls Tryd.prog 55 #[.iface 4 (.bool false)] w fun e w' => e = .returned (.int .i64 0) ∧ w = w' := by
  go_enter Tryd.func55, Tryd.ntmps55
  go_wp2_with (first | (go_at_call 72; refine (num_int64_bool false _).mono ?_; rintro e w' ⟨rfl, rfl⟩) | go_in)
  go_ret
  exact ⟨rfl, rfl⟩
set_option maxHeartbeats 1600000 in
set_option maxRecDepth 100000 in
theorem cast_float64_true (w : World) : Calls Tryd.prog 56 #[.iface 4 (.bool true)] w fun e w' => e = .returned (.float .f64 4607182418800017408) ∧ w = w' := by
  go_enter Tryd.func56, Tryd.ntmps56
  go_wp2_with (first | (go_at_call 73; refine (num_float64_bool _).mono ?_; rintro e w' ⟨rfl, rfl⟩) | go_in)
  go_ret
  exact ⟨rfl, rfl⟩
end Go.Proofs.YtdconkiilelaoaaDoor.P
