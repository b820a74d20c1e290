/- impl.ToInt, ToInt64, ToFloat of a number. -/
import Derived.Test.YtbjoipclkapcjaaGreatDoorTi6
import Derived.Carry
set_option linter.unusedVariables false
set_option linter.unusedSimpArgs false
namespace Go.Proofs.YtbjoipclkapcjaaGreatDoor.P
open Go.RowKit Go.Proofs.YtbjoipclkapcjaaGreatDoorW.PrintWords Go.Proofs.YtbjoipclkapcjaaGreatDoorW.PrintLast Go.Proofs.YtbjoipclkapcjaaGreatDoorW.PrintMore
attribute [local go_sem] run_store_float

set_option maxHeartbeats 3200000 in
set_option maxRecDepth 100000 in
theorem cast_int_int (n : Int) (h1 : -1000000000000000 < n) (h2 : n < 1000000000000000) (w : World) : Calls Tryz.prog 23 #[.iface 3 (.int .i64 n)] w fun e w' => e = .returned (.int .i64 n) ∧ w = w' := by
  have HN := Lib.hid (fun W => num_int_int n h1 h2 W)
  clear h1 h2
  go_enter Tryz.func23, Tryz.ntmps23
  go_wp2_with (first | (go_at_call 42; refine (HN.out _).mono ?_; rintro e w' ⟨rfl, rfl⟩) | go_in)
  go_ret
  exact ⟨rfl, rfl⟩
set_option maxHeartbeats 3200000 in
set_option maxRecDepth 100000 in
theorem cast_int_int64 (n : Int) (h1 : -1000000000000000 < n) (h2 : n < 1000000000000000) (w : World) : Calls Tryz.prog 23 #[.iface 2 (.int .i64 n)] w fun e w' => e = .returned (.int .i64 n) ∧ w = w' := by
  have HN := Lib.hid (fun W => num_int_int64 n h1 h2 W)
  clear h1 h2
  go_enter Tryz.func23, Tryz.ntmps23
  go_wp2_with (first | (go_at_call 42; refine (HN.out _).mono ?_; rintro e w' ⟨rfl, rfl⟩) | go_in)
  go_ret
  exact ⟨rfl, rfl⟩
set_option maxHeartbeats 3200000 in
set_option maxRecDepth 100000 in
theorem cast_int_real (n : Int) (h1 : -1000000000000000 < n) (h2 : n < 1000000000000000) (w : World) : Calls Tryz.prog 23 #[.iface 22 (.float .f64 (floatOfInt .f64 n))] w fun e w' => e = .returned (.int .i64 n) ∧ w = w' := by
  have HN := Lib.hid (fun W => num_int_real n h1 h2 W)
  obtain ⟨R, hR⟩ : ∃ R : Nat, R = floatOfInt .f64 n := ⟨_, rfl⟩
  rw [← hR] at HN ⊢
  clear hR
  clear h1 h2
  go_enter Tryz.func23, Tryz.ntmps23
  go_wp2_with (first | (go_at_call 42; refine (HN.out _).mono ?_; rintro e w' ⟨rfl, rfl⟩) | go_in)
  go_ret
  exact ⟨rfl, rfl⟩
set_option maxHeartbeats 3200000 in
set_option maxRecDepth 100000 in
theorem cast_int_text (n : Int) (s : ByteArray) (h : TX n s) (w : World) : Calls Tryz.prog 23 #[.iface 9 (.string s)] w fun e w' => e = .returned (.int .i64 n) ∧ Below w.heap.size w w' := by
  have ht : ∀ W : World, (Instr.typeAssert (.iface 9 (.string s) : Value) 20 9 true).run Tryz.prog W = .ok (.tuple #[.string s, .bool true]) W := fun _ => by kernel_rfl
  have hne : s.toList.isEmpty = false := full_c (TX.sz h).1
  have HN := Lib.hid (fun W => num_int_text s W)
  have HP := Lib.hid (cpi_int n s h w)
  clear h
  go_enter Tryz.func23, Tryz.ntmps23
  go_wp2_with (first | (go_at_call 42; refine (HN.out _).mono ?_; rintro e w' ⟨rfl, rfl⟩) | (go_at_call 37; refine HP.out.mono ?_; rintro e w1 ⟨rfl, hb1⟩) | go_in)
  go_ret
  exact ⟨rfl, hb1⟩
set_option maxHeartbeats 3200000 in
set_option maxRecDepth 100000 in
theorem cast_int64_int (n : Int) (h1 : -1000000000000000 < n) (h2 : n < 1000000000000000) (w : World) : Calls Tryz.prog 24 #[.iface 3 (.int .i64 n)] w fun e w' => e = .returned (.int .i64 n) ∧ w = w' := by
  have HN := Lib.hid (fun W => num_int64_int n h1 h2 W)
  clear h1 h2
  go_enter Tryz.func24, Tryz.ntmps24
  go_wp2_with (first | (go_at_call 46; refine (HN.out _).mono ?_; rintro e w' ⟨rfl, rfl⟩) | go_in)
  go_ret
  exact ⟨rfl, rfl⟩
set_option maxHeartbeats 3200000 in
set_option maxRecDepth 100000 in
theorem cast_int64_int64 (n : Int) (h1 : -1000000000000000 < n) (h2 : n < 1000000000000000) (w : World) : Calls Tryz.prog 24 #[.iface 2 (.int .i64 n)] w fun e w' => e = .returned (.int .i64 n) ∧ w = w' := by
  have HN := Lib.hid (fun W => num_int64_int64 n h1 h2 W)
  clear h1 h2
  go_enter Tryz.func24, Tryz.ntmps24
  go_wp2_with (first | (go_at_call 46; refine (HN.out _).mono ?_; rintro e w' ⟨rfl, rfl⟩) | go_in)
  go_ret
  exact ⟨rfl, rfl⟩
set_option maxHeartbeats 3200000 in
set_option maxRecDepth 100000 in
theorem cast_int64_real (n : Int) (h1 : -1000000000000000 < n) (h2 : n < 1000000000000000) (w : World) : Calls Tryz.prog 24 #[.iface 22 (.float .f64 (floatOfInt .f64 n))] w fun e w' => e = .returned (.int .i64 n) ∧ w = w' := by
  have HN := Lib.hid (fun W => num_int64_real n h1 h2 W)
  obtain ⟨R, hR⟩ : ∃ R : Nat, R = floatOfInt .f64 n := ⟨_, rfl⟩
  rw [← hR] at HN ⊢
  clear hR
  clear h1 h2
  go_enter Tryz.func24, Tryz.ntmps24
  go_wp2_with (first | (go_at_call 46; refine (HN.out _).mono ?_; rintro e w' ⟨rfl, rfl⟩) | go_in)
  go_ret
  exact ⟨rfl, rfl⟩
set_option maxHeartbeats 3200000 in
set_option maxRecDepth 100000 in
theorem cast_int64_text (n : Int) (s : ByteArray) (h : TX n s) (w : World) : Calls Tryz.prog 24 #[.iface 9 (.string s)] w fun e w' => e = .returned (.int .i64 n) ∧ Below w.heap.size w w' := by
  have ht : ∀ W : World, (Instr.typeAssert (.iface 9 (.string s) : Value) 20 9 true).run Tryz.prog W = .ok (.tuple #[.string s, .bool true]) W := fun _ => by kernel_rfl
  have hne : s.toList.isEmpty = false := full_c (TX.sz h).1
  have HN := Lib.hid (fun W => num_int64_text s W)
  have HP := Lib.hid (cpi_int64 n s h w)
  clear h
  go_enter Tryz.func24, Tryz.ntmps24
  go_wp2_with (first | (go_at_call 46; refine (HN.out _).mono ?_; rintro e w' ⟨rfl, rfl⟩) | (go_at_call 39; refine HP.out.mono ?_; rintro e w1 ⟨rfl, hb1⟩) | go_in)
  go_ret
  exact ⟨rfl, hb1⟩
set_option maxHeartbeats 3200000 in
set_option maxRecDepth 100000 in
theorem cast_float64_int (n : Int) (h1 : -1000000000000000 < n) (h2 : n < 1000000000000000) (w : World) : Calls Tryz.prog 25 #[.iface 3 (.int .i64 n)] w fun e w' => e = .returned (.float .f64 (floatOfInt .f64 n)) ∧ w = w' := by
  have HN := Lib.hid (fun W => num_float64_int n h1 h2 W)
  obtain ⟨R, hR⟩ : ∃ R : Nat, R = floatOfInt .f64 n := ⟨_, rfl⟩
  rw [← hR] at HN ⊢
  clear hR
  clear h1 h2
  go_enter Tryz.func25, Tryz.ntmps25
  go_wp2_with (first | (go_at_call 47; refine (HN.out _).mono ?_; rintro e w' ⟨rfl, rfl⟩) | go_in)
  go_ret
  exact ⟨rfl, rfl⟩
set_option maxHeartbeats 3200000 in
set_option maxRecDepth 100000 in
theorem cast_float64_int64 (n : Int) (h1 : -1000000000000000 < n) (h2 : n < 1000000000000000) (w : World) : Calls Tryz.prog 25 #[.iface 2 (.int .i64 n)] w fun e w' => e = .returned (.float .f64 (floatOfInt .f64 n)) ∧ w = w' := by
  have HN := Lib.hid (fun W => num_float64_int64 n h1 h2 W)
  obtain ⟨R, hR⟩ : ∃ R : Nat, R = floatOfInt .f64 n := ⟨_, rfl⟩
  rw [← hR] at HN ⊢
  clear hR
  clear h1 h2
  go_enter Tryz.func25, Tryz.ntmps25
  go_wp2_with (first | (go_at_call 47; refine (HN.out _).mono ?_; rintro e w' ⟨rfl, rfl⟩) | go_in)
  go_ret
  exact ⟨rfl, rfl⟩
set_option maxHeartbeats 3200000 in
set_option maxRecDepth 100000 in
theorem cast_float64_real (n : Int) (h1 : -1000000000000000 < n) (h2 : n < 1000000000000000) (w : World) : Calls Tryz.prog 25 #[.iface 22 (.float .f64 (floatOfInt .f64 n))] w fun e w' => e = .returned (.float .f64 (floatOfInt .f64 n)) ∧ w = w' := by
  have HN := Lib.hid (fun W => num_float64_real n h1 h2 W)
  obtain ⟨R, hR⟩ : ∃ R : Nat, R = floatOfInt .f64 n := ⟨_, rfl⟩
  rw [← hR] at HN ⊢
  clear hR
  clear h1 h2
  go_enter Tryz.func25, Tryz.ntmps25
  go_wp2_with (first | (go_at_call 47; refine (HN.out _).mono ?_; rintro e w' ⟨rfl, rfl⟩) | go_in)
  go_ret
  exact ⟨rfl, rfl⟩
set_option maxHeartbeats 3200000 in
set_option maxRecDepth 100000 in
theorem cast_float64_text (n : Int) (s : ByteArray) (h : TX n s) (w : World) (hF : TabsF w) : Calls Tryz.prog 25 #[.iface 9 (.string s)] w fun e w' => e = .returned (.float .f64 (floatOfInt .f64 n)) ∧ Below w.heap.size w w' := by
  have ht : ∀ W : World, (Instr.typeAssert (.iface 9 (.string s) : Value) 20 9 true).run Tryz.prog W = .ok (.tuple #[.string s, .bool true]) W := fun _ => by kernel_rfl
  have hne : s.toList.isEmpty = false := full_c (TX.sz h).1
  have HN := Lib.hid (fun W => num_float64_text s W)
  have HP := Lib.hid (cpf_call n s h w hF)
  obtain ⟨R, hR⟩ : ∃ R : Nat, R = floatOfInt .f64 n := ⟨_, rfl⟩
  rw [← hR] at HP ⊢
  clear hR hF
  have HB0 := Lib.hid (Below.refl w.heap.size w)
  clear h
  go_enter Tryz.func25, Tryz.ntmps25
  go_wp2_with (first | (go_at_call 47; refine (HN.out _).mono ?_; rintro e w' ⟨rfl, rfl⟩) | (go_at_call 41; refine HP.out.mono ?_; rintro e w1 ⟨rfl, rfl⟩) | go_in)
  go_ret
  exact ⟨rfl, HB0.out⟩
set_option maxHeartbeats 3200000 in
set_option maxRecDepth 100000 in
theorem goOf_int (n : Int) (s1 : IntKind.i64.wrap n = n) (w : World) : Calls Tryz.prog 9 #[.agg #[.int .i64 2, .int .i64 n, .float .f64 0, .string ⟨#[]⟩, .slice none 0 0, .slice none 0 0]] w fun e w' => e = .returned (.tuple #[.iface 3 (.int .i64 n), .bool true]) ∧ Below w.heap.size w w' := by
  have HB := Lib.hid (fun o => (Below.refl w.heap.size w).alloc (Nat.le_refl _) o)
  go_enter Tryz.func9, Tryz.ntmps9
  go_wp2
  go_ret2
  exact ⟨rfl, HB.out _⟩
set_option maxHeartbeats 3200000 in
set_option maxRecDepth 100000 in
theorem goOf_int64 (n : Int) (w : World) : Calls Tryz.prog 9 #[.agg #[.int .i64 3, .int .i64 n, .float .f64 0, .string ⟨#[]⟩, .slice none 0 0, .slice none 0 0]] w fun e w' => e = .returned (.tuple #[.iface 2 (.int .i64 n), .bool true]) ∧ Below w.heap.size w w' := by
  have HB := Lib.hid (fun o => (Below.refl w.heap.size w).alloc (Nat.le_refl _) o)
  go_enter Tryz.func9, Tryz.ntmps9
  go_wp2
  go_ret2
  exact ⟨rfl, HB.out _⟩
set_option maxHeartbeats 3200000 in
set_option maxRecDepth 100000 in
theorem goOf_real (R : Nat) (w : World) : Calls Tryz.prog 9 #[.agg #[.int .i64 4, .int .i64 0, .float .f64 R, .string ⟨#[]⟩, .slice none 0 0, .slice none 0 0]] w fun e w' => e = .returned (.tuple #[.iface 22 (.float .f64 R), .bool true]) ∧ Below w.heap.size w w' := by
  have HB := Lib.hid (fun o => (Below.refl w.heap.size w).alloc (Nat.le_refl _) o)
  go_enter Tryz.func9, Tryz.ntmps9
  go_wp2
  go_ret2
  exact ⟨rfl, HB.out _⟩
set_option maxHeartbeats 3200000 in
set_option maxRecDepth 100000 in
theorem goOf_text (s : ByteArray) (w : World) : Calls Tryz.prog 9 #[.agg #[.int .i64 5, .int .i64 0, .float .f64 0, .string s, .slice none 0 0, .slice none 0 0]] w fun e w' => e = .returned (.tuple #[.iface 9 (.string s), .bool true]) ∧ Below w.heap.size w w' := by
  have HB := Lib.hid (fun o => (Below.refl w.heap.size w).alloc (Nat.le_refl _) o)
  go_enter Tryz.func9, Tryz.ntmps9
  go_wp2
  go_ret2
  exact ⟨rfl, HB.out _⟩
set_option maxHeartbeats 3200000 in
set_option maxRecDepth 100000 in
theorem implToInt_int (n : Int) (h1 : -1000000000000000 < n) (h2 : n < 1000000000000000) (w : World) : Calls Tryz.prog 5 #[.agg #[.int .i64 2, .int .i64 n, .float .f64 0, .string ⟨#[]⟩, .slice none 0 0, .slice none 0 0]] w fun e w' => e = .returned (.int .i64 n) ∧ Below w.heap.size w w' := by
  have HB := Lib.hid (fun o => (Below.refl w.heap.size w).alloc (Nat.le_refl _) o)
  have s1 : IntKind.i64.wrap n = n := wrap_i64 (by omega) (by omega)
  have HC := Lib.hid (fun W => cast_int_int n h1 h2 W)
  go_enter Tryz.func5, Tryz.ntmps5
  go_wp2_with fail
  refine (goOf_int n s1 _).mono ?_
  rintro e w1 ⟨rfl, hb⟩
  have HB1 := Lib.hid ((HB.out _).trans (hb.mono (by simp)))
  clear hb
  clear s1
  go_wp2_with (first | (go_at_call 23; refine (HC.out _ ).mono ?_; rintro e w2 ⟨rfl, rfl⟩) | go_in)
  go_ret
  exact ⟨rfl, HB1.out⟩
set_option maxHeartbeats 3200000 in
set_option maxRecDepth 100000 in
theorem implToInt_int64 (n : Int) (h1 : -1000000000000000 < n) (h2 : n < 1000000000000000) (w : World) : Calls Tryz.prog 5 #[.agg #[.int .i64 3, .int .i64 n, .float .f64 0, .string ⟨#[]⟩, .slice none 0 0, .slice none 0 0]] w fun e w' => e = .returned (.int .i64 n) ∧ Below w.heap.size w w' := by
  have HB := Lib.hid (fun o => (Below.refl w.heap.size w).alloc (Nat.le_refl _) o)
  have s1 : IntKind.i64.wrap n = n := wrap_i64 (by omega) (by omega)
  have HC := Lib.hid (fun W => cast_int_int64 n h1 h2 W)
  go_enter Tryz.func5, Tryz.ntmps5
  go_wp2_with fail
  refine (goOf_int64 n _).mono ?_
  rintro e w1 ⟨rfl, hb⟩
  have HB1 := Lib.hid ((HB.out _).trans (hb.mono (by simp)))
  clear hb
  go_wp2_with (first | (go_at_call 23; refine (HC.out _ ).mono ?_; rintro e w2 ⟨rfl, rfl⟩) | go_in)
  go_ret
  exact ⟨rfl, HB1.out⟩
set_option maxHeartbeats 3200000 in
set_option maxRecDepth 100000 in
theorem implToInt_real (n : Int) (h1 : -1000000000000000 < n) (h2 : n < 1000000000000000) (w : World) : Calls Tryz.prog 5 #[.agg #[.int .i64 4, .int .i64 0, .float .f64 (floatOfInt .f64 n), .string ⟨#[]⟩, .slice none 0 0, .slice none 0 0]] w fun e w' => e = .returned (.int .i64 n) ∧ Below w.heap.size w w' := by
  have HB := Lib.hid (fun o => (Below.refl w.heap.size w).alloc (Nat.le_refl _) o)
  have s1 : IntKind.i64.wrap n = n := wrap_i64 (by omega) (by omega)
  have HC := Lib.hid (fun W => cast_int_real n h1 h2 W)
  obtain ⟨R, hR⟩ : ∃ R : Nat, R = floatOfInt .f64 n := ⟨_, rfl⟩
  rw [← hR] at HC ⊢
  clear hR
  go_enter Tryz.func5, Tryz.ntmps5
  go_wp2_with fail
  refine (goOf_real R _).mono ?_
  rintro e w1 ⟨rfl, hb⟩
  have HB1 := Lib.hid ((HB.out _).trans (hb.mono (by simp)))
  clear hb
  go_wp2_with (first | (go_at_call 23; refine (HC.out _ ).mono ?_; rintro e w2 ⟨rfl, rfl⟩) | go_in)
  go_ret
  exact ⟨rfl, HB1.out⟩
set_option maxHeartbeats 3200000 in
set_option maxRecDepth 100000 in
theorem implToInt_text (n : Int) (s : ByteArray) (h : TX n s) (w : World) : Calls Tryz.prog 5 #[.agg #[.int .i64 5, .int .i64 0, .float .f64 0, .string s, .slice none 0 0, .slice none 0 0]] w fun e w' => e = .returned (.int .i64 n) ∧ Below w.heap.size w w' := by
  have HB := Lib.hid (fun o => (Below.refl w.heap.size w).alloc (Nat.le_refl _) o)
  have h15 : -1000000000000000 < n ∧ n < 1000000000000000 := by have := Dg.u15 h; omega
  have s1 : IntKind.i64.wrap n = n := wrap_i64 (by omega) (by omega)
  have HC := Lib.hid (fun W => cast_int_text n s h W)
  clear h15 h
  go_enter Tryz.func5, Tryz.ntmps5
  go_wp2_with fail
  refine (goOf_text s _).mono ?_
  rintro e w1 ⟨rfl, hb⟩
  have HB1 := Lib.hid ((HB.out _).trans (hb.mono (by simp)))
  clear hb
  go_wp2_with (first | (go_at_call 23; refine (HC.out _ ).mono ?_; rintro e w2 ⟨rfl, hb2⟩) | go_in)
  go_ret
  exact ⟨rfl, HB1.out.trans (hb2.mono HB1.out.size)⟩
set_option maxHeartbeats 3200000 in
set_option maxRecDepth 100000 in
theorem implToInt64_int (n : Int) (h1 : -1000000000000000 < n) (h2 : n < 1000000000000000) (w : World) : Calls Tryz.prog 6 #[.agg #[.int .i64 2, .int .i64 n, .float .f64 0, .string ⟨#[]⟩, .slice none 0 0, .slice none 0 0]] w fun e w' => e = .returned (.int .i64 n) ∧ Below w.heap.size w w' := by
  have HB := Lib.hid (fun o => (Below.refl w.heap.size w).alloc (Nat.le_refl _) o)
  have s1 : IntKind.i64.wrap n = n := wrap_i64 (by omega) (by omega)
  have HC := Lib.hid (fun W => cast_int64_int n h1 h2 W)
  go_enter Tryz.func6, Tryz.ntmps6
  go_wp2_with fail
  refine (goOf_int n s1 _).mono ?_
  rintro e w1 ⟨rfl, hb⟩
  have HB1 := Lib.hid ((HB.out _).trans (hb.mono (by simp)))
  clear hb
  clear s1
  go_wp2_with (first | (go_at_call 24; refine (HC.out _ ).mono ?_; rintro e w2 ⟨rfl, rfl⟩) | go_in)
  go_ret
  exact ⟨rfl, HB1.out⟩
set_option maxHeartbeats 3200000 in
set_option maxRecDepth 100000 in
theorem implToInt64_int64 (n : Int) (h1 : -1000000000000000 < n) (h2 : n < 1000000000000000) (w : World) : Calls Tryz.prog 6 #[.agg #[.int .i64 3, .int .i64 n, .float .f64 0, .string ⟨#[]⟩, .slice none 0 0, .slice none 0 0]] w fun e w' => e = .returned (.int .i64 n) ∧ Below w.heap.size w w' := by
  have HB := Lib.hid (fun o => (Below.refl w.heap.size w).alloc (Nat.le_refl _) o)
  have s1 : IntKind.i64.wrap n = n := wrap_i64 (by omega) (by omega)
  have HC := Lib.hid (fun W => cast_int64_int64 n h1 h2 W)
  go_enter Tryz.func6, Tryz.ntmps6
  go_wp2_with fail
  refine (goOf_int64 n _).mono ?_
  rintro e w1 ⟨rfl, hb⟩
  have HB1 := Lib.hid ((HB.out _).trans (hb.mono (by simp)))
  clear hb
  go_wp2_with (first | (go_at_call 24; refine (HC.out _ ).mono ?_; rintro e w2 ⟨rfl, rfl⟩) | go_in)
  go_ret
  exact ⟨rfl, HB1.out⟩
set_option maxHeartbeats 3200000 in
set_option maxRecDepth 100000 in
theorem implToInt64_real (n : Int) (h1 : -1000000000000000 < n) (h2 : n < 1000000000000000) (w : World) : Calls Tryz.prog 6 #[.agg #[.int .i64 4, .int .i64 0, .float .f64 (floatOfInt .f64 n), .string ⟨#[]⟩, .slice none 0 0, .slice none 0 0]] w fun e w' => e = .returned (.int .i64 n) ∧ Below w.heap.size w w' := by
  have HB := Lib.hid (fun o => (Below.refl w.heap.size w).alloc (Nat.le_refl _) o)
  have s1 : IntKind.i64.wrap n = n := wrap_i64 (by omega) (by omega)
  have HC := Lib.hid (fun W => cast_int64_real n h1 h2 W)
  obtain ⟨R, hR⟩ : ∃ R : Nat, R = floatOfInt .f64 n := ⟨_, rfl⟩
  rw [← hR] at HC ⊢
  clear hR
  go_enter Tryz.func6, Tryz.ntmps6
  go_wp2_with fail
  refine (goOf_real R _).mono ?_
  rintro e w1 ⟨rfl, hb⟩
  have HB1 := Lib.hid ((HB.out _).trans (hb.mono (by simp)))
  clear hb
  go_wp2_with (first | (go_at_call 24; refine (HC.out _ ).mono ?_; rintro e w2 ⟨rfl, rfl⟩) | go_in)
  go_ret
  exact ⟨rfl, HB1.out⟩
set_option maxHeartbeats 3200000 in
set_option maxRecDepth 100000 in
theorem implToInt64_text (n : Int) (s : ByteArray) (h : TX n s) (w : World) : Calls Tryz.prog 6 #[.agg #[.int .i64 5, .int .i64 0, .float .f64 0, .string s, .slice none 0 0, .slice none 0 0]] w fun e w' => e = .returned (.int .i64 n) ∧ Below w.heap.size w w' := by
  have HB := Lib.hid (fun o => (Below.refl w.heap.size w).alloc (Nat.le_refl _) o)
  have h15 : -1000000000000000 < n ∧ n < 1000000000000000 := by have := Dg.u15 h; omega
  have s1 : IntKind.i64.wrap n = n := wrap_i64 (by omega) (by omega)
  have HC := Lib.hid (fun W => cast_int64_text n s h W)
  clear h15 h
  go_enter Tryz.func6, Tryz.ntmps6
  go_wp2_with fail
  refine (goOf_text s _).mono ?_
  rintro e w1 ⟨rfl, hb⟩
  have HB1 := Lib.hid ((HB.out _).trans (hb.mono (by simp)))
  clear hb
  go_wp2_with (first | (go_at_call 24; refine (HC.out _ ).mono ?_; rintro e w2 ⟨rfl, hb2⟩) | go_in)
  go_ret
  exact ⟨rfl, HB1.out.trans (hb2.mono HB1.out.size)⟩
set_option maxHeartbeats 3200000 in
set_option maxRecDepth 100000 in
theorem implToFloat_int (n : Int) (h1 : -1000000000000000 < n) (h2 : n < 1000000000000000) (w : World) : Calls Tryz.prog 7 #[.agg #[.int .i64 2, .int .i64 n, .float .f64 0, .string ⟨#[]⟩, .slice none 0 0, .slice none 0 0]] w fun e w' => e = .returned (.float .f64 (floatOfInt .f64 n)) ∧ Below w.heap.size w w' := by
  have HB := Lib.hid (fun o => (Below.refl w.heap.size w).alloc (Nat.le_refl _) o)
  have s1 : IntKind.i64.wrap n = n := wrap_i64 (by omega) (by omega)
  have HC := Lib.hid (fun W => cast_float64_int n h1 h2 W)
  obtain ⟨R, hR⟩ : ∃ R : Nat, R = floatOfInt .f64 n := ⟨_, rfl⟩
  rw [← hR] at HC ⊢
  clear hR
  go_enter Tryz.func7, Tryz.ntmps7
  go_wp2_with fail
  refine (goOf_int n s1 _).mono ?_
  rintro e w1 ⟨rfl, hb⟩
  have HB1 := Lib.hid ((HB.out _).trans (hb.mono (by simp)))
  clear hb
  clear s1
  go_wp2_with (first | (go_at_call 25; refine (HC.out _ ).mono ?_; rintro e w2 ⟨rfl, rfl⟩) | go_in)
  go_ret
  exact ⟨rfl, HB1.out⟩
set_option maxHeartbeats 3200000 in
set_option maxRecDepth 100000 in
theorem implToFloat_int64 (n : Int) (h1 : -1000000000000000 < n) (h2 : n < 1000000000000000) (w : World) : Calls Tryz.prog 7 #[.agg #[.int .i64 3, .int .i64 n, .float .f64 0, .string ⟨#[]⟩, .slice none 0 0, .slice none 0 0]] w fun e w' => e = .returned (.float .f64 (floatOfInt .f64 n)) ∧ Below w.heap.size w w' := by
  have HB := Lib.hid (fun o => (Below.refl w.heap.size w).alloc (Nat.le_refl _) o)
  have s1 : IntKind.i64.wrap n = n := wrap_i64 (by omega) (by omega)
  have HC := Lib.hid (fun W => cast_float64_int64 n h1 h2 W)
  obtain ⟨R, hR⟩ : ∃ R : Nat, R = floatOfInt .f64 n := ⟨_, rfl⟩
  rw [← hR] at HC ⊢
  clear hR
  go_enter Tryz.func7, Tryz.ntmps7
  go_wp2_with fail
  refine (goOf_int64 n _).mono ?_
  rintro e w1 ⟨rfl, hb⟩
  have HB1 := Lib.hid ((HB.out _).trans (hb.mono (by simp)))
  clear hb
  go_wp2_with (first | (go_at_call 25; refine (HC.out _ ).mono ?_; rintro e w2 ⟨rfl, rfl⟩) | go_in)
  go_ret
  exact ⟨rfl, HB1.out⟩
set_option maxHeartbeats 3200000 in
set_option maxRecDepth 100000 in
theorem implToFloat_real (n : Int) (h1 : -1000000000000000 < n) (h2 : n < 1000000000000000) (w : World) : Calls Tryz.prog 7 #[.agg #[.int .i64 4, .int .i64 0, .float .f64 (floatOfInt .f64 n), .string ⟨#[]⟩, .slice none 0 0, .slice none 0 0]] w fun e w' => e = .returned (.float .f64 (floatOfInt .f64 n)) ∧ Below w.heap.size w w' := by
  have HB := Lib.hid (fun o => (Below.refl w.heap.size w).alloc (Nat.le_refl _) o)
  have s1 : IntKind.i64.wrap n = n := wrap_i64 (by omega) (by omega)
  have HC := Lib.hid (fun W => cast_float64_real n h1 h2 W)
  obtain ⟨R, hR⟩ : ∃ R : Nat, R = floatOfInt .f64 n := ⟨_, rfl⟩
  rw [← hR] at HC ⊢
  clear hR
  go_enter Tryz.func7, Tryz.ntmps7
  go_wp2_with fail
  refine (goOf_real R _).mono ?_
  rintro e w1 ⟨rfl, hb⟩
  have HB1 := Lib.hid ((HB.out _).trans (hb.mono (by simp)))
  clear hb
  go_wp2_with (first | (go_at_call 25; refine (HC.out _ ).mono ?_; rintro e w2 ⟨rfl, rfl⟩) | go_in)
  go_ret
  exact ⟨rfl, HB1.out⟩
set_option maxHeartbeats 3200000 in
set_option maxRecDepth 100000 in
theorem implToFloat_text (n : Int) (s : ByteArray) (h : TX n s) (w : World) (hF : TabsF w) : Calls Tryz.prog 7 #[.agg #[.int .i64 5, .int .i64 0, .float .f64 0, .string s, .slice none 0 0, .slice none 0 0]] w fun e w' => e = .returned (.float .f64 (floatOfInt .f64 n)) ∧ Below w.heap.size w w' := by
  have HB := Lib.hid (fun o => (Below.refl w.heap.size w).alloc (Nat.le_refl _) o)
  have h15 : -1000000000000000 < n ∧ n < 1000000000000000 := by have := Dg.u15 h; omega
  have s1 : IntKind.i64.wrap n = n := wrap_i64 (by omega) (by omega)
  have HF := Lib.hid hF
  clear hF
  have HC := Lib.hid (fun W hW => cast_float64_text n s h W hW)
  obtain ⟨R, hR⟩ : ∃ R : Nat, R = floatOfInt .f64 n := ⟨_, rfl⟩
  simp only [← hR] at HC ⊢
  clear hR
  clear h15 h
  go_enter Tryz.func7, Tryz.ntmps7
  go_wp2_with fail
  refine (goOf_text s _).mono ?_
  rintro e w1 ⟨rfl, hb⟩
  have HB1 := Lib.hid ((HB.out _).trans (hb.mono (by simp)))
  clear hb
  go_wp2_with (first | (go_at_call 25; refine (HC.out _ (HF.out.below HB1.out)).mono ?_; rintro e w2 ⟨rfl, hb2⟩) | go_in)
  go_ret
  exact ⟨rfl, HB1.out.trans (hb2.mono HB1.out.size)⟩
end Go.Proofs.YtbjoipclkapcjaaGreatDoor.P
