/- cast.ToInt, ToInt64, ToFloat64 of a number. -/
import Derived.Test.YtbjoipclkapcjaaGreatDoorTi5
set_option linter.unusedVariables false
set_option linter.unusedSimpArgs false
namespace Go.Proofs.YtbjoipclkapcjaaGreatDoor.P
open Go.RowKit Go.Proofs.YtbjoipclkapcjaaGreatDoorW.PrintWords Go.Proofs.YtbjoipclkapcjaaGreatDoorW.PrintLast Go.Proofs.YtbjoipclkapcjaaGreatDoorW.PrintMore

theorem ext_nil (s : ByteArray) (a : Nat) : s.extract a a = ⟨#[]⟩ := by
  apply ba_ext
  rw [extract_list, Nat.sub_self, List.take_zero]

theorem ext_snoc (s : ByteArray) (x d : Nat) (h : x + d < s.size) : (s.extract x (x + (d + 1))).data.toList = (s.extract x (x + d)).data.toList ++ [s[x + d]'h] := by
  rw [extract_list, extract_list, show x + (d + 1) - x = d + 1 by omega, show x + d - x = d by omega]
  have h2 : d < (s.data.toList.drop x).length := by rw [List.length_drop, Array.length_toList]; show d < s.size - x; omega
  rw [List.take_succ_eq_append_getElem h2, List.getElem_drop]
  rfl
theorem ext_one (p : ByteArray) (x : Nat) (h : x < p.size) : (p.extract x (x + 1)).data.toList = [p[x]'h] := by
  have h4 := ext_snoc p x 0 h
  rw [show (p.extract x (x + 0)).data.toList = [] by rw [show x + 0 = x from rfl, ext_nil]] at h4
  exact h4
set_option maxHeartbeats 3200000 in
set_option maxRecDepth 100000 in
theorem index_no (c : UInt8) (p : ByteArray) (hp : p.size ≤ 2147483647) : ∀ n x : Nat, x + n = p.size → (∀ j, x ≤ j → j < p.size → bt p (j : Int) ≠ ((c.toNat : Nat) : Int)) → Ev (fun k => cast_zzIndex.l0 k p ⟨#[c]⟩ (x : Int)) (-1)
  | 0, x, hx, _ => by
    have h1 : ((⟨#[c]⟩ : ByteArray).size : Int) = 1 := rfl
    refine Ev.step (fun k => by rw [cast_zzIndex.l0]) ?_
    rw [h1, w64_in (by omega) (by omega)]
    exact Ev.neg (by omega) (Ev.ok _)
  | n + 1, x, hx, hno => by
    have h1 : ((⟨#[c]⟩ : ByteArray).size : Int) = 1 := rfl
    have ih := index_no c p hp n (x + 1) (by omega) (fun j h2 h3 => hno j (by omega) h3)
    refine Ev.step (fun k => by rw [cast_zzIndex.l0]) ?_
    rw [h1, w64_in (by omega) (by omega)]
    refine Ev.pos (by omega) (Ev.pos (by omega) (Ev.pos (by omega) (Ev.neg ?_ ?_)))
    · intro h
      rw [show ((x : Int) + 1).toNat = x + 1 by omega, Int.toNat_natCast, ByteArray.toList_eq, ByteArray.toList_eq] at h
      rw [ext_one p x (by omega)] at h
      have h5 : p[x]'(by omega) = c := by
        have : [p[x]'(by omega)] = [c] := h
        exact (List.cons.inj this).1
      have h6 := bt_nat p x (by omega)
      rw [h5] at h6
      exact hno x (Nat.le_refl _) (by omega) h6
    · rw [show (x : Int) + 1 = ((x + 1 : Nat) : Int) by omega]
      exact ih
theorem TX.sz {n : Int} {s : ByteArray} (h : TX n s) : 0 < s.size ∧ s.size ≤ 16 := by
  have h1 := Dg.size h
  have h2 := Dg.m1 h
  have h3 := Dg.m2 h
  have h4 := Dg.o1 h
  omega
theorem Dg.no46 {s : ByteArray} {o u m : Nat} (h : Dg s o u m) (j : Nat) (hj : j < s.size) : bt s (j : Int) ≠ 46 := by
  have h1 := h.size
  have h4 := h.o1
  by_cases hq : o ≤ j
  · have h5 := h.dig (j - o) (by omega)
    rw [show o + (j - o) = j by omega] at h5
    omega
  · have ho : o = 1 := by omega
    have h5 := (h.sign ho).1
    rw [show j = 0 by omega]
    show bt s 0 ≠ 46
    omega
set_option maxHeartbeats 3200000 in
set_option maxRecDepth 100000 in
theorem trim_call (n : Int) (s : ByteArray) (h : TX n s) (w : World) :
    Calls Tryz.prog 45 #[.string s] w fun e w' => e = .returned (.string s) ∧ Below w.heap.size w w' := by
  have hs : s.size ≤ 2147483647 := by have := TX.sz h; omega
  obtain ⟨K, hK⟩ : Ev (fun k => cast_zzContains.f k s ⟨#[46]⟩) false := by
    unfold cast_zzContains.f
    refine Ev.bind (by unfold cast_zzIndex.f; exact index_no 46 s hs s.size 0 (by omega) (fun j _ hj q => Dg.no46 h j hj q)) ?_
    exact Ev.ok _
  have HC := Lib.hid (fun W => cast_zzContains.calls K s ⟨#[46]⟩ _ W (hK K (Nat.le_refl _)))
  clear hK h
  go_enter Tryz.func45, Tryz.ntmps45
  go_wp2_with fail
  refine (HC.out _).mono ?_
  rintro e w1 ⟨rfl, hb⟩
  have HB := Lib.hid hb.below
  clear hb HC
  go_wp2
  go_ret
  exact ⟨rfl, HB.out⟩
theorem pi_call (n : Int) (s : ByteArray) (h : TX n s) (w : World) :
    Calls Tryz.prog 49 #[.string s, .int .i64 0, .int .i64 0] w fun e w' => e = .returned (.tuple #[.int .i64 n, .nilIface]) ∧ Below w.heap.size w w' := by
  unfold TX at h
  by_cases hn : n < 0
  · rw [if_pos hn] at h
    have := pi_neg s _ _ h w
    rwa [show -((n.natAbs : Nat) : Int) = n by omega] at this
  · rw [if_neg hn] at h
    have := pi_pos s _ _ h w
    rwa [show ((n.natAbs : Nat) : Int) = n by omega] at this
set_option maxHeartbeats 3200000 in
set_option maxRecDepth 100000 in
theorem spi_call (n : Int) (s : ByteArray) (h : TX n s) (w : World) :
    Calls Tryz.prog 44 #[.string s, .int .i64 0, .int .i64 0] w fun e w' => e = .returned (.tuple #[.int .i64 n, .nilIface]) ∧ Below w.heap.size w w' := by
  have HP := Lib.hid (fun W => pi_call n s h W)
  clear h
  go_enter Tryz.func44, Tryz.ntmps44
  go_wp2_with fail
  refine (HP.out _).mono ?_
  rintro e w1 ⟨rfl, hb⟩
  have HB := Lib.hid hb
  clear hb HP
  go_wp2
  go_ret2
  exact ⟨rfl, HB.out⟩
set_option maxHeartbeats 3200000 in
set_option maxRecDepth 100000 in
theorem cpi_int (n : Int) (s : ByteArray) (h : TX n s) (w : World) :
    Calls Tryz.prog 37 #[.string s] w fun e w' => e = .returned (.tuple #[.int .i64 n, .nilIface]) ∧ Below w.heap.size w w' := by
  have HT := Lib.hid (fun W => trim_call n s h W)
  have HP := Lib.hid (fun W => spi_call n s h W)
  have h15 : -1000000000000000 < n ∧ n < 1000000000000000 := by have := Dg.u15 h; omega
  have s1 : IntKind.i64.wrap n = n := wrap_i64 (by omega) (by omega)
  clear h h15
  go_enter Tryz.func37, Tryz.ntmps37
  go_wp2_with fail
  refine (HT.out _).mono ?_
  rintro e w1 ⟨rfl, hb⟩
  have HB := Lib.hid hb
  clear hb HT
  go_wp2_with fail
  refine (HP.out _).mono ?_
  rintro e w2 ⟨rfl, hb2⟩
  have HB2 := Lib.hid (HB.out.trans (hb2.mono HB.out.size))
  clear hb2 HP HB
  go_wp2
  go_ret2
  exact ⟨rfl, HB2.out⟩
set_option maxHeartbeats 3200000 in
set_option maxRecDepth 100000 in
theorem cpi_int64 (n : Int) (s : ByteArray) (h : TX n s) (w : World) :
    Calls Tryz.prog 39 #[.string s] w fun e w' => e = .returned (.tuple #[.int .i64 n, .nilIface]) ∧ Below w.heap.size w w' := by
  have HT := Lib.hid (fun W => trim_call n s h W)
  have HP := Lib.hid (fun W => spi_call n s h W)
  have h15 : -1000000000000000 < n ∧ n < 1000000000000000 := by have := Dg.u15 h; omega
  have s1 : IntKind.i64.wrap n = n := wrap_i64 (by omega) (by omega)
  clear h h15
  go_enter Tryz.func39, Tryz.ntmps39
  go_wp2_with fail
  refine (HT.out _).mono ?_
  rintro e w1 ⟨rfl, hb⟩
  have HB := Lib.hid hb
  clear hb HT
  go_wp2_with fail
  refine (HP.out _).mono ?_
  rintro e w2 ⟨rfl, hb2⟩
  have HB2 := Lib.hid (HB.out.trans (hb2.mono HB.out.size))
  clear hb2 HP HB
  go_wp2
  go_ret2
  exact ⟨rfl, HB2.out⟩
set_option maxHeartbeats 3200000 in
set_option maxRecDepth 100000 in
theorem num_int_int (n : Int) (h1 : -1000000000000000 < n) (h2 : n < 1000000000000000) (w : World) : Calls Tryz.prog 42 #[.iface 3 (.int .i64 n)] w fun e w' => e = .returned (.tuple #[.int .i64 n, .bool true]) ∧ w = w' := by
  have s1 : IntKind.i64.wrap n = n := wrap_i64 (by omega) (by omega)
  obtain ⟨R, hR⟩ : ∃ R : Nat, R = floatOfInt .f64 n := ⟨_, rfl⟩
  have hti : floatToIntVal .f64 R .i64 = some n := by rw [hR]; exact to_int n h1 h2
  clear hti hR h1 h2
  have ht_int : ∀ W : World, (Instr.typeAssert (.iface 3 (.int .i64 n) : Value) 20 3 true).run Tryz.prog W = .ok (.tuple #[.int .i64 n, .bool true]) W := fun _ => by kernel_rfl
  have ht_int8 : ∀ W : World, (Instr.typeAssert (.iface 3 (.int .i64 n) : Value) 20 87 true).run Tryz.prog W = .ok (.tuple #[.int .i8 0, .bool false]) W := fun _ => by kernel_rfl
  have ht_int16 : ∀ W : World, (Instr.typeAssert (.iface 3 (.int .i64 n) : Value) 20 88 true).run Tryz.prog W = .ok (.tuple #[.int .i16 0, .bool false]) W := fun _ => by kernel_rfl
  have ht_int32 : ∀ W : World, (Instr.typeAssert (.iface 3 (.int .i64 n) : Value) 20 21 true).run Tryz.prog W = .ok (.tuple #[.int .i32 0, .bool false]) W := fun _ => by kernel_rfl
  have ht_int64 : ∀ W : World, (Instr.typeAssert (.iface 3 (.int .i64 n) : Value) 20 2 true).run Tryz.prog W = .ok (.tuple #[.int .i64 0, .bool false]) W := fun _ => by kernel_rfl
  have ht_uint : ∀ W : World, (Instr.typeAssert (.iface 3 (.int .i64 n) : Value) 20 57 true).run Tryz.prog W = .ok (.tuple #[.int .u64 0, .bool false]) W := fun _ => by kernel_rfl
  have ht_uint8 : ∀ W : World, (Instr.typeAssert (.iface 3 (.int .i64 n) : Value) 20 5 true).run Tryz.prog W = .ok (.tuple #[.int .u8 0, .bool false]) W := fun _ => by kernel_rfl
  have ht_uint16 : ∀ W : World, (Instr.typeAssert (.iface 3 (.int .i64 n) : Value) 20 89 true).run Tryz.prog W = .ok (.tuple #[.int .u16 0, .bool false]) W := fun _ => by kernel_rfl
  have ht_uint32 : ∀ W : World, (Instr.typeAssert (.iface 3 (.int .i64 n) : Value) 20 54 true).run Tryz.prog W = .ok (.tuple #[.int .u32 0, .bool false]) W := fun _ => by kernel_rfl
  have ht_uint64 : ∀ W : World, (Instr.typeAssert (.iface 3 (.int .i64 n) : Value) 20 45 true).run Tryz.prog W = .ok (.tuple #[.int .u64 0, .bool false]) W := fun _ => by kernel_rfl
  have ht_float32 : ∀ W : World, (Instr.typeAssert (.iface 3 (.int .i64 n) : Value) 20 85 true).run Tryz.prog W = .ok (.tuple #[.float .f32 0, .bool false]) W := fun _ => by kernel_rfl
  have ht_float64 : ∀ W : World, (Instr.typeAssert (.iface 3 (.int .i64 n) : Value) 20 22 true).run Tryz.prog W = .ok (.tuple #[.float .f64 0, .bool false]) W := fun _ => by kernel_rfl
  have ht_bool : ∀ W : World, (Instr.typeAssert (.iface 3 (.int .i64 n) : Value) 20 4 true).run Tryz.prog W = .ok (.tuple #[.bool false, .bool false]) W := fun _ => by kernel_rfl
  have ht_string : ∀ W : World, (Instr.typeAssert (.iface 3 (.int .i64 n) : Value) 20 9 true).run Tryz.prog W = .ok (.tuple #[.string ⟨#[]⟩, .bool false]) W := fun _ => by kernel_rfl
  go_enter Tryz.func42, Tryz.ntmps42
  go_wp2
  go_ret2
  exact ⟨rfl, rfl⟩
set_option maxHeartbeats 3200000 in
set_option maxRecDepth 100000 in
theorem num_int_int64 (n : Int) (h1 : -1000000000000000 < n) (h2 : n < 1000000000000000) (w : World) : Calls Tryz.prog 42 #[.iface 2 (.int .i64 n)] w fun e w' => e = .returned (.tuple #[.int .i64 n, .bool true]) ∧ w = w' := by
  have s1 : IntKind.i64.wrap n = n := wrap_i64 (by omega) (by omega)
  obtain ⟨R, hR⟩ : ∃ R : Nat, R = floatOfInt .f64 n := ⟨_, rfl⟩
  have hti : floatToIntVal .f64 R .i64 = some n := by rw [hR]; exact to_int n h1 h2
  clear hti hR h1 h2
  have ht_int : ∀ W : World, (Instr.typeAssert (.iface 2 (.int .i64 n) : Value) 20 3 true).run Tryz.prog W = .ok (.tuple #[.int .i64 0, .bool false]) W := fun _ => by kernel_rfl
  have ht_int8 : ∀ W : World, (Instr.typeAssert (.iface 2 (.int .i64 n) : Value) 20 87 true).run Tryz.prog W = .ok (.tuple #[.int .i8 0, .bool false]) W := fun _ => by kernel_rfl
  have ht_int16 : ∀ W : World, (Instr.typeAssert (.iface 2 (.int .i64 n) : Value) 20 88 true).run Tryz.prog W = .ok (.tuple #[.int .i16 0, .bool false]) W := fun _ => by kernel_rfl
  have ht_int32 : ∀ W : World, (Instr.typeAssert (.iface 2 (.int .i64 n) : Value) 20 21 true).run Tryz.prog W = .ok (.tuple #[.int .i32 0, .bool false]) W := fun _ => by kernel_rfl
  have ht_int64 : ∀ W : World, (Instr.typeAssert (.iface 2 (.int .i64 n) : Value) 20 2 true).run Tryz.prog W = .ok (.tuple #[.int .i64 n, .bool true]) W := fun _ => by kernel_rfl
  have ht_uint : ∀ W : World, (Instr.typeAssert (.iface 2 (.int .i64 n) : Value) 20 57 true).run Tryz.prog W = .ok (.tuple #[.int .u64 0, .bool false]) W := fun _ => by kernel_rfl
  have ht_uint8 : ∀ W : World, (Instr.typeAssert (.iface 2 (.int .i64 n) : Value) 20 5 true).run Tryz.prog W = .ok (.tuple #[.int .u8 0, .bool false]) W := fun _ => by kernel_rfl
  have ht_uint16 : ∀ W : World, (Instr.typeAssert (.iface 2 (.int .i64 n) : Value) 20 89 true).run Tryz.prog W = .ok (.tuple #[.int .u16 0, .bool false]) W := fun _ => by kernel_rfl
  have ht_uint32 : ∀ W : World, (Instr.typeAssert (.iface 2 (.int .i64 n) : Value) 20 54 true).run Tryz.prog W = .ok (.tuple #[.int .u32 0, .bool false]) W := fun _ => by kernel_rfl
  have ht_uint64 : ∀ W : World, (Instr.typeAssert (.iface 2 (.int .i64 n) : Value) 20 45 true).run Tryz.prog W = .ok (.tuple #[.int .u64 0, .bool false]) W := fun _ => by kernel_rfl
  have ht_float32 : ∀ W : World, (Instr.typeAssert (.iface 2 (.int .i64 n) : Value) 20 85 true).run Tryz.prog W = .ok (.tuple #[.float .f32 0, .bool false]) W := fun _ => by kernel_rfl
  have ht_float64 : ∀ W : World, (Instr.typeAssert (.iface 2 (.int .i64 n) : Value) 20 22 true).run Tryz.prog W = .ok (.tuple #[.float .f64 0, .bool false]) W := fun _ => by kernel_rfl
  have ht_bool : ∀ W : World, (Instr.typeAssert (.iface 2 (.int .i64 n) : Value) 20 4 true).run Tryz.prog W = .ok (.tuple #[.bool false, .bool false]) W := fun _ => by kernel_rfl
  have ht_string : ∀ W : World, (Instr.typeAssert (.iface 2 (.int .i64 n) : Value) 20 9 true).run Tryz.prog W = .ok (.tuple #[.string ⟨#[]⟩, .bool false]) W := fun _ => by kernel_rfl
  go_enter Tryz.func42, Tryz.ntmps42
  go_wp2
  go_ret2
  exact ⟨rfl, rfl⟩
set_option maxHeartbeats 3200000 in
set_option maxRecDepth 100000 in
theorem num_int_real (n : Int) (h1 : -1000000000000000 < n) (h2 : n < 1000000000000000) (w : World) : Calls Tryz.prog 42 #[.iface 22 (.float .f64 (floatOfInt .f64 n))] w fun e w' => e = .returned (.tuple #[.int .i64 n, .bool true]) ∧ w = w' := by
  have s1 : IntKind.i64.wrap n = n := wrap_i64 (by omega) (by omega)
  obtain ⟨R, hR⟩ : ∃ R : Nat, R = floatOfInt .f64 n := ⟨_, rfl⟩
  have hti : floatToIntVal .f64 R .i64 = some n := by rw [hR]; exact to_int n h1 h2
  have hcv : ∀ W : World, (convert 22 3 (.float .f64 R)).run Tryz.prog W = .ok (.int .i64 n) W := fun W => run_convert_float_int W _ _ .f64 .i64 R n (by rw [Tryz.underlying22]; rfl) Tryz.underlying3 hti
  rw [← hR]
  clear hti hR h1 h2
  have ht_int : ∀ W : World, (Instr.typeAssert (.iface 22 (.float .f64 R) : Value) 20 3 true).run Tryz.prog W = .ok (.tuple #[.int .i64 0, .bool false]) W := fun _ => by kernel_rfl
  have ht_int8 : ∀ W : World, (Instr.typeAssert (.iface 22 (.float .f64 R) : Value) 20 87 true).run Tryz.prog W = .ok (.tuple #[.int .i8 0, .bool false]) W := fun _ => by kernel_rfl
  have ht_int16 : ∀ W : World, (Instr.typeAssert (.iface 22 (.float .f64 R) : Value) 20 88 true).run Tryz.prog W = .ok (.tuple #[.int .i16 0, .bool false]) W := fun _ => by kernel_rfl
  have ht_int32 : ∀ W : World, (Instr.typeAssert (.iface 22 (.float .f64 R) : Value) 20 21 true).run Tryz.prog W = .ok (.tuple #[.int .i32 0, .bool false]) W := fun _ => by kernel_rfl
  have ht_int64 : ∀ W : World, (Instr.typeAssert (.iface 22 (.float .f64 R) : Value) 20 2 true).run Tryz.prog W = .ok (.tuple #[.int .i64 0, .bool false]) W := fun _ => by kernel_rfl
  have ht_uint : ∀ W : World, (Instr.typeAssert (.iface 22 (.float .f64 R) : Value) 20 57 true).run Tryz.prog W = .ok (.tuple #[.int .u64 0, .bool false]) W := fun _ => by kernel_rfl
  have ht_uint8 : ∀ W : World, (Instr.typeAssert (.iface 22 (.float .f64 R) : Value) 20 5 true).run Tryz.prog W = .ok (.tuple #[.int .u8 0, .bool false]) W := fun _ => by kernel_rfl
  have ht_uint16 : ∀ W : World, (Instr.typeAssert (.iface 22 (.float .f64 R) : Value) 20 89 true).run Tryz.prog W = .ok (.tuple #[.int .u16 0, .bool false]) W := fun _ => by kernel_rfl
  have ht_uint32 : ∀ W : World, (Instr.typeAssert (.iface 22 (.float .f64 R) : Value) 20 54 true).run Tryz.prog W = .ok (.tuple #[.int .u32 0, .bool false]) W := fun _ => by kernel_rfl
  have ht_uint64 : ∀ W : World, (Instr.typeAssert (.iface 22 (.float .f64 R) : Value) 20 45 true).run Tryz.prog W = .ok (.tuple #[.int .u64 0, .bool false]) W := fun _ => by kernel_rfl
  have ht_float32 : ∀ W : World, (Instr.typeAssert (.iface 22 (.float .f64 R) : Value) 20 85 true).run Tryz.prog W = .ok (.tuple #[.float .f32 0, .bool false]) W := fun _ => by kernel_rfl
  have ht_float64 : ∀ W : World, (Instr.typeAssert (.iface 22 (.float .f64 R) : Value) 20 22 true).run Tryz.prog W = .ok (.tuple #[.float .f64 R, .bool true]) W := fun _ => by kernel_rfl
  have ht_bool : ∀ W : World, (Instr.typeAssert (.iface 22 (.float .f64 R) : Value) 20 4 true).run Tryz.prog W = .ok (.tuple #[.bool false, .bool false]) W := fun _ => by kernel_rfl
  have ht_string : ∀ W : World, (Instr.typeAssert (.iface 22 (.float .f64 R) : Value) 20 9 true).run Tryz.prog W = .ok (.tuple #[.string ⟨#[]⟩, .bool false]) W := fun _ => by kernel_rfl
  go_enter Tryz.func42, Tryz.ntmps42
  go_wp2
  go_ret2
  exact ⟨rfl, rfl⟩
set_option maxHeartbeats 3200000 in
set_option maxRecDepth 100000 in
theorem num_int_text (s : ByteArray) (w : World) : Calls Tryz.prog 42 #[.iface 9 (.string s)] w fun e w' => e = .returned (.tuple #[.int .i64 0, .bool false]) ∧ w = w' := by
  have ht_int : ∀ W : World, (Instr.typeAssert (.iface 9 (.string s) : Value) 20 3 true).run Tryz.prog W = .ok (.tuple #[.int .i64 0, .bool false]) W := fun _ => by kernel_rfl
  have ht_int8 : ∀ W : World, (Instr.typeAssert (.iface 9 (.string s) : Value) 20 87 true).run Tryz.prog W = .ok (.tuple #[.int .i8 0, .bool false]) W := fun _ => by kernel_rfl
  have ht_int16 : ∀ W : World, (Instr.typeAssert (.iface 9 (.string s) : Value) 20 88 true).run Tryz.prog W = .ok (.tuple #[.int .i16 0, .bool false]) W := fun _ => by kernel_rfl
  have ht_int32 : ∀ W : World, (Instr.typeAssert (.iface 9 (.string s) : Value) 20 21 true).run Tryz.prog W = .ok (.tuple #[.int .i32 0, .bool false]) W := fun _ => by kernel_rfl
  have ht_int64 : ∀ W : World, (Instr.typeAssert (.iface 9 (.string s) : Value) 20 2 true).run Tryz.prog W = .ok (.tuple #[.int .i64 0, .bool false]) W := fun _ => by kernel_rfl
  have ht_uint : ∀ W : World, (Instr.typeAssert (.iface 9 (.string s) : Value) 20 57 true).run Tryz.prog W = .ok (.tuple #[.int .u64 0, .bool false]) W := fun _ => by kernel_rfl
  have ht_uint8 : ∀ W : World, (Instr.typeAssert (.iface 9 (.string s) : Value) 20 5 true).run Tryz.prog W = .ok (.tuple #[.int .u8 0, .bool false]) W := fun _ => by kernel_rfl
  have ht_uint16 : ∀ W : World, (Instr.typeAssert (.iface 9 (.string s) : Value) 20 89 true).run Tryz.prog W = .ok (.tuple #[.int .u16 0, .bool false]) W := fun _ => by kernel_rfl
  have ht_uint32 : ∀ W : World, (Instr.typeAssert (.iface 9 (.string s) : Value) 20 54 true).run Tryz.prog W = .ok (.tuple #[.int .u32 0, .bool false]) W := fun _ => by kernel_rfl
  have ht_uint64 : ∀ W : World, (Instr.typeAssert (.iface 9 (.string s) : Value) 20 45 true).run Tryz.prog W = .ok (.tuple #[.int .u64 0, .bool false]) W := fun _ => by kernel_rfl
  have ht_float32 : ∀ W : World, (Instr.typeAssert (.iface 9 (.string s) : Value) 20 85 true).run Tryz.prog W = .ok (.tuple #[.float .f32 0, .bool false]) W := fun _ => by kernel_rfl
  have ht_float64 : ∀ W : World, (Instr.typeAssert (.iface 9 (.string s) : Value) 20 22 true).run Tryz.prog W = .ok (.tuple #[.float .f64 0, .bool false]) W := fun _ => by kernel_rfl
  have ht_bool : ∀ W : World, (Instr.typeAssert (.iface 9 (.string s) : Value) 20 4 true).run Tryz.prog W = .ok (.tuple #[.bool false, .bool false]) W := fun _ => by kernel_rfl
  have ht_string : ∀ W : World, (Instr.typeAssert (.iface 9 (.string s) : Value) 20 9 true).run Tryz.prog W = .ok (.tuple #[.string s, .bool true]) W := fun _ => by kernel_rfl
  go_enter Tryz.func42, Tryz.ntmps42
  go_wp2
  go_ret2
  exact ⟨rfl, rfl⟩
set_option maxHeartbeats 3200000 in
set_option maxRecDepth 100000 in
theorem num_int64_int (n : Int) (h1 : -1000000000000000 < n) (h2 : n < 1000000000000000) (w : World) : Calls Tryz.prog 46 #[.iface 3 (.int .i64 n)] w fun e w' => e = .returned (.tuple #[.int .i64 n, .bool true]) ∧ w = w' := by
  have s1 : IntKind.i64.wrap n = n := wrap_i64 (by omega) (by omega)
  obtain ⟨R, hR⟩ : ∃ R : Nat, R = floatOfInt .f64 n := ⟨_, rfl⟩
  have hti : floatToIntVal .f64 R .i64 = some n := by rw [hR]; exact to_int n h1 h2
  clear hti hR h1 h2
  have ht_int : ∀ W : World, (Instr.typeAssert (.iface 3 (.int .i64 n) : Value) 20 3 true).run Tryz.prog W = .ok (.tuple #[.int .i64 n, .bool true]) W := fun _ => by kernel_rfl
  have ht_int8 : ∀ W : World, (Instr.typeAssert (.iface 3 (.int .i64 n) : Value) 20 87 true).run Tryz.prog W = .ok (.tuple #[.int .i8 0, .bool false]) W := fun _ => by kernel_rfl
  have ht_int16 : ∀ W : World, (Instr.typeAssert (.iface 3 (.int .i64 n) : Value) 20 88 true).run Tryz.prog W = .ok (.tuple #[.int .i16 0, .bool false]) W := fun _ => by kernel_rfl
  have ht_int32 : ∀ W : World, (Instr.typeAssert (.iface 3 (.int .i64 n) : Value) 20 21 true).run Tryz.prog W = .ok (.tuple #[.int .i32 0, .bool false]) W := fun _ => by kernel_rfl
  have ht_int64 : ∀ W : World, (Instr.typeAssert (.iface 3 (.int .i64 n) : Value) 20 2 true).run Tryz.prog W = .ok (.tuple #[.int .i64 0, .bool false]) W := fun _ => by kernel_rfl
  have ht_uint : ∀ W : World, (Instr.typeAssert (.iface 3 (.int .i64 n) : Value) 20 57 true).run Tryz.prog W = .ok (.tuple #[.int .u64 0, .bool false]) W := fun _ => by kernel_rfl
  have ht_uint8 : ∀ W : World, (Instr.typeAssert (.iface 3 (.int .i64 n) : Value) 20 5 true).run Tryz.prog W = .ok (.tuple #[.int .u8 0, .bool false]) W := fun _ => by kernel_rfl
  have ht_uint16 : ∀ W : World, (Instr.typeAssert (.iface 3 (.int .i64 n) : Value) 20 89 true).run Tryz.prog W = .ok (.tuple #[.int .u16 0, .bool false]) W := fun _ => by kernel_rfl
  have ht_uint32 : ∀ W : World, (Instr.typeAssert (.iface 3 (.int .i64 n) : Value) 20 54 true).run Tryz.prog W = .ok (.tuple #[.int .u32 0, .bool false]) W := fun _ => by kernel_rfl
  have ht_uint64 : ∀ W : World, (Instr.typeAssert (.iface 3 (.int .i64 n) : Value) 20 45 true).run Tryz.prog W = .ok (.tuple #[.int .u64 0, .bool false]) W := fun _ => by kernel_rfl
  have ht_float32 : ∀ W : World, (Instr.typeAssert (.iface 3 (.int .i64 n) : Value) 20 85 true).run Tryz.prog W = .ok (.tuple #[.float .f32 0, .bool false]) W := fun _ => by kernel_rfl
  have ht_float64 : ∀ W : World, (Instr.typeAssert (.iface 3 (.int .i64 n) : Value) 20 22 true).run Tryz.prog W = .ok (.tuple #[.float .f64 0, .bool false]) W := fun _ => by kernel_rfl
  have ht_bool : ∀ W : World, (Instr.typeAssert (.iface 3 (.int .i64 n) : Value) 20 4 true).run Tryz.prog W = .ok (.tuple #[.bool false, .bool false]) W := fun _ => by kernel_rfl
  have ht_string : ∀ W : World, (Instr.typeAssert (.iface 3 (.int .i64 n) : Value) 20 9 true).run Tryz.prog W = .ok (.tuple #[.string ⟨#[]⟩, .bool false]) W := fun _ => by kernel_rfl
  go_enter Tryz.func46, Tryz.ntmps46
  go_wp2
  go_ret2
  exact ⟨rfl, rfl⟩
set_option maxHeartbeats 3200000 in
set_option maxRecDepth 100000 in
theorem num_int64_int64 (n : Int) (h1 : -1000000000000000 < n) (h2 : n < 1000000000000000) (w : World) : Calls Tryz.prog 46 #[.iface 2 (.int .i64 n)] w fun e w' => e = .returned (.tuple #[.int .i64 n, .bool true]) ∧ w = w' := by
  have s1 : IntKind.i64.wrap n = n := wrap_i64 (by omega) (by omega)
  obtain ⟨R, hR⟩ : ∃ R : Nat, R = floatOfInt .f64 n := ⟨_, rfl⟩
  have hti : floatToIntVal .f64 R .i64 = some n := by rw [hR]; exact to_int n h1 h2
  clear hti hR h1 h2
  have ht_int : ∀ W : World, (Instr.typeAssert (.iface 2 (.int .i64 n) : Value) 20 3 true).run Tryz.prog W = .ok (.tuple #[.int .i64 0, .bool false]) W := fun _ => by kernel_rfl
  have ht_int8 : ∀ W : World, (Instr.typeAssert (.iface 2 (.int .i64 n) : Value) 20 87 true).run Tryz.prog W = .ok (.tuple #[.int .i8 0, .bool false]) W := fun _ => by kernel_rfl
  have ht_int16 : ∀ W : World, (Instr.typeAssert (.iface 2 (.int .i64 n) : Value) 20 88 true).run Tryz.prog W = .ok (.tuple #[.int .i16 0, .bool false]) W := fun _ => by kernel_rfl
  have ht_int32 : ∀ W : World, (Instr.typeAssert (.iface 2 (.int .i64 n) : Value) 20 21 true).run Tryz.prog W = .ok (.tuple #[.int .i32 0, .bool false]) W := fun _ => by kernel_rfl
  have ht_int64 : ∀ W : World, (Instr.typeAssert (.iface 2 (.int .i64 n) : Value) 20 2 true).run Tryz.prog W = .ok (.tuple #[.int .i64 n, .bool true]) W := fun _ => by kernel_rfl
  have ht_uint : ∀ W : World, (Instr.typeAssert (.iface 2 (.int .i64 n) : Value) 20 57 true).run Tryz.prog W = .ok (.tuple #[.int .u64 0, .bool false]) W := fun _ => by kernel_rfl
  have ht_uint8 : ∀ W : World, (Instr.typeAssert (.iface 2 (.int .i64 n) : Value) 20 5 true).run Tryz.prog W = .ok (.tuple #[.int .u8 0, .bool false]) W := fun _ => by kernel_rfl
  have ht_uint16 : ∀ W : World, (Instr.typeAssert (.iface 2 (.int .i64 n) : Value) 20 89 true).run Tryz.prog W = .ok (.tuple #[.int .u16 0, .bool false]) W := fun _ => by kernel_rfl
  have ht_uint32 : ∀ W : World, (Instr.typeAssert (.iface 2 (.int .i64 n) : Value) 20 54 true).run Tryz.prog W = .ok (.tuple #[.int .u32 0, .bool false]) W := fun _ => by kernel_rfl
  have ht_uint64 : ∀ W : World, (Instr.typeAssert (.iface 2 (.int .i64 n) : Value) 20 45 true).run Tryz.prog W = .ok (.tuple #[.int .u64 0, .bool false]) W := fun _ => by kernel_rfl
  have ht_float32 : ∀ W : World, (Instr.typeAssert (.iface 2 (.int .i64 n) : Value) 20 85 true).run Tryz.prog W = .ok (.tuple #[.float .f32 0, .bool false]) W := fun _ => by kernel_rfl
  have ht_float64 : ∀ W : World, (Instr.typeAssert (.iface 2 (.int .i64 n) : Value) 20 22 true).run Tryz.prog W = .ok (.tuple #[.float .f64 0, .bool false]) W := fun _ => by kernel_rfl
  have ht_bool : ∀ W : World, (Instr.typeAssert (.iface 2 (.int .i64 n) : Value) 20 4 true).run Tryz.prog W = .ok (.tuple #[.bool false, .bool false]) W := fun _ => by kernel_rfl
  have ht_string : ∀ W : World, (Instr.typeAssert (.iface 2 (.int .i64 n) : Value) 20 9 true).run Tryz.prog W = .ok (.tuple #[.string ⟨#[]⟩, .bool false]) W := fun _ => by kernel_rfl
  go_enter Tryz.func46, Tryz.ntmps46
  go_wp2
  go_ret2
  exact ⟨rfl, rfl⟩
set_option maxHeartbeats 3200000 in
set_option maxRecDepth 100000 in
theorem num_int64_real (n : Int) (h1 : -1000000000000000 < n) (h2 : n < 1000000000000000) (w : World) : Calls Tryz.prog 46 #[.iface 22 (.float .f64 (floatOfInt .f64 n))] w fun e w' => e = .returned (.tuple #[.int .i64 n, .bool true]) ∧ w = w' := by
  have s1 : IntKind.i64.wrap n = n := wrap_i64 (by omega) (by omega)
  obtain ⟨R, hR⟩ : ∃ R : Nat, R = floatOfInt .f64 n := ⟨_, rfl⟩
  have hti : floatToIntVal .f64 R .i64 = some n := by rw [hR]; exact to_int n h1 h2
  have hcv : ∀ W : World, (convert 22 2 (.float .f64 R)).run Tryz.prog W = .ok (.int .i64 n) W := fun W => run_convert_float_int W _ _ .f64 .i64 R n (by rw [Tryz.underlying22]; rfl) Tryz.underlying2 hti
  rw [← hR]
  clear hti hR h1 h2
  have ht_int : ∀ W : World, (Instr.typeAssert (.iface 22 (.float .f64 R) : Value) 20 3 true).run Tryz.prog W = .ok (.tuple #[.int .i64 0, .bool false]) W := fun _ => by kernel_rfl
  have ht_int8 : ∀ W : World, (Instr.typeAssert (.iface 22 (.float .f64 R) : Value) 20 87 true).run Tryz.prog W = .ok (.tuple #[.int .i8 0, .bool false]) W := fun _ => by kernel_rfl
  have ht_int16 : ∀ W : World, (Instr.typeAssert (.iface 22 (.float .f64 R) : Value) 20 88 true).run Tryz.prog W = .ok (.tuple #[.int .i16 0, .bool false]) W := fun _ => by kernel_rfl
  have ht_int32 : ∀ W : World, (Instr.typeAssert (.iface 22 (.float .f64 R) : Value) 20 21 true).run Tryz.prog W = .ok (.tuple #[.int .i32 0, .bool false]) W := fun _ => by kernel_rfl
  have ht_int64 : ∀ W : World, (Instr.typeAssert (.iface 22 (.float .f64 R) : Value) 20 2 true).run Tryz.prog W = .ok (.tuple #[.int .i64 0, .bool false]) W := fun _ => by kernel_rfl
  have ht_uint : ∀ W : World, (Instr.typeAssert (.iface 22 (.float .f64 R) : Value) 20 57 true).run Tryz.prog W = .ok (.tuple #[.int .u64 0, .bool false]) W := fun _ => by kernel_rfl
  have ht_uint8 : ∀ W : World, (Instr.typeAssert (.iface 22 (.float .f64 R) : Value) 20 5 true).run Tryz.prog W = .ok (.tuple #[.int .u8 0, .bool false]) W := fun _ => by kernel_rfl
  have ht_uint16 : ∀ W : World, (Instr.typeAssert (.iface 22 (.float .f64 R) : Value) 20 89 true).run Tryz.prog W = .ok (.tuple #[.int .u16 0, .bool false]) W := fun _ => by kernel_rfl
  have ht_uint32 : ∀ W : World, (Instr.typeAssert (.iface 22 (.float .f64 R) : Value) 20 54 true).run Tryz.prog W = .ok (.tuple #[.int .u32 0, .bool false]) W := fun _ => by kernel_rfl
  have ht_uint64 : ∀ W : World, (Instr.typeAssert (.iface 22 (.float .f64 R) : Value) 20 45 true).run Tryz.prog W = .ok (.tuple #[.int .u64 0, .bool false]) W := fun _ => by kernel_rfl
  have ht_float32 : ∀ W : World, (Instr.typeAssert (.iface 22 (.float .f64 R) : Value) 20 85 true).run Tryz.prog W = .ok (.tuple #[.float .f32 0, .bool false]) W := fun _ => by kernel_rfl
  have ht_float64 : ∀ W : World, (Instr.typeAssert (.iface 22 (.float .f64 R) : Value) 20 22 true).run Tryz.prog W = .ok (.tuple #[.float .f64 R, .bool true]) W := fun _ => by kernel_rfl
  have ht_bool : ∀ W : World, (Instr.typeAssert (.iface 22 (.float .f64 R) : Value) 20 4 true).run Tryz.prog W = .ok (.tuple #[.bool false, .bool false]) W := fun _ => by kernel_rfl
  have ht_string : ∀ W : World, (Instr.typeAssert (.iface 22 (.float .f64 R) : Value) 20 9 true).run Tryz.prog W = .ok (.tuple #[.string ⟨#[]⟩, .bool false]) W := fun _ => by kernel_rfl
  go_enter Tryz.func46, Tryz.ntmps46
  go_wp2
  go_ret2
  exact ⟨rfl, rfl⟩
set_option maxHeartbeats 3200000 in
set_option maxRecDepth 100000 in
theorem num_int64_text (s : ByteArray) (w : World) : Calls Tryz.prog 46 #[.iface 9 (.string s)] w fun e w' => e = .returned (.tuple #[.int .i64 0, .bool false]) ∧ w = w' := by
  have ht_int : ∀ W : World, (Instr.typeAssert (.iface 9 (.string s) : Value) 20 3 true).run Tryz.prog W = .ok (.tuple #[.int .i64 0, .bool false]) W := fun _ => by kernel_rfl
  have ht_int8 : ∀ W : World, (Instr.typeAssert (.iface 9 (.string s) : Value) 20 87 true).run Tryz.prog W = .ok (.tuple #[.int .i8 0, .bool false]) W := fun _ => by kernel_rfl
  have ht_int16 : ∀ W : World, (Instr.typeAssert (.iface 9 (.string s) : Value) 20 88 true).run Tryz.prog W = .ok (.tuple #[.int .i16 0, .bool false]) W := fun _ => by kernel_rfl
  have ht_int32 : ∀ W : World, (Instr.typeAssert (.iface 9 (.string s) : Value) 20 21 true).run Tryz.prog W = .ok (.tuple #[.int .i32 0, .bool false]) W := fun _ => by kernel_rfl
  have ht_int64 : ∀ W : World, (Instr.typeAssert (.iface 9 (.string s) : Value) 20 2 true).run Tryz.prog W = .ok (.tuple #[.int .i64 0, .bool false]) W := fun _ => by kernel_rfl
  have ht_uint : ∀ W : World, (Instr.typeAssert (.iface 9 (.string s) : Value) 20 57 true).run Tryz.prog W = .ok (.tuple #[.int .u64 0, .bool false]) W := fun _ => by kernel_rfl
  have ht_uint8 : ∀ W : World, (Instr.typeAssert (.iface 9 (.string s) : Value) 20 5 true).run Tryz.prog W = .ok (.tuple #[.int .u8 0, .bool false]) W := fun _ => by kernel_rfl
  have ht_uint16 : ∀ W : World, (Instr.typeAssert (.iface 9 (.string s) : Value) 20 89 true).run Tryz.prog W = .ok (.tuple #[.int .u16 0, .bool false]) W := fun _ => by kernel_rfl
  have ht_uint32 : ∀ W : World, (Instr.typeAssert (.iface 9 (.string s) : Value) 20 54 true).run Tryz.prog W = .ok (.tuple #[.int .u32 0, .bool false]) W := fun _ => by kernel_rfl
  have ht_uint64 : ∀ W : World, (Instr.typeAssert (.iface 9 (.string s) : Value) 20 45 true).run Tryz.prog W = .ok (.tuple #[.int .u64 0, .bool false]) W := fun _ => by kernel_rfl
  have ht_float32 : ∀ W : World, (Instr.typeAssert (.iface 9 (.string s) : Value) 20 85 true).run Tryz.prog W = .ok (.tuple #[.float .f32 0, .bool false]) W := fun _ => by kernel_rfl
  have ht_float64 : ∀ W : World, (Instr.typeAssert (.iface 9 (.string s) : Value) 20 22 true).run Tryz.prog W = .ok (.tuple #[.float .f64 0, .bool false]) W := fun _ => by kernel_rfl
  have ht_bool : ∀ W : World, (Instr.typeAssert (.iface 9 (.string s) : Value) 20 4 true).run Tryz.prog W = .ok (.tuple #[.bool false, .bool false]) W := fun _ => by kernel_rfl
  have ht_string : ∀ W : World, (Instr.typeAssert (.iface 9 (.string s) : Value) 20 9 true).run Tryz.prog W = .ok (.tuple #[.string s, .bool true]) W := fun _ => by kernel_rfl
  go_enter Tryz.func46, Tryz.ntmps46
  go_wp2
  go_ret2
  exact ⟨rfl, rfl⟩
set_option maxHeartbeats 3200000 in
set_option maxRecDepth 100000 in
theorem num_float64_int (n : Int) (h1 : -1000000000000000 < n) (h2 : n < 1000000000000000) (w : World) : Calls Tryz.prog 47 #[.iface 3 (.int .i64 n)] w fun e w' => e = .returned (.tuple #[.float .f64 (floatOfInt .f64 n), .bool true]) ∧ w = w' := by
  have s1 : IntKind.i64.wrap n = n := wrap_i64 (by omega) (by omega)
  obtain ⟨R, hR⟩ : ∃ R : Nat, R = floatOfInt .f64 n := ⟨_, rfl⟩
  have hti : floatToIntVal .f64 R .i64 = some n := by rw [hR]; exact to_int n h1 h2
  have hcv : ∀ W : World, (convert 3 22 (.int .i64 n)).run Tryz.prog W = .ok (.float .f64 R) W := fun W => by rw [hR]; exact run_convert_int_float W _ _ .i64 .f64 n (by rw [Tryz.underlying3]; rfl) Tryz.underlying22
  rw [← hR]
  clear hti hR h1 h2
  have ht_int : ∀ W : World, (Instr.typeAssert (.iface 3 (.int .i64 n) : Value) 20 3 true).run Tryz.prog W = .ok (.tuple #[.int .i64 n, .bool true]) W := fun _ => by kernel_rfl
  have ht_int8 : ∀ W : World, (Instr.typeAssert (.iface 3 (.int .i64 n) : Value) 20 87 true).run Tryz.prog W = .ok (.tuple #[.int .i8 0, .bool false]) W := fun _ => by kernel_rfl
  have ht_int16 : ∀ W : World, (Instr.typeAssert (.iface 3 (.int .i64 n) : Value) 20 88 true).run Tryz.prog W = .ok (.tuple #[.int .i16 0, .bool false]) W := fun _ => by kernel_rfl
  have ht_int32 : ∀ W : World, (Instr.typeAssert (.iface 3 (.int .i64 n) : Value) 20 21 true).run Tryz.prog W = .ok (.tuple #[.int .i32 0, .bool false]) W := fun _ => by kernel_rfl
  have ht_int64 : ∀ W : World, (Instr.typeAssert (.iface 3 (.int .i64 n) : Value) 20 2 true).run Tryz.prog W = .ok (.tuple #[.int .i64 0, .bool false]) W := fun _ => by kernel_rfl
  have ht_uint : ∀ W : World, (Instr.typeAssert (.iface 3 (.int .i64 n) : Value) 20 57 true).run Tryz.prog W = .ok (.tuple #[.int .u64 0, .bool false]) W := fun _ => by kernel_rfl
  have ht_uint8 : ∀ W : World, (Instr.typeAssert (.iface 3 (.int .i64 n) : Value) 20 5 true).run Tryz.prog W = .ok (.tuple #[.int .u8 0, .bool false]) W := fun _ => by kernel_rfl
  have ht_uint16 : ∀ W : World, (Instr.typeAssert (.iface 3 (.int .i64 n) : Value) 20 89 true).run Tryz.prog W = .ok (.tuple #[.int .u16 0, .bool false]) W := fun _ => by kernel_rfl
  have ht_uint32 : ∀ W : World, (Instr.typeAssert (.iface 3 (.int .i64 n) : Value) 20 54 true).run Tryz.prog W = .ok (.tuple #[.int .u32 0, .bool false]) W := fun _ => by kernel_rfl
  have ht_uint64 : ∀ W : World, (Instr.typeAssert (.iface 3 (.int .i64 n) : Value) 20 45 true).run Tryz.prog W = .ok (.tuple #[.int .u64 0, .bool false]) W := fun _ => by kernel_rfl
  have ht_float32 : ∀ W : World, (Instr.typeAssert (.iface 3 (.int .i64 n) : Value) 20 85 true).run Tryz.prog W = .ok (.tuple #[.float .f32 0, .bool false]) W := fun _ => by kernel_rfl
  have ht_float64 : ∀ W : World, (Instr.typeAssert (.iface 3 (.int .i64 n) : Value) 20 22 true).run Tryz.prog W = .ok (.tuple #[.float .f64 0, .bool false]) W := fun _ => by kernel_rfl
  have ht_bool : ∀ W : World, (Instr.typeAssert (.iface 3 (.int .i64 n) : Value) 20 4 true).run Tryz.prog W = .ok (.tuple #[.bool false, .bool false]) W := fun _ => by kernel_rfl
  have ht_string : ∀ W : World, (Instr.typeAssert (.iface 3 (.int .i64 n) : Value) 20 9 true).run Tryz.prog W = .ok (.tuple #[.string ⟨#[]⟩, .bool false]) W := fun _ => by kernel_rfl
  go_enter Tryz.func47, Tryz.ntmps47
  go_wp2
  go_ret2
  exact ⟨rfl, rfl⟩
set_option maxHeartbeats 3200000 in
set_option maxRecDepth 100000 in
theorem num_float64_int64 (n : Int) (h1 : -1000000000000000 < n) (h2 : n < 1000000000000000) (w : World) : Calls Tryz.prog 47 #[.iface 2 (.int .i64 n)] w fun e w' => e = .returned (.tuple #[.float .f64 (floatOfInt .f64 n), .bool true]) ∧ w = w' := by
  have s1 : IntKind.i64.wrap n = n := wrap_i64 (by omega) (by omega)
  obtain ⟨R, hR⟩ : ∃ R : Nat, R = floatOfInt .f64 n := ⟨_, rfl⟩
  have hti : floatToIntVal .f64 R .i64 = some n := by rw [hR]; exact to_int n h1 h2
  have hcv : ∀ W : World, (convert 2 22 (.int .i64 n)).run Tryz.prog W = .ok (.float .f64 R) W := fun W => by rw [hR]; exact run_convert_int_float W _ _ .i64 .f64 n (by rw [Tryz.underlying2]; rfl) Tryz.underlying22
  rw [← hR]
  clear hti hR h1 h2
  have ht_int : ∀ W : World, (Instr.typeAssert (.iface 2 (.int .i64 n) : Value) 20 3 true).run Tryz.prog W = .ok (.tuple #[.int .i64 0, .bool false]) W := fun _ => by kernel_rfl
  have ht_int8 : ∀ W : World, (Instr.typeAssert (.iface 2 (.int .i64 n) : Value) 20 87 true).run Tryz.prog W = .ok (.tuple #[.int .i8 0, .bool false]) W := fun _ => by kernel_rfl
  have ht_int16 : ∀ W : World, (Instr.typeAssert (.iface 2 (.int .i64 n) : Value) 20 88 true).run Tryz.prog W = .ok (.tuple #[.int .i16 0, .bool false]) W := fun _ => by kernel_rfl
  have ht_int32 : ∀ W : World, (Instr.typeAssert (.iface 2 (.int .i64 n) : Value) 20 21 true).run Tryz.prog W = .ok (.tuple #[.int .i32 0, .bool false]) W := fun _ => by kernel_rfl
  have ht_int64 : ∀ W : World, (Instr.typeAssert (.iface 2 (.int .i64 n) : Value) 20 2 true).run Tryz.prog W = .ok (.tuple #[.int .i64 n, .bool true]) W := fun _ => by kernel_rfl
  have ht_uint : ∀ W : World, (Instr.typeAssert (.iface 2 (.int .i64 n) : Value) 20 57 true).run Tryz.prog W = .ok (.tuple #[.int .u64 0, .bool false]) W := fun _ => by kernel_rfl
  have ht_uint8 : ∀ W : World, (Instr.typeAssert (.iface 2 (.int .i64 n) : Value) 20 5 true).run Tryz.prog W = .ok (.tuple #[.int .u8 0, .bool false]) W := fun _ => by kernel_rfl
  have ht_uint16 : ∀ W : World, (Instr.typeAssert (.iface 2 (.int .i64 n) : Value) 20 89 true).run Tryz.prog W = .ok (.tuple #[.int .u16 0, .bool false]) W := fun _ => by kernel_rfl
  have ht_uint32 : ∀ W : World, (Instr.typeAssert (.iface 2 (.int .i64 n) : Value) 20 54 true).run Tryz.prog W = .ok (.tuple #[.int .u32 0, .bool false]) W := fun _ => by kernel_rfl
  have ht_uint64 : ∀ W : World, (Instr.typeAssert (.iface 2 (.int .i64 n) : Value) 20 45 true).run Tryz.prog W = .ok (.tuple #[.int .u64 0, .bool false]) W := fun _ => by kernel_rfl
  have ht_float32 : ∀ W : World, (Instr.typeAssert (.iface 2 (.int .i64 n) : Value) 20 85 true).run Tryz.prog W = .ok (.tuple #[.float .f32 0, .bool false]) W := fun _ => by kernel_rfl
  have ht_float64 : ∀ W : World, (Instr.typeAssert (.iface 2 (.int .i64 n) : Value) 20 22 true).run Tryz.prog W = .ok (.tuple #[.float .f64 0, .bool false]) W := fun _ => by kernel_rfl
  have ht_bool : ∀ W : World, (Instr.typeAssert (.iface 2 (.int .i64 n) : Value) 20 4 true).run Tryz.prog W = .ok (.tuple #[.bool false, .bool false]) W := fun _ => by kernel_rfl
  have ht_string : ∀ W : World, (Instr.typeAssert (.iface 2 (.int .i64 n) : Value) 20 9 true).run Tryz.prog W = .ok (.tuple #[.string ⟨#[]⟩, .bool false]) W := fun _ => by kernel_rfl
  go_enter Tryz.func47, Tryz.ntmps47
  go_wp2
  go_ret2
  exact ⟨rfl, rfl⟩
set_option maxHeartbeats 3200000 in
set_option maxRecDepth 100000 in
theorem num_float64_real (n : Int) (h1 : -1000000000000000 < n) (h2 : n < 1000000000000000) (w : World) : Calls Tryz.prog 47 #[.iface 22 (.float .f64 (floatOfInt .f64 n))] w fun e w' => e = .returned (.tuple #[.float .f64 (floatOfInt .f64 n), .bool true]) ∧ w = w' := by
  have s1 : IntKind.i64.wrap n = n := wrap_i64 (by omega) (by omega)
  obtain ⟨R, hR⟩ : ∃ R : Nat, R = floatOfInt .f64 n := ⟨_, rfl⟩
  have hti : floatToIntVal .f64 R .i64 = some n := by rw [hR]; exact to_int n h1 h2
  rw [← hR]
  clear hti hR h1 h2
  have ht_int : ∀ W : World, (Instr.typeAssert (.iface 22 (.float .f64 R) : Value) 20 3 true).run Tryz.prog W = .ok (.tuple #[.int .i64 0, .bool false]) W := fun _ => by kernel_rfl
  have ht_int8 : ∀ W : World, (Instr.typeAssert (.iface 22 (.float .f64 R) : Value) 20 87 true).run Tryz.prog W = .ok (.tuple #[.int .i8 0, .bool false]) W := fun _ => by kernel_rfl
  have ht_int16 : ∀ W : World, (Instr.typeAssert (.iface 22 (.float .f64 R) : Value) 20 88 true).run Tryz.prog W = .ok (.tuple #[.int .i16 0, .bool false]) W := fun _ => by kernel_rfl
  have ht_int32 : ∀ W : World, (Instr.typeAssert (.iface 22 (.float .f64 R) : Value) 20 21 true).run Tryz.prog W = .ok (.tuple #[.int .i32 0, .bool false]) W := fun _ => by kernel_rfl
  have ht_int64 : ∀ W : World, (Instr.typeAssert (.iface 22 (.float .f64 R) : Value) 20 2 true).run Tryz.prog W = .ok (.tuple #[.int .i64 0, .bool false]) W := fun _ => by kernel_rfl
  have ht_uint : ∀ W : World, (Instr.typeAssert (.iface 22 (.float .f64 R) : Value) 20 57 true).run Tryz.prog W = .ok (.tuple #[.int .u64 0, .bool false]) W := fun _ => by kernel_rfl
  have ht_uint8 : ∀ W : World, (Instr.typeAssert (.iface 22 (.float .f64 R) : Value) 20 5 true).run Tryz.prog W = .ok (.tuple #[.int .u8 0, .bool false]) W := fun _ => by kernel_rfl
  have ht_uint16 : ∀ W : World, (Instr.typeAssert (.iface 22 (.float .f64 R) : Value) 20 89 true).run Tryz.prog W = .ok (.tuple #[.int .u16 0, .bool false]) W := fun _ => by kernel_rfl
  have ht_uint32 : ∀ W : World, (Instr.typeAssert (.iface 22 (.float .f64 R) : Value) 20 54 true).run Tryz.prog W = .ok (.tuple #[.int .u32 0, .bool false]) W := fun _ => by kernel_rfl
  have ht_uint64 : ∀ W : World, (Instr.typeAssert (.iface 22 (.float .f64 R) : Value) 20 45 true).run Tryz.prog W = .ok (.tuple #[.int .u64 0, .bool false]) W := fun _ => by kernel_rfl
  have ht_float32 : ∀ W : World, (Instr.typeAssert (.iface 22 (.float .f64 R) : Value) 20 85 true).run Tryz.prog W = .ok (.tuple #[.float .f32 0, .bool false]) W := fun _ => by kernel_rfl
  have ht_float64 : ∀ W : World, (Instr.typeAssert (.iface 22 (.float .f64 R) : Value) 20 22 true).run Tryz.prog W = .ok (.tuple #[.float .f64 R, .bool true]) W := fun _ => by kernel_rfl
  have ht_bool : ∀ W : World, (Instr.typeAssert (.iface 22 (.float .f64 R) : Value) 20 4 true).run Tryz.prog W = .ok (.tuple #[.bool false, .bool false]) W := fun _ => by kernel_rfl
  have ht_string : ∀ W : World, (Instr.typeAssert (.iface 22 (.float .f64 R) : Value) 20 9 true).run Tryz.prog W = .ok (.tuple #[.string ⟨#[]⟩, .bool false]) W := fun _ => by kernel_rfl
  go_enter Tryz.func47, Tryz.ntmps47
  go_wp2
  go_ret2
  exact ⟨rfl, rfl⟩
set_option maxHeartbeats 3200000 in
set_option maxRecDepth 100000 in
theorem num_float64_text (s : ByteArray) (w : World) : Calls Tryz.prog 47 #[.iface 9 (.string s)] w fun e w' => e = .returned (.tuple #[.float .f64 0, .bool false]) ∧ w = w' := by
  have ht_int : ∀ W : World, (Instr.typeAssert (.iface 9 (.string s) : Value) 20 3 true).run Tryz.prog W = .ok (.tuple #[.int .i64 0, .bool false]) W := fun _ => by kernel_rfl
  have ht_int8 : ∀ W : World, (Instr.typeAssert (.iface 9 (.string s) : Value) 20 87 true).run Tryz.prog W = .ok (.tuple #[.int .i8 0, .bool false]) W := fun _ => by kernel_rfl
  have ht_int16 : ∀ W : World, (Instr.typeAssert (.iface 9 (.string s) : Value) 20 88 true).run Tryz.prog W = .ok (.tuple #[.int .i16 0, .bool false]) W := fun _ => by kernel_rfl
  have ht_int32 : ∀ W : World, (Instr.typeAssert (.iface 9 (.string s) : Value) 20 21 true).run Tryz.prog W = .ok (.tuple #[.int .i32 0, .bool false]) W := fun _ => by kernel_rfl
  have ht_int64 : ∀ W : World, (Instr.typeAssert (.iface 9 (.string s) : Value) 20 2 true).run Tryz.prog W = .ok (.tuple #[.int .i64 0, .bool false]) W := fun _ => by kernel_rfl
  have ht_uint : ∀ W : World, (Instr.typeAssert (.iface 9 (.string s) : Value) 20 57 true).run Tryz.prog W = .ok (.tuple #[.int .u64 0, .bool false]) W := fun _ => by kernel_rfl
  have ht_uint8 : ∀ W : World, (Instr.typeAssert (.iface 9 (.string s) : Value) 20 5 true).run Tryz.prog W = .ok (.tuple #[.int .u8 0, .bool false]) W := fun _ => by kernel_rfl
  have ht_uint16 : ∀ W : World, (Instr.typeAssert (.iface 9 (.string s) : Value) 20 89 true).run Tryz.prog W = .ok (.tuple #[.int .u16 0, .bool false]) W := fun _ => by kernel_rfl
  have ht_uint32 : ∀ W : World, (Instr.typeAssert (.iface 9 (.string s) : Value) 20 54 true).run Tryz.prog W = .ok (.tuple #[.int .u32 0, .bool false]) W := fun _ => by kernel_rfl
  have ht_uint64 : ∀ W : World, (Instr.typeAssert (.iface 9 (.string s) : Value) 20 45 true).run Tryz.prog W = .ok (.tuple #[.int .u64 0, .bool false]) W := fun _ => by kernel_rfl
  have ht_float32 : ∀ W : World, (Instr.typeAssert (.iface 9 (.string s) : Value) 20 85 true).run Tryz.prog W = .ok (.tuple #[.float .f32 0, .bool false]) W := fun _ => by kernel_rfl
  have ht_float64 : ∀ W : World, (Instr.typeAssert (.iface 9 (.string s) : Value) 20 22 true).run Tryz.prog W = .ok (.tuple #[.float .f64 0, .bool false]) W := fun _ => by kernel_rfl
  have ht_bool : ∀ W : World, (Instr.typeAssert (.iface 9 (.string s) : Value) 20 4 true).run Tryz.prog W = .ok (.tuple #[.bool false, .bool false]) W := fun _ => by kernel_rfl
  have ht_string : ∀ W : World, (Instr.typeAssert (.iface 9 (.string s) : Value) 20 9 true).run Tryz.prog W = .ok (.tuple #[.string s, .bool true]) W := fun _ => by kernel_rfl
  go_enter Tryz.func47, Tryz.ntmps47
  go_wp2
  go_ret2
  exact ⟨rfl, rfl⟩
end Go.Proofs.YtbjoipclkapcjaaGreatDoor.P
