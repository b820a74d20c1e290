/- atof64 and what stands above it, at a decimal text. -/
import Derived.Test.YtbjoipclkapcjaaGreatDoorTi4
set_option linter.unusedVariables false
set_option linter.unusedSimpArgs false
namespace Go.Proofs.YtbjoipclkapcjaaGreatDoor.P
open Go.RowKit Go.Proofs.YtbjoipclkapcjaaGreatDoorW.PrintWords Go.Proofs.YtbjoipclkapcjaaGreatDoorW.PrintLast Go.Proofs.YtbjoipclkapcjaaGreatDoorW.PrintMore

set_option maxHeartbeats 3200000 in
set_option maxRecDepth 100000 in
theorem rf_zero (s : ByteArray) (hsz : s.size = 1) (h0 : bt s 0 = 48) (w : World) :
    Calls Tryz.prog 69 #[.string s] w fun e w' => e = .returned (.tuple #[.int .u64 0, .int .i64 0, .bool false, .bool false, .bool false, .int .i64 1, .bool true]) ∧ w = w' := by
  have hz : 0 < s.size := by omega
  have hb0 : bt s 0 = (((s[0]'hz).toNat : Nat) : Int) := bt_nat s 0 hz
  have hc : (s[0]'hz).toNat = 48 := by omega
  have h43 : ((((s[0]'hz).toNat : Nat) : Int) == 43) = false := beq_eq_false_iff_ne.2 (by omega)
  have h45 : ((((s[0]'hz).toNat : Nat) : Int) == 45) = false := beq_eq_false_iff_ne.2 (by omega)
  have h95 : ((((s[0]'hz).toNat : Nat) : Int) == 95) = false := beq_eq_false_iff_ne.2 (by omega)
  have h46 : ((((s[0]'hz).toNat : Nat) : Int) == 46) = false := beq_eq_false_iff_ne.2 (by omega)
  have h48 : ((((s[0]'hz).toNat : Nat) : Int) == 48) = true := beq_iff_eq.2 (by omega)
  have d1 : decide ((48 : Int) ≤ (((s[0]'hz).toNat : Nat) : Int)) = true := decide_eq_true (by omega)
  have d2 : decide ((((s[0]'hz).toNat : Nat) : Int) ≤ 57) = true := decide_eq_true (by omega)
  have hne : ¬ s = ByteArray.empty := fun h => by rw [h] at hz; exact absurd hz (by decide)
  have hl : (s.size : Int) = 1 := by omega
  clear hb0 h0 hc
  go_enter Tryz.func69, Tryz.ntmps69
  go_wp2
  go_step3
  go_wp2
  go_step3
  go_wp2
  clear h43 h45
  go_loopw [2, 5, 7, 9, 13, 14, 15, 16, 17] (fun n t i b d g x y z wr => n = .int .u64 0 ∧ t = .bool false ∧ b = .bool false ∧ d = .bool false ∧ x = .int .i64 0 ∧ y = .int .i64 0 ∧ wr = w ∧ ((i = .int .i64 0 ∧ g = .bool false ∧ z = .int .i64 0) ∨ (i = .int .i64 1 ∧ g = .bool true ∧ z = .int .i64 (-1)))) (fun _ _ i _ _ _ _ _ _ _ => 1 - (intOf i).toNat)
  case atStart => exact ⟨rfl, rfl, rfl, rfl, rfl, rfl, rfl, .inl ⟨rfl, rfl, rfl⟩⟩
  case round =>
    obtain ⟨rfl, rfl, rfl, rfl, rfl, rfl, rfl, h⟩ := hrel
    rcases h with ⟨rfl, rfl, rfl⟩ | ⟨rfl, rfl, rfl⟩
    · go_wp2
      exact ⟨⟨rfl, rfl, rfl, rfl, rfl, rfl, trivial, .inr ⟨rfl, rfl, rfl⟩⟩, by simp only [intOf]; omega⟩
    · go_wp2
      try rw [Exit.noGoto_ret]
      (try simp only [Exit.inBlock, Exit.then]); refine bodyPost_ret (results_tmp7 rfl _ _ _) rfl ?_
      exact ⟨rfl, rfl⟩
theorem rf_pos (s : ByteArray) (u m : Nat) (hd : Dg s 0 u m) (hu : 0 < u) (w : World) :
    Calls Tryz.prog 69 #[.string s] w fun e w' => e = .returned (.tuple #[.int .u64 (u : Int), .int .i64 0, .bool false, .bool false, .bool false, .int .i64 (s.size : Int), .bool true]) ∧ w = w' := by
  have hsz : s.size = m := by rw [hd.size]; omega
  rw [hsz]
  by_cases h : 2 < s.size
  · exact rf_pos_long s u m hd hu h w
  · exact rf_pos_short s u m hd hu (by omega) w
theorem rf_neg (s : ByteArray) (u m : Nat) (hd : Dg s 1 u m) (hu : 0 < u) (w : World) :
    Calls Tryz.prog 69 #[.string s] w fun e w' => e = .returned (.tuple #[.int .u64 (u : Int), .int .i64 0, .bool true, .bool false, .bool false, .int .i64 (s.size : Int), .bool true]) ∧ w = w' := by
  have hsz : s.size = m + 1 := by rw [hd.size]; omega
  rw [hsz]
  by_cases h : 3 < s.size
  · exact rf_neg_long s u m hd hu h w
  · exact rf_neg_short s u m hd hu (by omega) w
set_option maxHeartbeats 3200000 in
set_option maxRecDepth 100000 in
theorem b2_true (w : World) : Calls Tryz.prog 77 #[.bool true] w fun e w' => e = .returned (.int .u64 1) ∧ w = w' := by
  go_enter Tryz.func77, Tryz.ntmps77
  go_wp2
  go_ret
  exact ⟨rfl, rfl⟩
set_option maxHeartbeats 3200000 in
set_option maxRecDepth 100000 in
theorem b2_false (w : World) : Calls Tryz.prog 77 #[.bool false] w fun e w' => e = .returned (.int .u64 0) ∧ w = w' := by
  go_enter Tryz.func77, Tryz.ntmps77
  go_wp2
  go_ret
  exact ⟨rfl, rfl⟩
set_option maxHeartbeats 3200000 in
set_option maxRecDepth 100000 in
theorem at_pos (s : ByteArray) (u m : Nat) (hd : Dg s 0 u m) (hu : 0 < u) (w : World) (hF : TabsF w) :
    Calls Tryz.prog 66 #[.string s] w fun e w' => e = .returned (.tuple #[.float .f64 (floatOfInt .f64 (u : Int)), .int .i64 (s.size : Int), .nilIface]) ∧ w = w' := by
  have c1 := World.var?_cell (show Tryz.prog.globalNamed "internal/strconv.optimize" = some 6 by kernel_rfl) hF.1 0
  have HS := Lib.hid (fun W => sp_pos s u m hd W)
  have HR := Lib.hid (fun W => rf_pos s u m hd hu W)
  have HB2 := Lib.hid (fun W => b2_false W)
  have HX := Lib.hid (ex_pos u hu hd.u15 w hF)
  have hu0 : ((u : Int) == 0) = false := beq_eq_false_iff_ne.2 (by omega)
  obtain ⟨U, hU⟩ : ∃ U : Int, U = (u : Int) := ⟨_, rfl⟩
  simp only [← hU] at HR HX hu0 ⊢
  clear hd hu hF hU
  simp at c1
  go_enter Tryz.func66, Tryz.ntmps66
  go_wp2_with (first | (go_at_call 68; (refine (HS.out _).mono ?_); rintro e _ ⟨rfl, rfl⟩) | (go_at_call 69; (refine (HR.out _).mono ?_); rintro e _ ⟨rfl, rfl⟩) | (go_at_call 77; (refine (HB2.out _).mono ?_); rintro e _ ⟨rfl, rfl⟩) | (go_at_call 79; (refine HX.out.mono ?_); rintro e _ ⟨rfl, rfl⟩))
  go_ret3
  exact ⟨rfl, rfl⟩
set_option maxHeartbeats 3200000 in
set_option maxRecDepth 100000 in
theorem at_neg (s : ByteArray) (u m : Nat) (hd : Dg s 1 u m) (hu : 0 < u) (w : World) (hF : TabsF w) :
    Calls Tryz.prog 66 #[.string s] w fun e w' => e = .returned (.tuple #[.float .f64 (floatOfInt .f64 (-(u : Int))), .int .i64 (s.size : Int), .nilIface]) ∧ w = w' := by
  have c1 := World.var?_cell (show Tryz.prog.globalNamed "internal/strconv.optimize" = some 6 by kernel_rfl) hF.1 0
  have HS := Lib.hid (fun W => sp_neg s u m hd W)
  have HR := Lib.hid (fun W => rf_neg s u m hd hu W)
  have HB2 := Lib.hid (fun W => b2_true W)
  have HX := Lib.hid (ex_neg u hu hd.u15 w hF)
  have hu0 : ((u : Int) == 0) = false := beq_eq_false_iff_ne.2 (by omega)
  obtain ⟨U, hU⟩ : ∃ U : Int, U = (u : Int) := ⟨_, rfl⟩
  simp only [← hU] at HR HX hu0 ⊢
  clear hd hu hF hU
  simp at c1
  go_enter Tryz.func66, Tryz.ntmps66
  go_wp2_with (first | (go_at_call 68; (refine (HS.out _).mono ?_); rintro e _ ⟨rfl, rfl⟩) | (go_at_call 69; (refine (HR.out _).mono ?_); rintro e _ ⟨rfl, rfl⟩) | (go_at_call 77; (refine (HB2.out _).mono ?_); rintro e _ ⟨rfl, rfl⟩) | (go_at_call 79; (refine HX.out.mono ?_); rintro e _ ⟨rfl, rfl⟩))
  go_ret3
  exact ⟨rfl, rfl⟩
set_option maxHeartbeats 3200000 in
set_option maxRecDepth 100000 in
theorem at_zero (s : ByteArray) (m : Nat) (hd : Dg s 0 0 m) (hsz : s.size = 1) (w : World) (hF : TabsF w) :
    Calls Tryz.prog 66 #[.string s] w fun e w' => e = .returned (.tuple #[.float .f64 0, .int .i64 1, .nilIface]) ∧ w = w' := by
  have c1 := World.var?_cell (show Tryz.prog.globalNamed "internal/strconv.optimize" = some 6 by kernel_rfl) hF.1 0
  have HS := Lib.hid (fun W => sp_pos s 0 m hd W)
  have HR := Lib.hid (fun W => rf_zero s hsz (by
    have h := hd.dig 0 (by have := hd.m1; omega)
    have h2 : DD 0 m 0 = 0 := by unfold DD; rw [Nat.zero_div]
    rw [h2] at h
    exact h) W)
  have HB2 := Lib.hid (fun W => b2_false W)
  have hfb := fun n W => frombits_run n W
  clear hd hsz hF
  simp at c1
  go_enter Tryz.func66, Tryz.ntmps66
  go_wp2_with (first | (go_at_call 68; (refine (HS.out _).mono ?_); rintro e _ ⟨rfl, rfl⟩) | (go_at_call 69; (refine (HR.out _).mono ?_); rintro e _ ⟨rfl, rfl⟩) | (go_at_call 77; (refine (HB2.out _).mono ?_); rintro e _ ⟨rfl, rfl⟩))
  go_ret3
  exact ⟨rfl, rfl⟩
/-- The text of n, as the program writes it. -/
def TX (n : Int) (s : ByteArray) : Prop := Dg s (if n < 0 then 1 else 0) n.natAbs (Lib.nDigits n.natAbs)
theorem at_call (n : Int) (s : ByteArray) (h : TX n s) (w : World) (hF : TabsF w) :
    Calls Tryz.prog 66 #[.string s] w fun e w' => e = .returned (.tuple #[.float .f64 (floatOfInt .f64 n), .int .i64 (s.size : Int), .nilIface]) ∧ w = w' := by
  unfold TX at h
  by_cases hn : n < 0
  · rw [if_pos hn] at h
    have := at_neg s _ _ h (by omega) w hF
    rwa [show -((n.natAbs : Nat) : Int) = n by omega] at this
  · rw [if_neg hn] at h
    by_cases h0 : n = 0
    · subst h0
      have hsz : s.size = 1 := by rw [h.size, show Lib.nDigits (Int.natAbs 0) = 1 from Lib.nDigits_small (by decide)]
      have := at_zero s _ h hsz w hF
      rw [hsz, show floatOfInt .f64 0 = 0 by decide +kernel]
      exact this
    · have := at_pos s _ _ h (by omega) w hF
      rwa [show ((n.natAbs : Nat) : Int) = n by omega] at this
set_option maxHeartbeats 3200000 in
set_option maxRecDepth 100000 in
theorem pfp_call (n : Int) (s : ByteArray) (h : TX n s) (w : World) (hF : TabsF w) :
    Calls Tryz.prog 60 #[.string s, .int .i64 64] w fun e w' => e = .returned (.tuple #[.float .f64 (floatOfInt .f64 n), .int .i64 (s.size : Int), .nilIface]) ∧ w = w' := by
  have HC := Lib.hid (at_call n s h w hF)
  obtain ⟨R, hR⟩ : ∃ R : Nat, R = floatOfInt .f64 n := ⟨_, rfl⟩
  rw [← hR] at HC ⊢
  clear h hF hR
  go_enter Tryz.func60, Tryz.ntmps60
  go_wp2_with (go_at_call 66; (refine HC.out.mono ?_); rintro e _ ⟨rfl, rfl⟩)
  go_ret3
  exact ⟨rfl, rfl⟩
set_option maxHeartbeats 3200000 in
set_option maxRecDepth 100000 in
theorem ipf_call (n : Int) (s : ByteArray) (h : TX n s) (w : World) (hF : TabsF w) :
    Calls Tryz.prog 53 #[.string s, .int .i64 64] w fun e w' => e = .returned (.tuple #[.float .f64 (floatOfInt .f64 n), .nilIface]) ∧ w = w' := by
  have HC := Lib.hid (pfp_call n s h w hF)
  obtain ⟨R, hR⟩ : ∃ R : Nat, R = floatOfInt .f64 n := ⟨_, rfl⟩
  rw [← hR] at HC ⊢
  clear h hF hR
  go_enter Tryz.func53, Tryz.ntmps53
  go_wp2_with (go_at_call 60; (refine HC.out.mono ?_); rintro e _ ⟨rfl, rfl⟩)
  go_ret2
  exact ⟨rfl, rfl⟩
set_option maxHeartbeats 3200000 in
set_option maxRecDepth 100000 in
theorem spf_call (n : Int) (s : ByteArray) (h : TX n s) (w : World) (hF : TabsF w) :
    Calls Tryz.prog 48 #[.string s, .int .i64 64] w fun e w' => e = .returned (.tuple #[.float .f64 (floatOfInt .f64 n), .nilIface]) ∧ w = w' := by
  have HC := Lib.hid (ipf_call n s h w hF)
  obtain ⟨R, hR⟩ : ∃ R : Nat, R = floatOfInt .f64 n := ⟨_, rfl⟩
  rw [← hR] at HC ⊢
  clear h hF hR
  go_enter Tryz.func48, Tryz.ntmps48
  go_wp2_with (go_at_call 53; (refine HC.out.mono ?_); rintro e _ ⟨rfl, rfl⟩)
  go_ret2
  exact ⟨rfl, rfl⟩
set_option maxHeartbeats 3200000 in
set_option maxRecDepth 100000 in
theorem cpf_call (n : Int) (s : ByteArray) (h : TX n s) (w : World) (hF : TabsF w) :
    Calls Tryz.prog 41 #[.string s] w fun e w' => e = .returned (.tuple #[.float .f64 (floatOfInt .f64 n), .nilIface]) ∧ w = w' := by
  have HC := Lib.hid (spf_call n s h w hF)
  obtain ⟨R, hR⟩ : ∃ R : Nat, R = floatOfInt .f64 n := ⟨_, rfl⟩
  rw [← hR] at HC ⊢
  clear h hF hR
  have h1 : ∀ W : World, (Instr.typeAssert (Value.iface 22 (Value.float .f64 0)) 20 85 true).run Tryz.prog W = .ok (.tuple #[.float .f32 0, .bool false]) W := fun _ => by kernel_rfl
  have h2 : ∀ W : World, (Instr.typeAssert (Value.iface 22 (Value.float .f64 0)) 20 22 true).run Tryz.prog W = .ok (.tuple #[.float .f64 0, .bool true]) W := fun _ => by kernel_rfl
  have h3 : ∀ W : World, (Instr.typeAssert (Value.iface 22 (Value.float .f64 R)) 20 22 false).run Tryz.prog W = .ok (.float .f64 R) W := fun _ => by kernel_rfl
  go_enter Tryz.func41, Tryz.ntmps41
  go_wp2_with (go_at_call 48; (refine HC.out.mono ?_); rintro e _ ⟨rfl, rfl⟩)
  go_ret2
  exact ⟨rfl, rfl⟩
end Go.Proofs.YtbjoipclkapcjaaGreatDoor.P
