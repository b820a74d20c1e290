/- ParseInt of a decimal text, base 0. -/
import Derived.Test.YtbjoipclkapcjaaGreatDoorTi1
import Derived.Test.YtbjoipclkapcjaaGreatDoorQC1
import Derived.Lib.LaidU8
set_option linter.unusedVariables false
set_option linter.unusedSimpArgs false
namespace Go.Proofs.YtbjoipclkapcjaaGreatDoor.P
open Go.RowKit Go.Proofs.YtbjoipclkapcjaaGreatDoorW.PrintWords Go.Proofs.YtbjoipclkapcjaaGreatDoorW.PrintLast Go.Proofs.YtbjoipclkapcjaaGreatDoorW.PrintMore

theorem wrap_u8 {x : Int} (h0 : 0 ≤ x) (h1 : x ≤ 255) : IntKind.u8.wrap x = x := by
  unfold IntKind.wrap
  simp [IntKind.min, IntKind.max, IntKind.bits, IntKind.signed]
  omega
theorem wrap_u64 {x : Int} (h0 : 0 ≤ x) (h1 : x ≤ 18446744073709551615) : IntKind.u64.wrap x = x := by
  unfold IntKind.wrap
  simp [IntKind.min, IntKind.max, IntKind.bits, IntKind.signed]
  omega
theorem wrap_i64 {x : Int} (h0 : -9223372036854775808 ≤ x) (h1 : x ≤ 9223372036854775807) : IntKind.i64.wrap x = x := by
  unfold IntKind.wrap
  simp [IntKind.min, IntKind.max, IntKind.bits, IntKind.signed]
  omega
def intOf : Value → Int | .int _ z => z | _ => 0
theorem full_c {s : ByteArray} (h : 0 < s.size) : s.toList.isEmpty = false := by
  cases hq : s.toList.isEmpty with
  | false => rfl
  | true =>
    exfalso
    have h2 := List.isEmpty_iff.1 hq
    rw [ByteArray.toList_eq] at h2
    have h3 := size_list s
    rw [h2] at h3
    simp at h3
    omega
set_option maxHeartbeats 3200000 in
set_option maxRecDepth 100000 in
theorem pu_big (s : ByteArray) (u m : Nat) (hd : Dg s 0 u m) (hu : 0 < u) (w : World) :
    Calls Tryz.prog 54 #[.string s, .int .i64 0, .int .i64 0] w fun e w' => e = .returned (.tuple #[.int .u64 (u : Int), .nilIface]) ∧ Below w.heap.size w w' := by
  have hsz : s.size = m := by rw [hd.size, Nat.zero_add]
  have hm1 := hd.m1
  have hm2 := hd.m2
  have hu15 := hd.u15
  have hne := full_c (show 0 < s.size by omega)
  have h0 : bt s 0 = 48 + ((DD u m 0 : Nat) : Int) := hd.dig 0 (by omega)
  have hb0 : bt s 0 = (((s[0]'(by omega)).toNat : Nat) : Int) := bt_nat s 0 (by omega)
  have hf := hd.first hu
  have h48 : ((((s[0]'(by omega)).toNat : Nat) : Int) == 48) = false := beq_eq_false_iff_ne.2 (by rw [← hb0, h0]; omega)
  have hcv := run_bytes (P := Tryz.prog) (src := 9) (dst := 48) (e := 5) Tryz.underlying9 Tryz.underlying48 Tryz.underlying5 s w
  have HB0 := Lib.hid (bytes_below (Below.refl w.heap.size w) (Nat.le_refl _) 5 s)
  have hrow := NumRow.of_bytes w 5 s
  obtain ⟨W, hW⟩ : ∃ W, W = Lib.bytesWorld w 5 s := ⟨_, rfl⟩
  rw [← hW] at hcv hrow HB0
  have HROW := Lib.hid hrow
  have HD := Lib.hid hd
  have hlen : 0 < (s.size : Int) := by omega
  clear h0 hb0 hf hW hrow hd
  have hwr : IntKind.u64.wrap 18446744073709551616 = 0 := by decide +kernel
  have hwr2 : IntKind.u64.wrap (0 - 1) = 18446744073709551615 := by decide +kernel
  have hwr3 : IntKind.u64.wrap (-1) = 18446744073709551615 := by decide +kernel
  go_enter Tryz.func54, Tryz.ntmps54
  go_wp2
  clear h48
  go_loopw [12, 13, 101] (fun b n i wr => ∃ k q : Nat, wr = W ∧ b = .bool false ∧ n = .int .u64 (q : Int) ∧ i = .int .i64 k ∧ k ≤ s.size ∧ Hid (q = DV u m k)) (fun _ _ i _ => s.size - (intOf i).toNat)
  case atStart => exact ⟨0, 0, rfl, rfl, rfl, rfl, Nat.zero_le _, Lib.hid (DV_zero HD.out.lt).symm⟩
  case round =>
    obtain ⟨k, q, rfl, rfl, rfl, rfl, hk, HQ⟩ := hrel
    by_cases hkm : k < s.size
    · have hcell := HROW.out.cell (j := k) (by rw [nums8_length]; exact hkm)
      have hg : (nums8 s).getD k 0 = 48 + ((DD u m k : Nat) : Int) := by
        rw [List.getD_eq_getElem?_getD, List.getElem?_eq_getElem (by rw [nums8_length]; exact hkm), Option.getD_some, nums8_at s k hkm]
        have := HD.out.dig k (by omega)
        rwa [Nat.zero_add] at this
      rw [hg] at hcell
      have e1 := DV_succ u m k (by omega)
      have e2 := DV_le u m (k + 1)
      have e3 := DD_lt u m k
      rw [← HQ.out] at e1
      obtain ⟨dd, hdd⟩ : ∃ dd, dd = DD u m k := ⟨_, rfl⟩
      obtain ⟨q1, hq1⟩ : ∃ q1, q1 = DV u m (k + 1) := ⟨_, rfl⟩
      rw [← hdd] at e1 e3 hcell
      rw [← hq1] at e1 e2
      have HQ1 := Lib.hid hq1
      clear hg hdd hq1
      obtain ⟨c, hc⟩ : ∃ c : Int, c = 48 + (dd : Int) := ⟨_, rfl⟩
      rw [← hc] at hcell
      obtain ⟨q2, hq2⟩ : ∃ q2 : Int, q2 = (q : Int) * 10 := ⟨_, rfl⟩
      obtain ⟨qi, hqi⟩ : ∃ qi : Int, qi = (q : Int) := ⟨_, rfl⟩
      obtain ⟨di, hdi⟩ : ∃ di : Int, di = (dd : Int) := ⟨_, rfl⟩
      obtain ⟨q3, hq3⟩ : ∃ q3 : Int, q3 = (q1 : Int) := ⟨_, rfl⟩
      have d0 : (c == 95) = false := beq_eq_false_iff_ne.2 (by omega)
      have d1 : decide (48 ≤ c) = true := decide_eq_true (by omega)
      have d2 : decide (c ≤ 57) = true := decide_eq_true (by omega)
      have s1 : IntKind.u8.wrap (c - 48) = di := by rw [show c - 48 = di by omega]; exact wrap_u8 (by omega) (by omega)
      have d3 : decide (10 ≤ di) = false := decide_eq_false (by omega)
      have d4 : decide (1844674407370955162 ≤ qi) = false := decide_eq_false (by omega)
      have s2 : IntKind.u64.wrap (qi * 10) = q2 := by rw [show qi * 10 = q2 by omega]; exact wrap_u64 (by omega) (by omega)
      have s3 : IntKind.u64.wrap di = di := wrap_u64 (by omega) (by omega)
      have s4 : IntKind.u64.wrap (q2 + di) = q3 := by rw [show q2 + di = q3 by omega]; exact wrap_u64 (by omega) (by omega)
      have d5 : decide (q3 < q2) = false := decide_eq_false (by omega)
      have d6 : decide (18446744073709551615 < q3) = false := decide_eq_false (by omega)
      rw [← hqi]
      have HQ3 := Lib.hid hq3
      clear e1 e2 e3 hu15 hq2 hqi hdi hc hq3
      go_wp2
      exact ⟨⟨k + 1, q1, trivial, rfl, by rw [HQ3.out], rfl, by omega, HQ1⟩, by simp only [intOf]; omega⟩
    · have hkk : k = s.size := by omega
      subst hkk
      have hq : q = u := by rw [HQ.out, hsz, DV_all]
      clear HQ
      subst hq
      go_wp2
      go_ret2
      exact ⟨rfl, HB0.out⟩
set_option maxHeartbeats 3200000 in
set_option maxRecDepth 100000 in
theorem pu_zero (s : ByteArray) (hsz : s.size = 1) (h0 : bt s 0 = 48) (w : World) :
    Calls Tryz.prog 54 #[.string s, .int .i64 0, .int .i64 0] w fun e w' => e = .returned (.tuple #[.int .u64 0, .nilIface]) ∧ Below w.heap.size w w' := by
  have hne := full_c (show 0 < s.size by omega)
  have hb0 : bt s 0 = (((s[0]'(by omega)).toNat : Nat) : Int) := bt_nat s 0 (by omega)
  have h48 : ((((s[0]'(by omega)).toNat : Nat) : Int) == 48) = true := beq_iff_eq.2 (by rw [← hb0, h0])
  obtain ⟨t, ht⟩ : ∃ t, t = ByteArray.empty := ⟨_, rfl⟩
  have htz : t.size = 0 := by rw [ht]; rfl
  have hcv := run_bytes (P := Tryz.prog) (src := 9) (dst := 48) (e := 5) Tryz.underlying9 Tryz.underlying48 Tryz.underlying5 t w
  have HB0 := Lib.hid (bytes_below (Below.refl w.heap.size w) (Nat.le_refl _) 5 t)
  obtain ⟨W, hW⟩ : ∃ W, W = Lib.bytesWorld w 5 t := ⟨_, rfl⟩
  rw [← hW] at hcv HB0
  have hlen : (s.size : Int) = 1 := by omega
  have hwr : IntKind.u64.wrap 18446744073709551616 = 0 := by decide +kernel
  have hwr2 : IntKind.u64.wrap (0 - 1) = 18446744073709551615 := by decide +kernel
  have hwr3 : IntKind.u64.wrap (-1) = 18446744073709551615 := by decide +kernel
  rw [htz] at hcv
  clear h0 hb0 hW htz
  rw [ht] at hcv
  clear ht
  go_enter Tryz.func54, Tryz.ntmps54
  go_wp2
  clear h48
  go_loopw [12, 13, 101] (fun b n i wr => wr = W ∧ b = .bool false ∧ n = .int .u64 0 ∧ i = .int .i64 0) (fun _ _ _ _ => 0)
  case atStart => exact ⟨rfl, rfl, rfl, rfl⟩
  case round =>
    obtain ⟨rfl, rfl, rfl, rfl⟩ := hrel
    go_wp2
    go_ret2
    exact ⟨rfl, HB0.out⟩
set_option maxHeartbeats 3200000 in
set_option maxRecDepth 100000 in
theorem pu_call (s : ByteArray) (u m : Nat) (hd : Dg s 0 u m) (w : World) :
    Calls Tryz.prog 54 #[.string s, .int .i64 0, .int .i64 0] w fun e w' => e = .returned (.tuple #[.int .u64 (u : Int), .nilIface]) ∧ Below w.heap.size w w' := by
  rcases Nat.eq_zero_or_pos u with rfl | hu
  · have hm : m = 1 := by
      rcases hd.lead with h | h
      · exact h
      · exfalso
        have : 0 < 10 ^ (m - 1) := Nat.pow_pos (by decide)
        omega
    subst hm
    exact pu_zero s (by rw [hd.size]) (by have := hd.dig 0 (by omega); exact this.trans (by rfl)) w
  · exact pu_big s u m hd hu w
set_option maxHeartbeats 3200000 in
set_option maxRecDepth 100000 in
theorem pi_pos (s : ByteArray) (u m : Nat) (hd : Dg s 0 u m) (w : World) :
    Calls Tryz.prog 49 #[.string s, .int .i64 0, .int .i64 0] w fun e w' => e = .returned (.tuple #[.int .i64 ((u : Int)), .nilIface]) ∧ Below w.heap.size w w' := by
  have hsz := hd.size
  have hm1 := hd.m1
  have hm2 := hd.m2
  have hu15 := hd.u15
  have hz : 0 < s.size := by omega
  have hne := full_c hz
  have hb0 : bt s 0 = (((s[0]'hz).toNat : Nat) : Int) := bt_nat s 0 (by omega)
  have h1 : bt s 0 = 48 + ((DD u m 0 : Nat) : Int) := hd.dig 0 (by omega)
  have h2 := DD_lt u m 0
  have h43 : ((((s[0]'hz).toNat : Nat) : Int) == 43) = false := beq_eq_false_iff_ne.2 (by omega)
  have h45 : ((((s[0]'hz).toNat : Nat) : Int) == 45) = false := beq_eq_false_iff_ne.2 (by omega)
  clear h1 h2
  have HP := Lib.hid (fun W => pu_call s u m hd W)
  obtain ⟨U, hU⟩ : ∃ U : Int, U = (u : Int) := ⟨_, rfl⟩
  rw [← hU] at HP ⊢
  have hw63 : IntKind.u64.wrap 9223372036854775808 = 9223372036854775808 := by decide +kernel
  have d1 : decide (9223372036854775808 ≤ U) = false := decide_eq_false (by omega)
  have d2 : decide (9223372036854775808 < U) = false := decide_eq_false (by omega)
  have s1 : IntKind.i64.wrap U = U := wrap_i64 (by omega) (by omega)
  have s2 : IntKind.i64.wrap (0 - U) = -U := by rw [show (0 : Int) - U = -U by omega]; exact wrap_i64 (by omega) (by omega)
  have s3 : IntKind.i64.wrap (-U) = -U := wrap_i64 (by omega) (by omega)
  have hlen : 1 ≤ (s.size : Int) := by omega
  clear hd hb0 hu15 hU hsz
  go_enter Tryz.func49, Tryz.ntmps49
  go_wp2_with fail
  refine (HP.out _).mono ?_
  rintro e w1 ⟨rfl, hb⟩
  have HB := Lib.hid hb
  clear hb HP
  go_wp2
  go_ret2
  exact ⟨rfl, HB.out⟩
set_option maxHeartbeats 3200000 in
set_option maxRecDepth 100000 in
theorem pi_neg (s : ByteArray) (u m : Nat) (hd : Dg s 1 u m) (w : World) :
    Calls Tryz.prog 49 #[.string s, .int .i64 0, .int .i64 0] w fun e w' => e = .returned (.tuple #[.int .i64 (-(u : Int)), .nilIface]) ∧ Below w.heap.size w w' := by
  have hsz := hd.size
  have hm1 := hd.m1
  have hm2 := hd.m2
  have hu15 := hd.u15
  have hz : 0 < s.size := by omega
  have hne := full_c hz
  have hb0 : bt s 0 = (((s[0]'hz).toNat : Nat) : Int) := bt_nat s 0 (by omega)
  have h1 := (hd.sign rfl).1
  have h43 : ((((s[0]'hz).toNat : Nat) : Int) == 43) = false := beq_eq_false_iff_ne.2 (by omega)
  have h45 : ((((s[0]'hz).toNat : Nat) : Int) == 45) = true := beq_iff_eq.2 (by omega)
  clear h1
  have HP := Lib.hid (fun W => pu_call (s.extract 1 s.size) u m hd.tail W)
  obtain ⟨U, hU⟩ : ∃ U : Int, U = (u : Int) := ⟨_, rfl⟩
  rw [← hU] at HP ⊢
  have hw63 : IntKind.u64.wrap 9223372036854775808 = 9223372036854775808 := by decide +kernel
  have d1 : decide (9223372036854775808 ≤ U) = false := decide_eq_false (by omega)
  have d2 : decide (9223372036854775808 < U) = false := decide_eq_false (by omega)
  have s1 : IntKind.i64.wrap U = U := wrap_i64 (by omega) (by omega)
  have s2 : IntKind.i64.wrap (0 - U) = -U := by rw [show (0 : Int) - U = -U by omega]; exact wrap_i64 (by omega) (by omega)
  have s3 : IntKind.i64.wrap (-U) = -U := wrap_i64 (by omega) (by omega)
  have hlen : 1 ≤ (s.size : Int) := by omega
  clear hd hb0 hu15 hU hsz
  go_enter Tryz.func49, Tryz.ntmps49
  go_wp2_with fail
  refine (HP.out _).mono ?_
  rintro e w1 ⟨rfl, hb⟩
  have HB := Lib.hid hb
  clear hb HP
  go_wp2
  go_ret2
  exact ⟨rfl, HB.out⟩
end Go.Proofs.YtbjoipclkapcjaaGreatDoor.P
