/- readFloat of a decimal text. -/
import Derived.Test.YtbjoipclkapcjaaGreatDoorTi2
set_option linter.unusedVariables false
set_option linter.unusedSimpArgs false
namespace Go.Proofs.YtbjoipclkapcjaaGreatDoor.P
open Go.RowKit Go.Proofs.YtbjoipclkapcjaaGreatDoorW.PrintWords Go.Proofs.YtbjoipclkapcjaaGreatDoorW.PrintLast Go.Proofs.YtbjoipclkapcjaaGreatDoorW.PrintMore

theorem results_tmp7 {fn : Func} {t0 t1 t2 t3 t4 t5 t6 : Tmp} (h : fn.results = #[.tmp t0, .tmp t1, .tmp t2, .tmp t3, .tmp t4, .tmp t5, .tmp t6]) (tmps : Array Value) (P : Program) (w : World) :
    (results fn tmps).run P w = .ok (.tuple #[tmps.getD t0 undef, tmps.getD t1 undef, tmps.getD t2 undef, tmps.getD t3 undef, tmps.getD t4 undef, tmps.getD t5 undef, tmps.getD t6 undef]) w := by
  simp [results, h]
set_option maxHeartbeats 3200000 in
set_option maxRecDepth 100000 in
theorem rf_pos_long (s : ByteArray) (u m : Nat) (hd : Dg s 0 u m) (hu : 0 < u) (hL : 2 < s.size) (w : World) :
    Calls Tryz.prog 69 #[.string s] w fun e w' => e = .returned (.tuple #[.int .u64 (u : Int), .int .i64 0, .bool false, .bool false, .bool false, .int .i64 ((m : Nat) : Int), .bool true]) ∧ w = w' := by
  have hsz := hd.size
  have hm1 := hd.m1
  have hm2 := hd.m2
  have hu15 := hd.u15
  have hz : 0 < s.size := by omega
  have hb0 : bt s 0 = (((s[0]'hz).toNat : Nat) : Int) := bt_nat s 0 hz
  have h1 : bt s 0 = 48 + ((DD u m 0 : Nat) : Int) := hd.dig 0 (by omega)
  have h2 := DD_lt u m 0
  have h43 : ((((s[0]'hz).toNat : Nat) : Int) == 43) = false := beq_eq_false_iff_ne.2 (by omega)
  have h45 : ((((s[0]'hz).toNat : Nat) : Int) == 45) = false := beq_eq_false_iff_ne.2 (by omega)
  clear h1 h2
  have hz1 : 0 < s.size := by omega
  have hb1 : bt s 0 = (((s[0]'hz1).toNat : Nat) : Int) := bt_nat s 0 hz1
  have h48 : ((((s[0]'hz1).toNat : Nat) : Int) == 48) = false := beq_eq_false_iff_ne.2 (by
    have h1 : bt s 0 = 48 + ((DD u m 0 : Nat) : Int) := hd.dig 0 (by omega)
    have h2 := hd.first hu
    omega)
  have hlong : decide ((2 : Int) < (s.size : Int)) = true := decide_eq_true (by omega)
  have HD := Lib.hid hd
  have HSZ := Lib.hid hsz
  have hs17 : s.size ≤ 16 := by omega
  have hu0 : ((u : Int) == 0) = false := beq_eq_false_iff_ne.2 (by omega)
  have hmm : IntKind.i64.wrap ((m : Int) - (m : Int)) = 0 := by rw [show (m : Int) - (m : Int) = 0 by omega]; decide +kernel
  clear hb0 hb1 hd hL hsz
  have hne : ¬ s = ByteArray.empty := fun h => by rw [h] at hz; exact absurd hz (by decide)
  go_enter Tryz.func69, Tryz.ntmps69
  go_wp2
  go_step3
  go_wp2
  go_step3
  go_wp2
  clear h43 h45 h48 hlong
  go_loopw [2, 5, 7, 9, 13, 14, 15, 16, 17] (fun n t i b d g x y z wr => ∃ k q : Nat, n = .int .u64 (q : Int) ∧ t = .bool false ∧ i = .int .i64 ((k : Nat) : Int) ∧ b = .bool false ∧ d = .bool false ∧ g = .bool (decide (0 < k)) ∧ x = .int .i64 k ∧ y = .int .i64 k ∧ z = .int .i64 0 ∧ k ≤ m ∧ Hid (q = DV u m k) ∧ wr = w) (fun _ _ i _ _ _ _ _ _ _ => s.size - (intOf i).toNat)
  case atStart => exact ⟨0, 0, rfl, rfl, rfl, rfl, rfl, rfl, rfl, rfl, rfl, Nat.zero_le _, Lib.hid (DV_zero HD.out.lt).symm, rfl⟩
  case round =>
    obtain ⟨k, q, rfl, rfl, rfl, rfl, rfl, rfl, rfl, rfl, rfl, hk, HQ, rfl⟩ := hrel
    have hsz := HSZ.out
    by_cases hkm : k < m
    · have hks : k < s.size := by omega
      have hcb : bt s ((k : Nat) : Int) = (((s[k]'hks).toNat : Nat) : Int) := bt_nat s (k) hks
      have hg : bt s ((k : Nat) : Int) = 48 + ((DD u m k : Nat) : Int) := by
        have := HD.out.dig k (by omega)
        rwa [Nat.zero_add] at this
      rw [hg] at hcb
      have e0 : k = 0 → 0 < DD u m k := fun h => by subst h; exact HD.out.first hu
      have e1 := DV_succ u m k (by omega)
      have e2 := DV_le u m (k + 1)
      have e3 := DD_lt u m k
      rw [← HQ.out] at e1
      obtain ⟨dd, hdd⟩ : ∃ dd, dd = DD u m k := ⟨_, rfl⟩
      obtain ⟨q1, hq1⟩ : ∃ q1, q1 = DV u m (k + 1) := ⟨_, rfl⟩
      rw [← hdd] at e0 e1 e3 hcb
      rw [← hq1] at e1 e2
      have HQ1 := Lib.hid hq1
      clear hg hdd hq1
      obtain ⟨c, hc⟩ : ∃ c : Int, c = (((s[k]'hks).toNat : Nat) : Int) := ⟨_, rfl⟩
      have hcc : c = 48 + (dd : Int) := by omega
      obtain ⟨q2, hq2⟩ : ∃ q2 : Int, q2 = (q : Int) * 10 := ⟨_, rfl⟩
      obtain ⟨qi, hqi⟩ : ∃ qi : Int, qi = (q : Int) := ⟨_, rfl⟩
      obtain ⟨di, hdi⟩ : ∃ di : Int, di = (dd : Int) := ⟨_, rfl⟩
      obtain ⟨q3, hq3⟩ : ∃ q3 : Int, q3 = (q1 : Int) := ⟨_, rfl⟩
      have d0 : (c == 95) = false := beq_eq_false_iff_ne.2 (by omega)
      have d46 : (c == 46) = false := beq_eq_false_iff_ne.2 (by omega)
      have d1 : decide (48 ≤ c) = true := decide_eq_true (by omega)
      have d2 : decide (c ≤ 57) = true := decide_eq_true (by omega)
      have s1 : IntKind.u8.wrap (c - 48) = di := by rw [show c - 48 = di by omega]; exact wrap_u8 (by omega) (by omega)
      have s2 : IntKind.u64.wrap (qi * 10) = q2 := by rw [show qi * 10 = q2 by omega]; exact wrap_u64 (by omega) (by omega)
      have s3 : IntKind.u64.wrap di = di := wrap_u64 (by omega) (by omega)
      have s4 : IntKind.u64.wrap (q2 + di) = q3 := by rw [show q2 + di = q3 by omega]; exact wrap_u64 (by omega) (by omega)
      have d19 : decide ((k : Int) < 19) = true := decide_eq_true (by omega)
      have hz0 : c = 48 → ((k : Int) == 0) = false := fun h => beq_eq_false_iff_ne.2 (fun h2 => by have := e0 (by omega); omega)
      rw [← hqi]
      have HQ3 := Lib.hid hq3
      clear e0 e1 e2 e3 hu15 hq2 hqi hdi hcc hq3 hcb hu hsz
      cases hcz : (c == 48) with
      | true =>
        have hk0 := hz0 (beq_iff_eq.1 hcz)
        clear hz0
        rw [hc] at d0 d46 d1 d2 s1 hcz
        go_wp2
        exact ⟨⟨k + 1, q1, by rw [HQ3.out], rfl, rfl, rfl, rfl, by rw [decide_eq_true (by omega)], rfl, rfl, rfl, by omega, HQ1, trivial⟩, by simp only [intOf]; omega⟩
      | false =>
        clear hz0
        rw [hc] at d0 d46 d1 d2 s1 hcz
        go_wp2
        exact ⟨⟨k + 1, q1, by rw [HQ3.out], rfl, rfl, rfl, rfl, by rw [decide_eq_true (by omega)], rfl, rfl, rfl, by omega, HQ1, trivial⟩, by simp only [intOf]; omega⟩
    · have hkk : k = m := by omega
      subst hkk
      have hq : q = u := by rw [HQ.out, DV_all]
      clear HQ
      subst hq
      have hsd : decide (0 < k) = true := decide_eq_true (by omega)
      have hlt : ¬ k < s.size := by omega
      clear hsz
      rw [hsd]
      go_wp2
      try rw [Exit.noGoto_ret]
      (try simp only [Exit.inBlock, Exit.then]); refine bodyPost_ret (results_tmp7 rfl _ _ _) rfl ?_
      exact ⟨rfl, rfl⟩
set_option maxHeartbeats 3200000 in
set_option maxRecDepth 100000 in
theorem rf_pos_short (s : ByteArray) (u m : Nat) (hd : Dg s 0 u m) (hu : 0 < u) (hL : 2 ≥ s.size) (w : World) :
    Calls Tryz.prog 69 #[.string s] w fun e w' => e = .returned (.tuple #[.int .u64 (u : Int), .int .i64 0, .bool false, .bool false, .bool false, .int .i64 ((m : Nat) : Int), .bool true]) ∧ w = w' := by
  have hsz := hd.size
  have hm1 := hd.m1
  have hm2 := hd.m2
  have hu15 := hd.u15
  have hz : 0 < s.size := by omega
  have hb0 : bt s 0 = (((s[0]'hz).toNat : Nat) : Int) := bt_nat s 0 hz
  have h1 : bt s 0 = 48 + ((DD u m 0 : Nat) : Int) := hd.dig 0 (by omega)
  have h2 := DD_lt u m 0
  have h43 : ((((s[0]'hz).toNat : Nat) : Int) == 43) = false := beq_eq_false_iff_ne.2 (by omega)
  have h45 : ((((s[0]'hz).toNat : Nat) : Int) == 45) = false := beq_eq_false_iff_ne.2 (by omega)
  clear h1 h2
  have hz1 : 0 < s.size := by omega
  have hb1 : bt s 0 = (((s[0]'hz1).toNat : Nat) : Int) := bt_nat s 0 hz1
  have h48 : ((((s[0]'hz1).toNat : Nat) : Int) == 48) = false := beq_eq_false_iff_ne.2 (by
    have h1 : bt s 0 = 48 + ((DD u m 0 : Nat) : Int) := hd.dig 0 (by omega)
    have h2 := hd.first hu
    omega)
  have hlong : decide ((2 : Int) < (s.size : Int)) = false := decide_eq_false (by omega)
  have HD := Lib.hid hd
  have HSZ := Lib.hid hsz
  have hs17 : s.size ≤ 16 := by omega
  have hu0 : ((u : Int) == 0) = false := beq_eq_false_iff_ne.2 (by omega)
  have hmm : IntKind.i64.wrap ((m : Int) - (m : Int)) = 0 := by rw [show (m : Int) - (m : Int) = 0 by omega]; decide +kernel
  clear hb0 hb1 hd hL hsz
  have hne : ¬ s = ByteArray.empty := fun h => by rw [h] at hz; exact absurd hz (by decide)
  go_enter Tryz.func69, Tryz.ntmps69
  go_wp2
  go_step3
  go_wp2
  go_step3
  go_wp2
  clear h43 h45 h48 hlong
  go_loopw [2, 5, 7, 9, 13, 14, 15, 16, 17] (fun n t i b d g x y z wr => ∃ k q : Nat, n = .int .u64 (q : Int) ∧ t = .bool false ∧ i = .int .i64 ((k : Nat) : Int) ∧ b = .bool false ∧ d = .bool false ∧ g = .bool (decide (0 < k)) ∧ x = .int .i64 k ∧ y = .int .i64 k ∧ z = .int .i64 0 ∧ k ≤ m ∧ Hid (q = DV u m k) ∧ wr = w) (fun _ _ i _ _ _ _ _ _ _ => s.size - (intOf i).toNat)
  case atStart => exact ⟨0, 0, rfl, rfl, rfl, rfl, rfl, rfl, rfl, rfl, rfl, Nat.zero_le _, Lib.hid (DV_zero HD.out.lt).symm, rfl⟩
  case round =>
    obtain ⟨k, q, rfl, rfl, rfl, rfl, rfl, rfl, rfl, rfl, rfl, hk, HQ, rfl⟩ := hrel
    have hsz := HSZ.out
    by_cases hkm : k < m
    · have hks : k < s.size := by omega
      have hcb : bt s ((k : Nat) : Int) = (((s[k]'hks).toNat : Nat) : Int) := bt_nat s (k) hks
      have hg : bt s ((k : Nat) : Int) = 48 + ((DD u m k : Nat) : Int) := by
        have := HD.out.dig k (by omega)
        rwa [Nat.zero_add] at this
      rw [hg] at hcb
      have e0 : k = 0 → 0 < DD u m k := fun h => by subst h; exact HD.out.first hu
      have e1 := DV_succ u m k (by omega)
      have e2 := DV_le u m (k + 1)
      have e3 := DD_lt u m k
      rw [← HQ.out] at e1
      obtain ⟨dd, hdd⟩ : ∃ dd, dd = DD u m k := ⟨_, rfl⟩
      obtain ⟨q1, hq1⟩ : ∃ q1, q1 = DV u m (k + 1) := ⟨_, rfl⟩
      rw [← hdd] at e0 e1 e3 hcb
      rw [← hq1] at e1 e2
      have HQ1 := Lib.hid hq1
      clear hg hdd hq1
      obtain ⟨c, hc⟩ : ∃ c : Int, c = (((s[k]'hks).toNat : Nat) : Int) := ⟨_, rfl⟩
      have hcc : c = 48 + (dd : Int) := by omega
      obtain ⟨q2, hq2⟩ : ∃ q2 : Int, q2 = (q : Int) * 10 := ⟨_, rfl⟩
      obtain ⟨qi, hqi⟩ : ∃ qi : Int, qi = (q : Int) := ⟨_, rfl⟩
      obtain ⟨di, hdi⟩ : ∃ di : Int, di = (dd : Int) := ⟨_, rfl⟩
      obtain ⟨q3, hq3⟩ : ∃ q3 : Int, q3 = (q1 : Int) := ⟨_, rfl⟩
      have d0 : (c == 95) = false := beq_eq_false_iff_ne.2 (by omega)
      have d46 : (c == 46) = false := beq_eq_false_iff_ne.2 (by omega)
      have d1 : decide (48 ≤ c) = true := decide_eq_true (by omega)
      have d2 : decide (c ≤ 57) = true := decide_eq_true (by omega)
      have s1 : IntKind.u8.wrap (c - 48) = di := by rw [show c - 48 = di by omega]; exact wrap_u8 (by omega) (by omega)
      have s2 : IntKind.u64.wrap (qi * 10) = q2 := by rw [show qi * 10 = q2 by omega]; exact wrap_u64 (by omega) (by omega)
      have s3 : IntKind.u64.wrap di = di := wrap_u64 (by omega) (by omega)
      have s4 : IntKind.u64.wrap (q2 + di) = q3 := by rw [show q2 + di = q3 by omega]; exact wrap_u64 (by omega) (by omega)
      have d19 : decide ((k : Int) < 19) = true := decide_eq_true (by omega)
      have hz0 : c = 48 → ((k : Int) == 0) = false := fun h => beq_eq_false_iff_ne.2 (fun h2 => by have := e0 (by omega); omega)
      rw [← hqi]
      have HQ3 := Lib.hid hq3
      clear e0 e1 e2 e3 hu15 hq2 hqi hdi hcc hq3 hcb hu hsz
      cases hcz : (c == 48) with
      | true =>
        have hk0 := hz0 (beq_iff_eq.1 hcz)
        clear hz0
        rw [hc] at d0 d46 d1 d2 s1 hcz
        go_wp2
        exact ⟨⟨k + 1, q1, by rw [HQ3.out], rfl, rfl, rfl, rfl, by rw [decide_eq_true (by omega)], rfl, rfl, rfl, by omega, HQ1, trivial⟩, by simp only [intOf]; omega⟩
      | false =>
        clear hz0
        rw [hc] at d0 d46 d1 d2 s1 hcz
        go_wp2
        exact ⟨⟨k + 1, q1, by rw [HQ3.out], rfl, rfl, rfl, rfl, by rw [decide_eq_true (by omega)], rfl, rfl, rfl, by omega, HQ1, trivial⟩, by simp only [intOf]; omega⟩
    · have hkk : k = m := by omega
      subst hkk
      have hq : q = u := by rw [HQ.out, DV_all]
      clear HQ
      subst hq
      have hsd : decide (0 < k) = true := decide_eq_true (by omega)
      have hlt : ¬ k < s.size := by omega
      clear hsz
      rw [hsd]
      go_wp2
      try rw [Exit.noGoto_ret]
      (try simp only [Exit.inBlock, Exit.then]); refine bodyPost_ret (results_tmp7 rfl _ _ _) rfl ?_
      exact ⟨rfl, rfl⟩
set_option maxHeartbeats 3200000 in
set_option maxRecDepth 100000 in
theorem rf_neg_long (s : ByteArray) (u m : Nat) (hd : Dg s 1 u m) (hu : 0 < u) (hL : 3 < s.size) (w : World) :
    Calls Tryz.prog 69 #[.string s] w fun e w' => e = .returned (.tuple #[.int .u64 (u : Int), .int .i64 0, .bool true, .bool false, .bool false, .int .i64 ((m + 1 : Nat) : Int), .bool true]) ∧ w = w' := by
  have hsz := hd.size
  have hm1 := hd.m1
  have hm2 := hd.m2
  have hu15 := hd.u15
  have hz : 0 < s.size := by omega
  have hb0 : bt s 0 = (((s[0]'hz).toNat : Nat) : Int) := bt_nat s 0 hz
  have h1 := (hd.sign rfl).1
  have h43 : ((((s[0]'hz).toNat : Nat) : Int) == 43) = false := beq_eq_false_iff_ne.2 (by omega)
  have h45 : ((((s[0]'hz).toNat : Nat) : Int) == 45) = true := beq_iff_eq.2 (by omega)
  clear h1
  have hz1 : 1 < s.size := by omega
  have hb1 : bt s 1 = (((s[1]'hz1).toNat : Nat) : Int) := bt_nat s 1 hz1
  have h48 : ((((s[1]'hz1).toNat : Nat) : Int) == 48) = false := beq_eq_false_iff_ne.2 (by
    have h1 : bt s 1 = 48 + ((DD u m 0 : Nat) : Int) := hd.dig 0 (by omega)
    have h2 := hd.first hu
    omega)
  have hlong : decide ((3 : Int) < (s.size : Int)) = true := decide_eq_true (by omega)
  have HD := Lib.hid hd
  have HSZ := Lib.hid hsz
  have hs17 : s.size ≤ 16 := by omega
  have hu0 : ((u : Int) == 0) = false := beq_eq_false_iff_ne.2 (by omega)
  have hmm : IntKind.i64.wrap ((m : Int) - (m : Int)) = 0 := by rw [show (m : Int) - (m : Int) = 0 by omega]; decide +kernel
  clear hb0 hb1 hd hL hsz
  have hne : ¬ s = ByteArray.empty := fun h => by rw [h] at hz; exact absurd hz (by decide)
  go_enter Tryz.func69, Tryz.ntmps69
  go_wp2
  go_step3
  go_wp2
  go_step3
  go_wp2
  clear h43 h45 h48 hlong
  go_loopw [2, 5, 7, 9, 13, 14, 15, 16, 17] (fun n t i b d g x y z wr => ∃ k q : Nat, n = .int .u64 (q : Int) ∧ t = .bool false ∧ i = .int .i64 ((k + 1 : Nat) : Int) ∧ b = .bool false ∧ d = .bool false ∧ g = .bool (decide (0 < k)) ∧ x = .int .i64 k ∧ y = .int .i64 k ∧ z = .int .i64 0 ∧ k ≤ m ∧ Hid (q = DV u m k) ∧ wr = w) (fun _ _ i _ _ _ _ _ _ _ => s.size - (intOf i).toNat)
  case atStart => exact ⟨0, 0, rfl, rfl, rfl, rfl, rfl, rfl, rfl, rfl, rfl, Nat.zero_le _, Lib.hid (DV_zero HD.out.lt).symm, rfl⟩
  case round =>
    obtain ⟨k, q, rfl, rfl, rfl, rfl, rfl, rfl, rfl, rfl, rfl, hk, HQ, rfl⟩ := hrel
    have hsz := HSZ.out
    by_cases hkm : k < m
    · have hks : k + 1 < s.size := by omega
      have hcb : bt s ((k + 1 : Nat) : Int) = (((s[k + 1]'hks).toNat : Nat) : Int) := bt_nat s (k + 1) hks
      have hg : bt s ((k + 1 : Nat) : Int) = 48 + ((DD u m k : Nat) : Int) := by
        have := HD.out.dig k (by omega)
        rwa [Nat.add_comm] at this
      rw [hg] at hcb
      have e0 : k = 0 → 0 < DD u m k := fun h => by subst h; exact HD.out.first hu
      have e1 := DV_succ u m k (by omega)
      have e2 := DV_le u m (k + 1)
      have e3 := DD_lt u m k
      rw [← HQ.out] at e1
      obtain ⟨dd, hdd⟩ : ∃ dd, dd = DD u m k := ⟨_, rfl⟩
      obtain ⟨q1, hq1⟩ : ∃ q1, q1 = DV u m (k + 1) := ⟨_, rfl⟩
      rw [← hdd] at e0 e1 e3 hcb
      rw [← hq1] at e1 e2
      have HQ1 := Lib.hid hq1
      clear hg hdd hq1
      obtain ⟨c, hc⟩ : ∃ c : Int, c = (((s[k + 1]'hks).toNat : Nat) : Int) := ⟨_, rfl⟩
      have hcc : c = 48 + (dd : Int) := by omega
      obtain ⟨q2, hq2⟩ : ∃ q2 : Int, q2 = (q : Int) * 10 := ⟨_, rfl⟩
      obtain ⟨qi, hqi⟩ : ∃ qi : Int, qi = (q : Int) := ⟨_, rfl⟩
      obtain ⟨di, hdi⟩ : ∃ di : Int, di = (dd : Int) := ⟨_, rfl⟩
      obtain ⟨q3, hq3⟩ : ∃ q3 : Int, q3 = (q1 : Int) := ⟨_, rfl⟩
      have d0 : (c == 95) = false := beq_eq_false_iff_ne.2 (by omega)
      have d46 : (c == 46) = false := beq_eq_false_iff_ne.2 (by omega)
      have d1 : decide (48 ≤ c) = true := decide_eq_true (by omega)
      have d2 : decide (c ≤ 57) = true := decide_eq_true (by omega)
      have s1 : IntKind.u8.wrap (c - 48) = di := by rw [show c - 48 = di by omega]; exact wrap_u8 (by omega) (by omega)
      have s2 : IntKind.u64.wrap (qi * 10) = q2 := by rw [show qi * 10 = q2 by omega]; exact wrap_u64 (by omega) (by omega)
      have s3 : IntKind.u64.wrap di = di := wrap_u64 (by omega) (by omega)
      have s4 : IntKind.u64.wrap (q2 + di) = q3 := by rw [show q2 + di = q3 by omega]; exact wrap_u64 (by omega) (by omega)
      have d19 : decide ((k : Int) < 19) = true := decide_eq_true (by omega)
      have hz0 : c = 48 → ((k : Int) == 0) = false := fun h => beq_eq_false_iff_ne.2 (fun h2 => by have := e0 (by omega); omega)
      rw [← hqi]
      have HQ3 := Lib.hid hq3
      clear e0 e1 e2 e3 hu15 hq2 hqi hdi hcc hq3 hcb hu hsz
      cases hcz : (c == 48) with
      | true =>
        have hk0 := hz0 (beq_iff_eq.1 hcz)
        clear hz0
        rw [hc] at d0 d46 d1 d2 s1 hcz
        go_wp2
        exact ⟨⟨k + 1, q1, by rw [HQ3.out], rfl, rfl, rfl, rfl, by rw [decide_eq_true (by omega)], rfl, rfl, rfl, by omega, HQ1, trivial⟩, by simp only [intOf]; omega⟩
      | false =>
        clear hz0
        rw [hc] at d0 d46 d1 d2 s1 hcz
        go_wp2
        exact ⟨⟨k + 1, q1, by rw [HQ3.out], rfl, rfl, rfl, rfl, by rw [decide_eq_true (by omega)], rfl, rfl, rfl, by omega, HQ1, trivial⟩, by simp only [intOf]; omega⟩
    · have hkk : k = m := by omega
      subst hkk
      have hq : q = u := by rw [HQ.out, DV_all]
      clear HQ
      subst hq
      have hsd : decide (0 < k) = true := decide_eq_true (by omega)
      have hlt : ¬ k + 1 < s.size := by omega
      clear hsz
      rw [hsd]
      go_wp2
      try rw [Exit.noGoto_ret]
      (try simp only [Exit.inBlock, Exit.then]); refine bodyPost_ret (results_tmp7 rfl _ _ _) rfl ?_
      exact ⟨rfl, rfl⟩
set_option maxHeartbeats 3200000 in
set_option maxRecDepth 100000 in
theorem rf_neg_short (s : ByteArray) (u m : Nat) (hd : Dg s 1 u m) (hu : 0 < u) (hL : 3 ≥ s.size) (w : World) :
    Calls Tryz.prog 69 #[.string s] w fun e w' => e = .returned (.tuple #[.int .u64 (u : Int), .int .i64 0, .bool true, .bool false, .bool false, .int .i64 ((m + 1 : Nat) : Int), .bool true]) ∧ w = w' := by
  have hsz := hd.size
  have hm1 := hd.m1
  have hm2 := hd.m2
  have hu15 := hd.u15
  have hz : 0 < s.size := by omega
  have hb0 : bt s 0 = (((s[0]'hz).toNat : Nat) : Int) := bt_nat s 0 hz
  have h1 := (hd.sign rfl).1
  have h43 : ((((s[0]'hz).toNat : Nat) : Int) == 43) = false := beq_eq_false_iff_ne.2 (by omega)
  have h45 : ((((s[0]'hz).toNat : Nat) : Int) == 45) = true := beq_iff_eq.2 (by omega)
  clear h1
  have hz1 : 1 < s.size := by omega
  have hb1 : bt s 1 = (((s[1]'hz1).toNat : Nat) : Int) := bt_nat s 1 hz1
  have h48 : ((((s[1]'hz1).toNat : Nat) : Int) == 48) = false := beq_eq_false_iff_ne.2 (by
    have h1 : bt s 1 = 48 + ((DD u m 0 : Nat) : Int) := hd.dig 0 (by omega)
    have h2 := hd.first hu
    omega)
  have hlong : decide ((3 : Int) < (s.size : Int)) = false := decide_eq_false (by omega)
  have HD := Lib.hid hd
  have HSZ := Lib.hid hsz
  have hs17 : s.size ≤ 16 := by omega
  have hu0 : ((u : Int) == 0) = false := beq_eq_false_iff_ne.2 (by omega)
  have hmm : IntKind.i64.wrap ((m : Int) - (m : Int)) = 0 := by rw [show (m : Int) - (m : Int) = 0 by omega]; decide +kernel
  clear hb0 hb1 hd hL hsz
  have hne : ¬ s = ByteArray.empty := fun h => by rw [h] at hz; exact absurd hz (by decide)
  go_enter Tryz.func69, Tryz.ntmps69
  go_wp2
  go_step3
  go_wp2
  go_step3
  go_wp2
  clear h43 h45 h48 hlong
  go_loopw [2, 5, 7, 9, 13, 14, 15, 16, 17] (fun n t i b d g x y z wr => ∃ k q : Nat, n = .int .u64 (q : Int) ∧ t = .bool false ∧ i = .int .i64 ((k + 1 : Nat) : Int) ∧ b = .bool false ∧ d = .bool false ∧ g = .bool (decide (0 < k)) ∧ x = .int .i64 k ∧ y = .int .i64 k ∧ z = .int .i64 0 ∧ k ≤ m ∧ Hid (q = DV u m k) ∧ wr = w) (fun _ _ i _ _ _ _ _ _ _ => s.size - (intOf i).toNat)
  case atStart => exact ⟨0, 0, rfl, rfl, rfl, rfl, rfl, rfl, rfl, rfl, rfl, Nat.zero_le _, Lib.hid (DV_zero HD.out.lt).symm, rfl⟩
  case round =>
    obtain ⟨k, q, rfl, rfl, rfl, rfl, rfl, rfl, rfl, rfl, rfl, hk, HQ, rfl⟩ := hrel
    have hsz := HSZ.out
    by_cases hkm : k < m
    · have hks : k + 1 < s.size := by omega
      have hcb : bt s ((k + 1 : Nat) : Int) = (((s[k + 1]'hks).toNat : Nat) : Int) := bt_nat s (k + 1) hks
      have hg : bt s ((k + 1 : Nat) : Int) = 48 + ((DD u m k : Nat) : Int) := by
        have := HD.out.dig k (by omega)
        rwa [Nat.add_comm] at this
      rw [hg] at hcb
      have e0 : k = 0 → 0 < DD u m k := fun h => by subst h; exact HD.out.first hu
      have e1 := DV_succ u m k (by omega)
      have e2 := DV_le u m (k + 1)
      have e3 := DD_lt u m k
      rw [← HQ.out] at e1
      obtain ⟨dd, hdd⟩ : ∃ dd, dd = DD u m k := ⟨_, rfl⟩
      obtain ⟨q1, hq1⟩ : ∃ q1, q1 = DV u m (k + 1) := ⟨_, rfl⟩
      rw [← hdd] at e0 e1 e3 hcb
      rw [← hq1] at e1 e2
      have HQ1 := Lib.hid hq1
      clear hg hdd hq1
      obtain ⟨c, hc⟩ : ∃ c : Int, c = (((s[k + 1]'hks).toNat : Nat) : Int) := ⟨_, rfl⟩
      have hcc : c = 48 + (dd : Int) := by omega
      obtain ⟨q2, hq2⟩ : ∃ q2 : Int, q2 = (q : Int) * 10 := ⟨_, rfl⟩
      obtain ⟨qi, hqi⟩ : ∃ qi : Int, qi = (q : Int) := ⟨_, rfl⟩
      obtain ⟨di, hdi⟩ : ∃ di : Int, di = (dd : Int) := ⟨_, rfl⟩
      obtain ⟨q3, hq3⟩ : ∃ q3 : Int, q3 = (q1 : Int) := ⟨_, rfl⟩
      have d0 : (c == 95) = false := beq_eq_false_iff_ne.2 (by omega)
      have d46 : (c == 46) = false := beq_eq_false_iff_ne.2 (by omega)
      have d1 : decide (48 ≤ c) = true := decide_eq_true (by omega)
      have d2 : decide (c ≤ 57) = true := decide_eq_true (by omega)
      have s1 : IntKind.u8.wrap (c - 48) = di := by rw [show c - 48 = di by omega]; exact wrap_u8 (by omega) (by omega)
      have s2 : IntKind.u64.wrap (qi * 10) = q2 := by rw [show qi * 10 = q2 by omega]; exact wrap_u64 (by omega) (by omega)
      have s3 : IntKind.u64.wrap di = di := wrap_u64 (by omega) (by omega)
      have s4 : IntKind.u64.wrap (q2 + di) = q3 := by rw [show q2 + di = q3 by omega]; exact wrap_u64 (by omega) (by omega)
      have d19 : decide ((k : Int) < 19) = true := decide_eq_true (by omega)
      have hz0 : c = 48 → ((k : Int) == 0) = false := fun h => beq_eq_false_iff_ne.2 (fun h2 => by have := e0 (by omega); omega)
      rw [← hqi]
      have HQ3 := Lib.hid hq3
      clear e0 e1 e2 e3 hu15 hq2 hqi hdi hcc hq3 hcb hu hsz
      cases hcz : (c == 48) with
      | true =>
        have hk0 := hz0 (beq_iff_eq.1 hcz)
        clear hz0
        rw [hc] at d0 d46 d1 d2 s1 hcz
        go_wp2
        exact ⟨⟨k + 1, q1, by rw [HQ3.out], rfl, rfl, rfl, rfl, by rw [decide_eq_true (by omega)], rfl, rfl, rfl, by omega, HQ1, trivial⟩, by simp only [intOf]; omega⟩
      | false =>
        clear hz0
        rw [hc] at d0 d46 d1 d2 s1 hcz
        go_wp2
        exact ⟨⟨k + 1, q1, by rw [HQ3.out], rfl, rfl, rfl, rfl, by rw [decide_eq_true (by omega)], rfl, rfl, rfl, by omega, HQ1, trivial⟩, by simp only [intOf]; omega⟩
    · have hkk : k = m := by omega
      subst hkk
      have hq : q = u := by rw [HQ.out, DV_all]
      clear HQ
      subst hq
      have hsd : decide (0 < k) = true := decide_eq_true (by omega)
      have hlt : ¬ k + 1 < s.size := by omega
      clear hsz
      rw [hsd]
      go_wp2
      try rw [Exit.noGoto_ret]
      (try simp only [Exit.inBlock, Exit.then]); refine bodyPost_ret (results_tmp7 rfl _ _ _) rfl ?_
      exact ⟨rfl, rfl⟩
end Go.Proofs.YtbjoipclkapcjaaGreatDoor.P
