/- Doors of Untitle, Initials, NoSpace; spec.ASCII, plain9, IsSpace, between. -/
import Derived.Test.YtjpibaehpmkdmaaDoorW1
set_option linter.unusedVariables false
set_option linter.unusedSimpArgs false
namespace Go.Proofs.YtjpibaehpmkdmaaDoor.P
open Go.RowKit Go.Proofs.YtjpibaehpmkdmaaDoorW.PrintWords Go.Proofs.YtjpibaehpmkdmaaDoorW.PrintLast Go.Proofs.YtjpibaehpmkdmaaDoorW.PrintMore

set_option maxHeartbeats 1600000 in
set_option maxRecDepth 100000 in
theorem ascii_call (s : ByteArray) (hs5 : s.size ≤ 500) : ∃ b : Bool, (b = true → ascii s) ∧ ∀ w : World, Calls Tryd.prog 31 #[.string s] w fun e w' => e = .returned (.bool b) ∧ w' = w := by
  classical
  by_cases ha : ascii s
  · refine ⟨true, fun _ => ha, fun w => ?_⟩
    have HA := Lib.hid ha
    clear ha
    go_enter Tryd.func31, Tryd.ntmps31
    go_wp2
    go_loop [3] (fun i => ∃ k : Nat, i = .int .i64 k ∧ k ≤ s.size) (fun i => s.size - (intOf i).toNat)
    case atStart => exact ⟨0, rfl, Nat.zero_le _⟩
    case round =>
      obtain ⟨k, rfl, hk⟩ := hrel
      by_cases ck : k < s.size
      · have h1 := HA.out k ck
        rw [bt_nat s k ck] at h1
        have hx : ¬ (128 ≤ (((s[k]'ck).toNat : Nat) : Int)) := by omega
        go_wp2
        go_round
        case rel => exact ⟨k + 1, by go_num, by omega⟩
        case measure => simp [intOf]; omega
      · go_wp2
        go_ret
        exact ⟨rfl, rfl⟩
  · refine ⟨false, fun h => absurd h (by simp), fun w => ?_⟩
    have HA := Lib.hid ha
    clear ha
    go_enter Tryd.func31, Tryd.ntmps31
    go_wp2
    go_loop [3] (fun i => ∃ k : Nat, i = .int .i64 k ∧ k ≤ s.size ∧ ∀ j, j < k → bt s (j : Nat) < 128) (fun i => s.size - (intOf i).toNat)
    case atStart => exact ⟨0, rfl, Nat.zero_le _, fun j hj => absurd hj (by omega)⟩
    case round =>
      obtain ⟨k, rfl, hk, hj⟩ := hrel
      by_cases ck : k < s.size
      · have HJ := Lib.hid hj
        clear hj
        by_cases hx : 128 ≤ (((s[k]'ck).toNat : Nat) : Int)
        · go_wp2
          go_ret
          exact ⟨rfl, rfl⟩
        · have h2 := Lib.hid (show bt s (k : Nat) < 128 by rw [bt_nat s k ck]; omega)
          go_wp2
          go_round
          case rel => exact ⟨k + 1, by go_num, by omega, fun j hjk => by
            rcases Nat.lt_or_ge j k with h | h
            · exact HJ.out j h
            · obtain rfl : j = k := by omega
              exact h2.out⟩
          case measure => simp [intOf]; omega
      · exact absurd (fun i hi => hj i (by omega)) HA.out
set_option maxHeartbeats 1600000 in
set_option maxRecDepth 100000 in
theorem plain9_call (s : ByteArray) : ∃ b : Bool, (b = true → s.size ≤ 500 ∧ ascii s) ∧ ∀ (a : Addr) (c : Nat) (w : World), w.cell? a = some (.string s) →
    Calls Tryd.prog 7 #[.slice (some a) 1 c] w fun e w' => e = .returned (.bool b) ∧ Below w.heap.size w w' := by
  by_cases h5 : s.size ≤ 500
  · obtain ⟨bu, hbu, hu⟩ := ascii_call s h5
    refine ⟨bu, fun h => ⟨h5, hbu h⟩, fun a c w hc => ?_⟩
    have b0 : decide (500 < (s.size : Int)) = false := decide_eq_false (by omega)
    have b1 : decide (500 < s.size) = false := decide_eq_false (by omega)
    have HU := Lib.hid hu
    have HB := Lib.hid (Below.refl w.heap.size w)
    clear h5 hu hbu
    go_enter Tryd.func7, Tryd.ntmps7
    go_wp2
    go_loop [3, 6] (fun y i => ∃ (k : Nat) (y' : Value), y' = y ∧ i = .int .i64 k ∧ k ≤ 1 ∧ (k = 1 → bu = true)) (fun _ i => 1 - (intOf i).toNat)
    case atStart => exact ⟨0, _, rfl, rfl, Nat.zero_le _, (fun h => by cases h)⟩
    case round =>
      obtain ⟨k, y0, rfl, rfl, hk, hb⟩ := hrel
      have hcs : k = 0 ∨ k = 1 := by omega
      rcases hcs with rfl | rfl
      · clear hb hk
        go_wp2_with fail
        refine (HU.out _).mono ?_
        rintro e w1 ⟨rfl, rfl⟩
        clear HU
        cases bu with
        | false =>
          go_wp2
          go_ret
          exact ⟨rfl, HB.out⟩
        | true =>
          go_wp2
          go_round
          case rel => exact ⟨1, _, rfl, rfl, Nat.le_refl _, (by simp)⟩
          case measure => simp [intOf]
      · have hbu := hb rfl
        subst hbu
        clear hb
        go_wp2
        go_ret
        exact ⟨rfl, HB.out⟩
  · refine ⟨false, fun h => absurd h (by simp), fun a c w hc => ?_⟩
    have b0 : decide (500 < (s.size : Int)) = true := decide_eq_true (by omega)
    have b1 : decide (500 < s.size) = true := decide_eq_true (by omega)
    have HB := Lib.hid (Below.refl w.heap.size w)
    clear h5
    go_enter Tryd.func7, Tryd.ntmps7
    go_wp2
    go_loop [3, 6] (fun y i => ∃ (y' : Value), y' = y ∧ i = .int .i64 0) (fun _ i => 1 - (intOf i).toNat)
    case atStart => exact ⟨_, rfl, rfl⟩
    case round =>
      obtain ⟨y0, rfl, rfl⟩ := hrel
      go_wp2
      go_ret
      exact ⟨rfl, HB.out⟩
set_option maxHeartbeats 1600000 in
set_option maxRecDepth 100000 in
theorem isSpace_call (n : Int) (w : World) (h0 : 0 ≤ n) (h : n < 128) : Calls Tryd.prog 72 #[.int .i32 n] w fun e w' => e = .returned (.bool (Lib.isSpaceL n)) ∧ w' = w := by
  have h5 : n < 9 ∨ (9 ≤ n ∧ n ≤ 13) ∨ (13 < n ∧ n < 32) ∨ n = 32 ∨ 32 < n := by omega
  have HX := Lib.hid (show Lib.isSpaceL n = decide ((9 ≤ n ∧ n ≤ 13) ∨ n = 32) by unfold Lib.isSpaceL; congr 1; apply propext; omega)
  rw [HX.out]
  clear HX
  rcases h5 with h5 | h5 | h5 | h5 | h5
  all_goals
    first
    | (have HB := Lib.hid (show decide ((9 ≤ n ∧ n ≤ 13) ∨ n = 32) = false from decide_eq_false (by omega)))
    | (have HB := Lib.hid (show decide ((9 ≤ n ∧ n ≤ 13) ∨ n = 32) = true from decide_eq_true (by omega)))
    rw [HB.out]
    clear HB
    have e133 : (n == 133) = false := beq_eq_false_iff_ne.2 (by omega)
    have e160 : (n == 160) = false := beq_eq_false_iff_ne.2 (by omega)
    have e5760 : (n == 5760) = false := beq_eq_false_iff_ne.2 (by omega)
    have e8232 : (n == 8232) = false := beq_eq_false_iff_ne.2 (by omega)
    have e8233 : (n == 8233) = false := beq_eq_false_iff_ne.2 (by omega)
    have e8239 : (n == 8239) = false := beq_eq_false_iff_ne.2 (by omega)
    have e8287 : (n == 8287) = false := beq_eq_false_iff_ne.2 (by omega)
    have e12288 : (n == 12288) = false := beq_eq_false_iff_ne.2 (by omega)
    first
    | (have e32 : (n == 32) = false := beq_eq_false_iff_ne.2 (by omega))
    | (have e32 : (n == 32) = true := beq_iff_eq.2 (by omega))
    first
    | (have d13 : decide (n ≤ 13) = true := decide_eq_true (by omega))
    | (have d13 : decide (n ≤ 13) = false := decide_eq_false (by omega))
    first
    | (have d9 : decide (9 ≤ n) = true := decide_eq_true (by omega))
    | (have d9 : decide (9 ≤ n) = false := decide_eq_false (by omega))
    go_enter Tryd.func72, Tryd.ntmps72
    go_wp2
    go_ret
    exact ⟨rfl, rfl⟩
set_option maxHeartbeats 1600000 in
set_option maxRecDepth 100000 in
theorem between_call (n : Int) (w : World) (h0 : 0 ≤ n) (h : n < 128) : Calls Tryd.prog 54 #[.int .u8 n, .string ⟨#[]⟩] w fun e w' => e = .returned (.bool (Lib.isSpaceL n)) ∧ w' = w := by
  have HI := Lib.hid (isSpace_call n w h0 h)
  have hw : wrap32 n = n := wrap32_ascii h0 h
  generalize Lib.isSpaceL n = b at *
  go_enter Tryd.func54, Tryd.ntmps54
  go_wp2_with fail
  try rw [hw]
  refine HI.out.mono ?_
  rintro e w1 ⟨rfl, rfl⟩
  clear HI
  go_wp2
  go_ret
  exact ⟨rfl, rfl⟩
end Go.Proofs.YtjpibaehpmkdmaaDoor.P
