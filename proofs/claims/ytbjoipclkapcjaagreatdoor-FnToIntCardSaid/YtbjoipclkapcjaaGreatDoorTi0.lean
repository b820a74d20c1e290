/- The word of a whole number: as a float and back. -/
import Derived.Laws.FloatArith
import Derived.Laws.BitsLemmas
import Derived.KernelRfl
set_option linter.unusedVariables false
set_option linter.unusedSimpArgs false
namespace Go.Proofs.YtbjoipclkapcjaaGreatDoor.P
theorem fsw2 : FloatKind.f64.format.signWeight = 9223372036854775808 := by decide +kernel
theorem fbin2 : FloatKind.f64.format.binade = 4503599627370496 := by decide +kernel
theorem finf2 : FloatKind.f64.format.infRung = 9218868437227405312 := by decide +kernel
theorem flp2 : FloatKind.f64.format.leastPlace = -1074 := by decide +kernel
theorem ffb2 : FloatKind.f64.format.fractionBits = 52 := rfl
theorem cut0 (neg : Bool) (n : Nat) : Ieee.Toward.even.cut neg n 0 = n := by
  unfold Ieee.Toward.cut
  simp [Nat.mod_one]
/-- The word of a whole number of at most 53 bits, and what is read of it. -/
theorem near_word (s : Bool) (m : Nat) (h0 : 0 < m) (hm : m < 9007199254740992) : ∃ e k : Nat, e ≤ 52 ∧ k = m * 2 ^ (52 - e) ∧ 4503599627370496 ≤ k ∧ k < 9007199254740992 ∧ FloatKind.f64.format.nearest s m 0 = FloatKind.f64.format.word s ((e + 1022) * 4503599627370496 + k) := by
  refine ⟨m.log2, m * 2 ^ (52 - m.log2), ?_, rfl, ?_, ?_, ?_⟩
  · have : m.log2 < 53 := (Nat.log2_lt (by omega)).2 (by simpa using hm)
    omega
  · have he : m.log2 ≤ 52 := by
      have : m.log2 < 53 := (Nat.log2_lt (by omega)).2 (by simpa using hm)
      omega
    have h1 : 2 ^ m.log2 ≤ m := Nat.log2_self_le (by omega)
    calc 4503599627370496 = 2 ^ m.log2 * 2 ^ (52 - m.log2) := by rw [← Nat.pow_add, show m.log2 + (52 - m.log2) = 52 by omega]
      _ ≤ m * 2 ^ (52 - m.log2) := Nat.mul_le_mul_right _ h1
  · have he : m.log2 ≤ 52 := by
      have : m.log2 < 53 := (Nat.log2_lt (by omega)).2 (by simpa using hm)
      omega
    have h1 : m < 2 ^ (m.log2 + 1) := Nat.lt_log2_self
    calc m * 2 ^ (52 - m.log2) < 2 ^ (m.log2 + 1) * 2 ^ (52 - m.log2) := Nat.mul_lt_mul_of_pos_right h1 (Nat.two_pow_pos _)
      _ = 9007199254740992 := by rw [← Nat.pow_add, show m.log2 + 1 + (52 - m.log2) = 53 by omega]
  · have he : m.log2 ≤ 52 := by
      have : m.log2 < 53 := (Nat.log2_lt (by omega)).2 (by simpa using hm)
      omega
    have hk : m * 2 ^ (52 - m.log2) < 9007199254740992 := by
      have h1 : m < 2 ^ (m.log2 + 1) := Nat.lt_log2_self
      calc m * 2 ^ (52 - m.log2) < 2 ^ (m.log2 + 1) * 2 ^ (52 - m.log2) := Nat.mul_lt_mul_of_pos_right h1 (Nat.two_pow_pos _)
        _ = 9007199254740992 := by rw [← Nat.pow_add, show m.log2 + 1 + (52 - m.log2) = 53 by omega]
    unfold Ieee.Format.nearest
    rw [if_neg (by omega)]
    simp only [ffb2, flp2, fbin2, finf2]
    have hl : max ((0 : Int) + (m.log2 : Int) - ((52 : Nat) : Int)) (-1074) = (m.log2 : Int) - 52 := by omega
    rw [hl, show ((0 : Int) - ((m.log2 : Int) - 52)).toNat = 52 - m.log2 by omega, show (((m.log2 : Int) - 52) - 0).toNat = 0 by omega, show (((m.log2 : Int) - 52) - (-1074)).toNat = m.log2 + 1022 by omega, cut0, Nat.shiftLeft_eq]
    rw [Nat.min_eq_left (by omega)]
set_option maxRecDepth 100000 in
theorem read_near (s : Bool) (e k : Nat) (he : e ≤ 52) (h1 : 4503599627370496 ≤ k) (h2 : k < 9007199254740992) : FloatKind.f64.format.read (FloatKind.f64.format.word s ((e + 1022) * 4503599627370496 + k)) = .number s k ((e : Int) - 52) := by
  unfold Ieee.Format.read Ieee.Format.word
  simp only [fsw2, fbin2, finf2, flp2]
  generalize hr : (e + 1022) * 4503599627370496 + k = r
  have hr1 : r < 9218868437227405312 := by omega
  have hd : r / 4503599627370496 = e + 1023 := by omega
  have hmod : r % 4503599627370496 = k - 4503599627370496 := by omega
  cases s with
  | true =>
    simp only [if_true]
    have a1 : (9223372036854775808 + r) / 9223372036854775808 % 2 == 1 := by
      rw [show (9223372036854775808 + r) / 9223372036854775808 = 1 by omega]
      rfl
    have a2 : (9223372036854775808 + r) % 9223372036854775808 = r := by omega
    rw [a2, if_neg (by omega), if_pos hr1, hd, hmod, a1]
    rw [show 4503599627370496 + (k - 4503599627370496) = k by omega, show (-1074 + ((e + 1023 - 1 : Nat) : Int)) = (e : Int) - 52 by omega]
  | false =>
    simp only [Bool.false_eq_true, if_false]
    have a1 : (r / 9223372036854775808 % 2 == 1) = false := by
      rw [show r / 9223372036854775808 = 0 by omega]
      rfl
    have a2 : r % 9223372036854775808 = r := by omega
    rw [a2, if_neg (by omega), if_pos hr1, hd, hmod, a1]
    rw [show 4503599627370496 + (k - 4503599627370496) = k by omega, show (-1074 + ((e + 1023 - 1 : Nat) : Int)) = (e : Int) - 52 by omega]

theorem cutz (neg : Bool) (m d : Nat) (h0 : 0 < m) : Ieee.Toward.zero.cut neg (m * 2 ^ d) d = m := by
  have h1 : d ≤ (m * 2 ^ d).log2 := (Nat.le_log2 (by have := Nat.two_pow_pos d; have := Nat.mul_pos h0 this; omega)).2 (by have := Nat.mul_le_mul_right (2 ^ d) h0; omega)
  have h2 : 1 <<< min d ((m * 2 ^ d).log2 + 2) = 2 ^ d := by
    rw [Nat.min_eq_left (by omega), Nat.one_shiftLeft]
  have h3 : m * 2 ^ d / 2 ^ d = m := Nat.mul_div_cancel _ (Nat.two_pow_pos _)
  unfold Ieee.Toward.cut
  simp [h2, h3]
theorem int_word (n : Int) (h0 : n ≠ 0) (h1 : -9007199254740992 < n) (h2 : n < 9007199254740992) : (FloatKind.f64.decode (floatOfInt .f64 n)).toInt .zero = some n := by
  obtain ⟨e, k, he, hk, k1, k2, hw⟩ := near_word (decide (n < 0)) n.natAbs (by omega) (by omega)
  unfold floatOfInt FloatKind.nearest FloatKind.encode FloatKind.decode Ieee.Format.write
  simp only
  rw [hw, read_near _ e k he k1 k2]
  unfold Ieee.Datum.toInt Ieee.Datum.integral
  simp only
  rw [show ((e : Int) - 52).toNat = 0 by omega, show (-((e : Int) - 52)).toNat = 52 - e by omega, Nat.shiftLeft_zero, hk, cutz _ _ _ (by omega)]
  unfold Ieee.signed
  simp only [Nat.shiftLeft_zero]
  congr 1
  by_cases h : n < 0
  · simp only [h, decide_true, if_true]; omega
  · simp only [h, decide_false, Bool.false_eq_true, if_false]; omega
theorem to_int (n : Int) (h1 : -1000000000000000 < n) (h2 : n < 1000000000000000) : floatToIntVal .f64 (floatOfInt .f64 n) .i64 = some n := by
  have h : (FloatKind.f64.decode (floatOfInt .f64 n)).toInt .zero = some n := by
    by_cases h0 : n = 0
    · subst h0
      decide +kernel
    · exact int_word n h0 (by omega) (by omega)
  unfold floatToIntVal
  rw [h]
  simp only
  have hmn : IntKind.i64.min = -9223372036854775808 := by decide +kernel
  have hmx : IntKind.i64.max = 9223372036854775807 := by decide +kernel
  rw [hmn, hmx, if_pos (by omega)]
theorem xor_sign (r : Nat) (h : r < 2 ^ 63) : r ^^^ 2 ^ 63 = 2 ^ 63 + r := by
  apply Nat.eq_of_testBit_eq
  intro i
  rw [Nat.testBit_xor, Nat.testBit_two_pow]
  rcases Nat.lt_trichotomy i 63 with hi | hi | hi
  · rw [Nat.testBit_two_pow_add_gt hi]
    simp [show ¬ 63 = i by omega]
  · subst hi
    rw [Nat.testBit_two_pow_add_eq]
    simp
  · rw [Nat.testBit_lt_two_pow (show r < 2 ^ i from Nat.lt_trans h (Nat.pow_lt_pow_right (by decide) hi)),
      Nat.testBit_lt_two_pow (show 2 ^ 63 + r < 2 ^ i from Nat.lt_of_lt_of_le (show 2 ^ 63 + r < 2 ^ 64 by omega) (Nat.pow_le_pow_right (by decide) hi))]
    simp [show ¬ 63 = i by omega]
/-- The sign turned: of a whole number above 0. -/
theorem neg_word (m : Nat) (h0 : 0 < m) (h1 : m < 1000000000000000) : Op.negFloat .f64 (floatOfInt .f64 (m : Int)) = floatOfInt .f64 (-(m : Int)) := by
  obtain ⟨e, k, he, hk, k1, k2, hw⟩ := near_word false m (by omega) (by omega)
  obtain ⟨e', k', he', hk', k1', k2', hw'⟩ := near_word true m (by omega) (by omega)
  have hee : e' = e ∧ k' = k := by
    have a1 := read_near true e' k' he' k1' k2'
    constructor
    · by_cases hq : e' = e
      · exact hq
      · exfalso
        rcases Nat.lt_or_gt_of_ne hq with h | h
        · have : 2 ^ (52 - e') = 2 ^ (52 - e) * 2 ^ (e - e') := by rw [← Nat.pow_add]; congr 1; omega
          rw [this, ← Nat.mul_assoc, ← hk] at hk'
          have h2 : 2 ≤ 2 ^ (e - e') := by
            calc 2 = 2 ^ 1 := rfl
              _ ≤ 2 ^ (e - e') := Nat.pow_le_pow_right (by decide) (by omega)
          have := Nat.mul_le_mul k1 h2
          omega
        · have : 2 ^ (52 - e) = 2 ^ (52 - e') * 2 ^ (e' - e) := by rw [← Nat.pow_add]; congr 1; omega
          rw [this, ← Nat.mul_assoc, ← hk'] at hk
          have h2 : 2 ≤ 2 ^ (e' - e) := by
            calc 2 = 2 ^ 1 := rfl
              _ ≤ 2 ^ (e' - e) := Nat.pow_le_pow_right (by decide) (by omega)
          have := Nat.mul_le_mul k1' h2
          omega
    · by_cases hq : e' = e
      · subst hq; omega
      · exfalso
        rcases Nat.lt_or_gt_of_ne hq with h | h
        · have : 2 ^ (52 - e') = 2 ^ (52 - e) * 2 ^ (e - e') := by rw [← Nat.pow_add]; congr 1; omega
          rw [this, ← Nat.mul_assoc, ← hk] at hk'
          have h2 : 2 ≤ 2 ^ (e - e') := by
            calc 2 = 2 ^ 1 := rfl
              _ ≤ 2 ^ (e - e') := Nat.pow_le_pow_right (by decide) (by omega)
          have := Nat.mul_le_mul k1 h2
          omega
        · have : 2 ^ (52 - e) = 2 ^ (52 - e') * 2 ^ (e' - e) := by rw [← Nat.pow_add]; congr 1; omega
          rw [this, ← Nat.mul_assoc, ← hk'] at hk
          have h2 : 2 ≤ 2 ^ (e' - e) := by
            calc 2 = 2 ^ 1 := rfl
              _ ≤ 2 ^ (e' - e) := Nat.pow_le_pow_right (by decide) (by omega)
          have := Nat.mul_le_mul k1' h2
          omega
  obtain ⟨rfl, rfl⟩ := hee
  unfold floatOfInt FloatKind.nearest FloatKind.encode Ieee.Format.write
  simp only
  rw [decide_eq_false (show ¬ ((m : Int) < 0) by omega), decide_eq_true (show -(m : Int) < 0 by omega), show (m : Int).natAbs = m by omega, show (-(m : Int)).natAbs = m by omega, hw, hw']
  unfold Ieee.Format.word
  simp only [fsw2, if_true, Bool.false_eq_true, if_false]
  unfold Op.negFloat
  exact xor_sign _ (by omega)
/-- No whole number is NaN. -/
theorem fin_word (n : Int) (h1 : -1000000000000000 < n) (h2 : n < 1000000000000000) : ∃ s m p, FloatKind.f64.decode (floatOfInt .f64 n) = .number s m p := by
  by_cases h0 : n = 0
  · subst h0
    exact ⟨false, 0, -1074, by decide +kernel⟩
  · obtain ⟨e, k, he, hk, k1, k2, hw⟩ := near_word (decide (n < 0)) n.natAbs (by omega) (by omega)
    refine ⟨decide (n < 0), k, (e : Int) - 52, ?_⟩
    unfold floatOfInt FloatKind.nearest FloatKind.encode FloatKind.decode Ieee.Format.write
    simp only
    rw [hw, read_near _ e k he k1 k2]
end Go.Proofs.YtbjoipclkapcjaaGreatDoor.P
