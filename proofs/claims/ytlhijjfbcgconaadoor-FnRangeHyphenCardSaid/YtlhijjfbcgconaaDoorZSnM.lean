/- Texts joined: Sn1. -/
import Derived.Test.YtlhijjfbcgconaaDoorZSo5
import Derived.Test.YtlhijjfbcgconaaDoorZPx23

/- A version that is written out: its text, and its form. -/
set_option linter.unusedVariables false
set_option linter.unusedSimpArgs false
namespace Go.Proofs.YtlhijjfbcgconaaDoor.P
open Go.RowKit Go.Proofs.YtlhijjfbcgconaaDoorW.PrintWords Go.Proofs.YtlhijjfbcgconaaDoorW.PrintLast Go.Proofs.YtlhijjfbcgconaaDoorW.PrintMore

def decd (n : Nat) : ByteArray := ⟨(Lib.decDigits n).toArray⟩
/-- Three numbers with points between. -/
def verT (a b c : Nat) : ByteArray := (((decd a ++ (⟨#[46]⟩ : ByteArray)) ++ decd b) ++ (⟨#[46]⟩ : ByteArray)) ++ decd c
theorem nd_le : ∀ (k u : Nat), u < 10 ^ (k + 1) → Lib.nDigits u ≤ k + 1
  | 0, u, h => by rw [Lib.nDigits_small (by simpa using h)]; omega
  | k + 1, u, h => by
    by_cases c : u < 10
    · rw [Lib.nDigits_small c]; omega
    · rw [Lib.nDigits_big c]
      have := nd_le k (u / 10) (by rw [Nat.pow_succ] at h; omega)
      omega
theorem decd_size (u : Nat) : (decd u).size = Lib.nDigits u := by
  show (Lib.decDigits u).toArray.size = _
  rw [List.size_toArray, Lib.decDigits_length]
theorem verT_list (a b c : Nat) : (verT a b c).data.toList = Lib.decDigits a ++ (46 :: (Lib.decDigits b ++ (46 :: Lib.decDigits c))) := by
  unfold verT decd
  simp [append_list]
theorem verT_size (a b c : Nat) : (verT a b c).size = Lib.nDigits a + 1 + Lib.nDigits b + 1 + Lib.nDigits c := by
  rw [← size_list, verT_list]
  simp [Lib.decDigits_length]
  omega
theorem bt_some {s : ByteArray} {j : Nat} {v : UInt8} (h : s.data.toList[j]? = some v) : bt s (j : Int) = (v.toNat : Int) := by rw [bt_opt, h]
theorem u8_dig (i : Nat) (h : i < 10) : ((UInt8.ofNat (48 + i)).toNat : Int) = 48 + i := by
  rw [UInt8.toNat_ofNat']
  omega
/-- Digits within a text are a number. -/
theorem dd (s : ByteArray) (x : Nat) : ∀ (n u : Nat), u ≤ n → (∀ (j : Nat) (v : UInt8), (Lib.decDigits u)[j]? = some v → bt s ((x + j : Nat) : Int) = (v.toNat : Int)) →
    dv s x (Lib.nDigits u) = u ∧ (∀ j, j < Lib.nDigits u → isD (bt s ((x + j : Nat) : Int))) ∧ (Lib.nDigits u = 1 ∨ bt s (x : Int) ≠ 48) := by
  intro n
  induction n with
  | zero =>
    intro u hu h
    obtain rfl : u = 0 := by omega
    rw [Lib.nDigits_small (by decide)]
    have h0 := h 0 (UInt8.ofNat (48 + 0)) (by rw [Lib.decDigits_one (by decide)]; rfl)
    rw [u8_dig 0 (by decide), Nat.add_zero] at h0
    refine ⟨?_, fun j hj => ?_, .inl rfl⟩
    · show dv s x 0 * 10 + (bt s ((x + 0 : Nat) : Int) - 48) = _
      rw [Nat.add_zero, h0]
      show (0 : Int) * 10 + _ = _
      omega
    · obtain rfl : j = 0 := by omega
      rw [Nat.add_zero, h0]
      unfold isD
      omega
  | succ n ih =>
    intro u hu h
    by_cases c : u < 10
    · rw [Lib.nDigits_small c]
      have h0 := h 0 (UInt8.ofNat (48 + u)) (by rw [Lib.decDigits_one c]; rfl)
      rw [u8_dig u c, Nat.add_zero] at h0
      refine ⟨?_, fun j hj => ?_, .inl rfl⟩
      · show dv s x 0 * 10 + (bt s ((x + 0 : Nat) : Int) - 48) = _
        rw [Nat.add_zero, h0]
        show (0 : Int) * 10 + _ = _
        omega
      · obtain rfl : j = 0 := by omega
        rw [Nat.add_zero, h0]
        unfold isD
        omega
    · have hd : Lib.decDigits u = Lib.decDigits (u / 10) ++ [UInt8.ofNat (48 + u % 10)] := by rw [Lib.decDigits, dif_neg c]
      obtain ⟨i1, i2, i3⟩ := ih (u / 10) (by omega) (fun j v hj => h j v (by
        rw [hd, List.getElem?_append_left (List.getElem?_eq_some_iff.1 hj).1]
        exact hj))
      have h0 := h (Lib.nDigits (u / 10)) (UInt8.ofNat (48 + u % 10)) (by
        rw [hd, List.getElem?_append_right (by rw [Lib.decDigits_length]; exact Nat.le_refl _), Lib.decDigits_length, Nat.sub_self]
        rfl)
      rw [u8_dig (u % 10) (by omega)] at h0
      rw [Lib.nDigits_big c]
      refine ⟨?_, fun j hj => ?_, .inr ?_⟩
      · show dv s x (Lib.nDigits (u / 10)) * 10 + (bt s ((x + Lib.nDigits (u / 10) : Nat) : Int) - 48) = _
        rw [i1, h0]
        omega
      · by_cases q : j < Lib.nDigits (u / 10)
        · exact i2 j q
        · obtain rfl : j = Lib.nDigits (u / 10) := by omega
          rw [h0]
          unfold isD
          omega
      · rcases i3 with q | q
        · rw [q] at i1
          have e : dv s x 1 = (0 : Int) * 10 + (bt s ((x + 0 : Nat) : Int) - 48) := rfl
          rw [e, Nat.add_zero] at i1
          omega
        · exact q
theorem verT_form (a b c : Nat) (ha : a < 10 ^ 15) (hb : b < 10 ^ 15) (hc : c < 10 ^ 15) : ∃ p q r, Form (verT a b c) p q r r (a : Int) (b : Int) (c : Int) ⟨#[]⟩ ⟨#[]⟩ := by
  have la := nd_le 14 a ha
  have lb := nd_le 14 b hb
  have lc := nd_le 14 c hc
  have pa := Lib.nDigits_pos a
  have pb := Lib.nDigits_pos b
  have pc := Lib.nDigits_pos c
  have hz := verT_size a b c
  have hl := verT_list a b c
  have ea := Lib.decDigits_length a
  have eb := Lib.decDigits_length b
  have ec := Lib.decDigits_length c
  generalize verT a b c = s at *
  obtain ⟨A, hA⟩ : ∃ A, A = Lib.nDigits a := ⟨_, rfl⟩
  obtain ⟨B, hB⟩ : ∃ A, A = Lib.nDigits b := ⟨_, rfl⟩
  obtain ⟨C, hC⟩ : ∃ A, A = Lib.nDigits c := ⟨_, rfl⟩
  have da := dd s 0 a a (Nat.le_refl _) (fun j v hj => by
    rw [Nat.zero_add]
    refine bt_some ?_
    rw [hl, List.getElem?_append_left (List.getElem?_eq_some_iff.1 hj).1]
    exact hj)
  have ba : bt s (A : Int) = 46 := bt_some (v := 46) (by
    rw [hl, List.getElem?_append_right (by omega), ea, ← hA, Nat.sub_self]
    rfl)
  have db := dd s (A + 1) b b (Nat.le_refl _) (fun j v hj => by
    refine bt_some ?_
    rw [hl, List.getElem?_append_right (by omega), ea, ← hA, show A + 1 + j - A = j + 1 by omega, List.getElem?_cons_succ, List.getElem?_append_left (List.getElem?_eq_some_iff.1 hj).1]
    exact hj)
  have bb : bt s ((A + 1 + B : Nat) : Int) = 46 := bt_some (v := 46) (by
    rw [hl, List.getElem?_append_right (by omega), ea, ← hA, show A + 1 + B - A = B + 1 by omega, List.getElem?_cons_succ, List.getElem?_append_right (by omega), eb, ← hB, Nat.sub_self]
    rfl)
  have dc := dd s (A + 1 + B + 1) c c (Nat.le_refl _) (fun j v hj => by
    refine bt_some ?_
    rw [hl, List.getElem?_append_right (by omega), ea, ← hA, show A + 1 + B + 1 + j - A = B + 1 + j + 1 by omega, List.getElem?_cons_succ, List.getElem?_append_right (by omega), eb, ← hB, show B + 1 + j - B = j + 1 by omega, List.getElem?_cons_succ]
    exact hj)
  rw [← hA] at da hz la pa
  rw [← hB] at db hz lb pb
  rw [← hC] at dc hz lc pc
  have nd : ∀ (z : Int), z = 46 → ¬ isD z := fun z hz => by unfold isD; omega
  refine ⟨A, A + 1 + B, s.size, ⟨by omega, ⟨by omega, by omega, by omega, fun j h0 h1 => ?_, .inr (nd _ ba), ?_⟩, ba, by omega, ⟨by omega, by omega, by omega, fun j h0 h1 => ?_, .inr (nd _ bb), ?_⟩, bb, by omega, ⟨by omega, by omega, Nat.le_refl _, fun j h0 h1 => ?_, .inl rfl, ?_⟩, Nat.le_refl _, Nat.le_refl _, .inl ⟨rfl, rfl⟩, .inl ⟨rfl, rfl⟩, ?_, ?_, ?_, fun j hj => ?_⟩⟩
  · have := da.2.1 j h1
    rwa [Nat.zero_add] at this
  · rcases da.2.2 with q | q
    · exact .inl (by omega)
    · exact .inr q
  · have := db.2.1 (j - (A + 1)) (by omega)
    rwa [show A + 1 + (j - (A + 1)) = j by omega] at this
  · rcases db.2.2 with q | q
    · exact .inl (by omega)
    · exact .inr q
  · have := dc.2.1 (j - (A + 1 + B + 1)) (by omega)
    rwa [show A + 1 + B + 1 + (j - (A + 1 + B + 1)) = j by omega] at this
  · rcases dc.2.2 with q | q
    · exact .inl (by omega)
    · exact .inr q
  · exact da.1.symm
  · rw [show A + 1 + B - (A + 1) = B by omega]
    exact db.1.symm
  · rw [show s.size - (A + 1 + B + 1) = C by omega]
    exact dc.1.symm
  · have hd : bt s (j : Int) = 46 ∨ isD (bt s (j : Int)) := by
      by_cases q1 : j < A
      · have := da.2.1 j q1
        rw [Nat.zero_add] at this
        exact .inr this
      · by_cases q2 : j = A
        · rw [q2]; exact .inl ba
        · by_cases q3 : j < A + 1 + B
          · have := db.2.1 (j - (A + 1)) (by omega)
            rw [show A + 1 + (j - (A + 1)) = j by omega] at this
            exact .inr this
          · by_cases q4 : j = A + 1 + B
            · rw [q4]; exact .inl bb
            · have := dc.2.1 (j - (A + 1 + B + 1)) (by omega)
              rw [show A + 1 + B + 1 + (j - (A + 1 + B + 1)) = j by omega] at this
              exact .inr this
    unfold isD at hd
    omega
theorem decd_le (a : Nat) (ha : a < 10 ^ 15) : (decd a).size ≤ 15 := by rw [decd_size]; exact nd_le 14 a ha
theorem dec16_f : ∀ (k u : Nat), u < 10 ^ 15 → u < 10 ^ (k + 1) → spec_decimal16.f (k + 1) (u : Int) = some (decd u)
  | k, u, h15, h => by
    by_cases c : u < 10
    · rw [spec_decimal16.f, if_pos (by omega), show (48 + ((u : Int)) % 256) % 256 = ((48 + u : Nat) : Int) by omega]
      unfold decd
      rw [Lib.decDigits_one c]
      rfl
    · obtain ⟨k, rfl⟩ : ∃ j, k = j + 1 := by
        cases k with
        | zero => exact absurd (by simpa using h) c
        | succ k => exact ⟨k, rfl⟩
      have ih := dec16_f k (u / 10) (by omega) (by rw [Nat.pow_succ] at h; omega)
      have hw : IntKind.u64.wrap (Int.tdiv (u : Int) 10) = ((u / 10 : Nat) : Int) := by
        rw [show Int.tdiv (u : Int) 10 = ((u / 10 : Nat) : Int) from rfl]
        exact IntWalk.u64_in _ ⟨by omega, by omega⟩
      have hs := decd_le (u / 10) (by omega)
      rw [spec_decimal16.f, if_neg (by omega), hw, ih, Option.bind_some, Option.bind_some, show Int.tmod (u : Int) 10 = ((u % 10 : Nat) : Int) from rfl, show (48 + (((u % 10 : Nat) : Int)) % 256) % 256 = ((48 + u % 10 : Nat) : Int) by omega]
      have e2 : strOfNums ([((48 + u % 10 : Nat) : Int)] : List Int) = (⟨#[UInt8.ofNat (48 + u % 10)]⟩ : ByteArray) := rfl
      have e3 : (⟨#[UInt8.ofNat (48 + u % 10)]⟩ : ByteArray).size = 1 := rfl
      rw [e2, if_pos (by omega)]
      congr 1
      apply ba_ext
      rw [append_list]
      unfold decd
      rw [show Lib.decDigits u = Lib.decDigits (u / 10) ++ [UInt8.ofNat (48 + u % 10)] by rw [Lib.decDigits, dif_neg c]]
theorem emp_list : (⟨#[]⟩ : ByteArray).toList = ([] : List UInt8) := by first | rfl | decide | simp
theorem textOf_f (a b c : Nat) (ha : a < 10 ^ 15) (hb : b < 10 ^ 15) (hc : c < 10 ^ 15) : spec_TextOf.f 15 (a : Int) (b : Int) (c : Int) ⟨#[]⟩ ⟨#[]⟩ = some (verT a b c) := by
  have h1 := decd_le a ha
  have h2 := decd_le b hb
  have h3 := decd_le c hc
  have e1 : (⟨#[46]⟩ : ByteArray).size = 1 := rfl
  unfold spec_TextOf.f
  rw [dec16_f 14 a ha ha, Option.bind_some, if_pos (by omega), dec16_f 14 b hb hb, Option.bind_some, if_pos (by rw [ByteArray.size_append]; omega), if_pos (by simp only [ByteArray.size_append]; omega), dec16_f 14 c hc hc, Option.bind_some, if_pos (by simp only [ByteArray.size_append]; omega), if_pos emp_list, spec_TextOf.j0, if_pos emp_list]
  rfl
end Go.Proofs.YtlhijjfbcgconaaDoor.P

