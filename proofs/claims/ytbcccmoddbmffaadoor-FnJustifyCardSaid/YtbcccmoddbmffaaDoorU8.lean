/- A text of UTF-8 by its characters: where they begin, and what they are, written anew. Nothing is assumed but what is said in each law. -/
import Derived.Test.YtbcccmoddbmffaaDoorT9
import Derived.Test.YtbcccmoddbmffaaDoorPx9
import Derived.Lib.MapLaws
namespace Go.Proofs.YtbcccmoddbmffaaDoor.Pure
open Go.RowKit Go.Proofs.YtbcccmoddbmffaaDoor.P Go.Proofs.YtbcccmoddbmffaaDoorW.PrintWords Go.Proofs.YtbcccmoddbmffaaDoorW.PrintLast

def enc (n : Int) : List UInt8 := (Utf8.encode n).data.toList
theorem u8_of {z : Int} {n : Nat} (h : z.toNat = n) : z.toNat.toUInt8 = UInt8.ofNat n := by rw [h]
set_option maxRecDepth 100000 in
theorem enc_ok (r : Nat) (hv : Utf8.valid (r : Int) = true) : enc (r : Int) = Lib.encodeRune (r : Int) := by
  have hv' : (r : Int) < 55296 ∨ (57344 ≤ (r : Int) ∧ (r : Int) ≤ 1114111) := by
    unfold Utf8.valid at hv
    simp at hv
    omega
  unfold enc Utf8.encode Lib.encodeRune Lib.encodeRuneZ
  simp only [hv, if_true, Int.toNat_natCast]
  by_cases h1 : r < 128
  · rw [if_pos h1, if_pos (by omega)]
    simp only [List.map_cons, List.map_nil]
    rw [u8_of (n := r) (by omega)]
  · by_cases h2 : r < 2048
    · rw [if_neg h1, if_pos h2, if_neg (by omega), if_pos (by omega)]
      simp only [List.map_cons, List.map_nil]
      rw [u8_of (n := 192 + r / 64) (by omega), u8_of (n := 128 + r % 64) (by omega)]
    · by_cases h3 : r < 65536
      · rw [if_neg h1, if_neg h2, if_pos h3, if_neg (by omega), if_neg (by omega), if_pos (by omega)]
        simp only [List.map_cons, List.map_nil]
        rw [u8_of (n := 224 + r / 4096) (by omega), u8_of (n := 128 + r / 64 % 64) (by omega), u8_of (n := 128 + r % 64) (by omega)]
      · rw [if_neg h1, if_neg h2, if_neg h3, if_neg (by omega), if_neg (by omega), if_neg (by omega), if_pos (by omega)]
        simp only [List.map_cons, List.map_nil]
        rw [u8_of (n := 240 + r / 262144) (by omega), u8_of (n := 128 + r / 4096 % 64) (by omega), u8_of (n := 128 + r / 64 % 64) (by omega), u8_of (n := 128 + r % 64) (by omega)]
set_option maxRecDepth 100000 in
theorem enc_list (r : Nat) : enc (r : Int) = Lib.encodeRune (r : Int) := by
  by_cases hv : Utf8.valid (r : Int) = true
  · exact enc_ok r hv
  · have h0 : enc (r : Int) = [239, 191, 189] := by
      unfold enc Utf8.encode
      simp only [hv, Bool.false_eq_true, if_false]
      decide
    have hv' : ¬ ((r : Int) < 55296 ∨ (57344 ≤ (r : Int) ∧ (r : Int) ≤ 1114111)) := by
      unfold Utf8.valid at hv
      simp at hv
      omega
    rw [h0]
    unfold Lib.encodeRune Lib.encodeRuneZ
    rw [if_neg (by omega), if_neg (by omega), if_neg (by omega), if_neg (by omega)]
    decide
/-- A character that stands whole, written anew. -/
theorem enc_at (s : ByteArray) (p : Nat) (hp : p < s.size) (hv : ¬ ((Utf8.decode s p).1 = 65533 ∧ (Utf8.decode s p).2 = 1)) : enc ((Utf8.decode s p).1 : Int) = (s.data.toList.drop p).take (Utf8.decode s p).2 := by
  have h := Lib.encode_decode (s.data.toList.drop p) (by rw [Ne, List.drop_eq_nil_iff, size_list]; omega) (by rw [Lib.decodeL_drop]; exact hv)
  rw [Lib.decodeL_drop] at h
  rw [enc_list, h]
/-- No place of a byte that is none, at p: the character there stands whole. -/
theorem whole_at (s : ByteArray) (b p : Nat) (hp : p < s.size) (h : replGo s (b + 1) p = false) : ¬ ((Utf8.decode s p).1 = 65533 ∧ (Utf8.decode s p).2 = 1) ∧ replGo s b (p + (Utf8.decode s p).2) = false := by
  rw [replGo, if_pos hp] at h
  split at h
  · cases h
  · rename_i hn
    refine ⟨?_, h⟩
    rintro ⟨h1, h2⟩
    refine hn ⟨h1, ?_⟩
    by_cases h3 : (s.size : Int) - p < 3
    · exact .inl h3
    · refine .inr (fun he => ?_)
      rw [ByteArray.toList_eq, extract_list, Nat.add_sub_cancel_left] at he
      have hd : Lib.decodeL (s.data.toList.drop p) = (65533, 3) := by
        have hl : s.data.toList.drop p = [239, 191, 189] ++ (s.data.toList.drop p).drop 3 := by
          rw [← he, List.take_append_drop]
        rw [hl, Lib.decodeL_N]
        simp [Lib.decodeN]
      rw [Lib.decodeL_drop] at hd
      rw [hd] at h2
      cases h2
theorem runesGo_step (s : ByteArray) (b p : Nat) (h : p < s.size) : runesGo s (b + 1) p = ((Utf8.decode s p).1 : Int) :: runesGo s b (p + (Utf8.decode s p).2) := by
  rw [runesGo, if_pos h]
theorem runesGo_end (s : ByteArray) (b p : Nat) (h : ¬ p < s.size) : runesGo s b p = [] := by
  cases b with
  | zero => rfl
  | succ b => rw [runesGo, if_neg h]
/-- The first n characters from a place on: where they end, and that they are the bytes between. -/
theorem chain (s : ByteArray) : ∀ (n b p : Nat), replGo s b p = false → p ≤ s.size → s.size ≤ p + b → n ≤ (runesGo s b p).length →
    ∃ q b', adv s p n = (q, 0) ∧ p ≤ q ∧ q ≤ s.size ∧ s.size ≤ q + b' ∧ replGo s b' q = false ∧ (runesGo s b p).drop n = runesGo s b' q ∧ ((runesGo s b p).take n).flatMap enc = (s.data.toList.drop p).take (q - p)
  | 0, b, p, hr, hp, hb, hn => ⟨p, b, adv_zero s p, Nat.le_refl _, hp, hb, hr, rfl, by simp⟩
  | n + 1, b, p, hr, hp, hb, hn => by
    by_cases hlt : p < s.size
    · obtain ⟨b, rfl⟩ : ∃ c, b = c + 1 := ⟨b - 1, by omega⟩
      obtain ⟨hv, hr'⟩ := whole_at s b p hlt hr
      have hw := width_le s p hlt
      have hw1 := width_pos s p hlt
      rw [runesGo_step s b p hlt, List.length_cons] at hn
      obtain ⟨q, b', h1, h2, h3, h4, h5, h6, h7⟩ := chain s n b (p + (Utf8.decode s p).2) hr' hw (by omega) (by omega)
      refine ⟨q, b', by rw [adv_step s p n hlt]; exact h1, by omega, h3, h4, h5, ?_, ?_⟩
      · rw [runesGo_step s b p hlt, List.drop_succ_cons]; exact h6
      · rw [runesGo_step s b p hlt, List.take_succ_cons, List.flatMap_cons, h7, enc_at s p hlt hv]
        rw [show q - p = (Utf8.decode s p).2 + (q - (p + (Utf8.decode s p).2)) by omega, List.take_add, List.drop_drop]
    · rw [runesGo_end s b p hlt] at hn
      simp at hn
/-- All characters from a place on are the bytes from there on. -/
theorem chain_all (s : ByteArray) : ∀ (b p : Nat), replGo s b p = false → p ≤ s.size → s.size ≤ p + b → (runesGo s b p).flatMap enc = s.data.toList.drop p
  | b, p, hr, hp, hb => by
    by_cases hlt : p < s.size
    · match b, hr, hb with
      | 0, _, hb => omega
      | b + 1, hr, hb =>
        obtain ⟨hv, hr'⟩ := whole_at s b p hlt hr
        have hw := width_le s p hlt
        have hw1 := width_pos s p hlt
        rw [runesGo_step s b p hlt, List.flatMap_cons, chain_all s b (p + (Utf8.decode s p).2) hr' hw (by omega), enc_at s p hlt hv, ← List.drop_drop, List.take_append_drop]
    · rw [runesGo_end s b p hlt, List.drop_eq_nil_of_le (by rw [size_list]; omega)]
      rfl
termination_by b => b
theorem adv_add (s : ByteArray) : ∀ (n p m q : Nat), adv s p n = (q, 0) → adv s p (n + m) = adv s q m
  | 0, p, m, q, h => by
    rw [adv_zero] at h
    injection h with h _
    rw [Nat.zero_add, h]
  | n + 1, p, m, q, h => by
    by_cases hlt : p < s.size
    · rw [adv_step s p n hlt] at h
      rw [Nat.add_right_comm, adv_step s p (n + m) hlt]
      exact adv_add s n _ m q h
    · rw [adv_end s p _ hlt] at h
      injection h with _ h
      cases h
/-- Behind the last character: so many are lacking. -/
theorem chain_over (s : ByteArray) (b p m : Nat) (hr : replGo s b p = false) (hp : p ≤ s.size) (hb : s.size ≤ p + b) : adv s p ((runesGo s b p).length + m) = (s.size, m) := by
  obtain ⟨q, b', h1, h2, h3, h4, h5, h6, h7⟩ := chain s _ b p hr hp hb (Nat.le_refl _)
  rw [List.drop_length] at h6
  have hq : q = s.size := by
    by_cases hlt : q < s.size
    · obtain ⟨c, rfl⟩ : ∃ c, b' = c + 1 := ⟨b' - 1, by omega⟩
      rw [runesGo_step s c q hlt] at h6
      cases h6
    · omega
  subst hq
  rw [adv_add s _ p m s.size h1, adv_end s s.size m (by omega)]
end Go.Proofs.YtbcccmoddbmffaaDoor.Pure
