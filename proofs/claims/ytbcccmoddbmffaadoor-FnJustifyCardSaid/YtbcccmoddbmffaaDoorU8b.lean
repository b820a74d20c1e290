/- More on a text of UTF-8: a character written anew and read again is itself, whatever stands behind it. Nothing is assumed but what is said in each law. -/
import Derived.Test.YtbcccmoddbmffaaDoorU8
import Derived.Lib.TrimAscii
namespace Go.Proofs.YtbcccmoddbmffaaDoor.Pure
open Go.RowKit Go.Proofs.YtbcccmoddbmffaaDoor.P Go.Proofs.YtbcccmoddbmffaaDoorW.PrintWords Go.Proofs.YtbcccmoddbmffaaDoorW.PrintLast
open Go.Lib (decodeN decodeL decodeL_N decodeN_shape encodeRune encodeRuneZ decodeL_ascii)

theorem u8n {z : Int} {n : Nat} (h : z.toNat = n) (h2 : n < 256) : (z.toNat.toUInt8).toNat = n := by
  rw [h]
  show (UInt8.ofNat n).toNat = n
  simp
  omega
set_option maxRecDepth 100000 in
theorem decode_enc (c : Nat) (hc : c < 55296 ∨ (57344 ≤ c ∧ c ≤ 1114111)) (z : List UInt8) : decodeL (encodeRune (c : Int) ++ z) = (c, (encodeRune (c : Int)).length) := by
  unfold encodeRune encodeRuneZ
  by_cases h1 : c < 128
  · rw [if_pos (by omega)]
    simp only [List.map_cons, List.map_nil, List.cons_append, List.nil_append, List.length_cons, List.length_nil]
    rw [decodeL_ascii _ _ (by rw [u8n (n := c) (by omega) (by omega)]; exact h1), u8n (n := c) (by omega) (by omega)]
  · by_cases h2 : c < 2048
    · rw [if_neg (by omega), if_pos (by omega)]
      simp only [List.map_cons, List.map_nil, List.cons_append, List.nil_append, List.length_cons, List.length_nil]
      rw [decodeL_N]
      simp only [List.getD_cons_zero, List.getD_cons_succ, List.length_cons]
      rw [u8n (n := 192 + c / 64) (by omega) (by omega), u8n (n := 128 + c % 64) (by omega) (by omega)]
      unfold decodeN
      rw [if_neg (by omega), if_pos (by omega), if_pos (by omega)]
      congr 1
      omega
    · by_cases h3 : c < 65536
      · rw [if_neg (by omega), if_neg (by omega), if_pos (by omega)]
        simp only [List.map_cons, List.map_nil, List.cons_append, List.nil_append, List.length_cons, List.length_nil]
        rw [decodeL_N]
        simp only [List.getD_cons_zero, List.getD_cons_succ, List.length_cons]
        rw [u8n (n := 224 + c / 4096) (by omega) (by omega), u8n (n := 128 + c / 64 % 64) (by omega) (by omega), u8n (n := 128 + c % 64) (by omega) (by omega)]
        unfold decodeN
        rw [if_neg (by omega), if_neg (by omega), if_pos (by omega), if_pos (by omega)]
        congr 1
        omega
      · rw [if_neg (by omega), if_neg (by omega), if_neg (by omega), if_pos (by omega)]
        simp only [List.map_cons, List.map_nil, List.cons_append, List.nil_append, List.length_cons, List.length_nil]
        rw [decodeL_N]
        simp only [List.getD_cons_zero, List.getD_cons_succ, List.length_cons]
        rw [u8n (n := 240 + c / 262144) (by omega) (by omega), u8n (n := 128 + c / 4096 % 64) (by omega) (by omega), u8n (n := 128 + c / 64 % 64) (by omega) (by omega), u8n (n := 128 + c % 64) (by omega) (by omega)]
        unfold decodeN
        rw [if_neg (by omega), if_neg (by omega), if_neg (by omega), if_pos (by omega), if_pos (by omega)]
        congr 1
        omega
/-- A code point that UTF-8 has. -/
def okPoint (c : Int) : Prop := ∃ n : Nat, c = (n : Int) ∧ (n < 55296 ∨ (57344 ≤ n ∧ n ≤ 1114111))
theorem okPoint_at (s : ByteArray) (p : Nat) (hv : ¬ ((Utf8.decode s p).1 = 65533 ∧ (Utf8.decode s p).2 = 1)) : okPoint ((Utf8.decode s p).1 : Int) := by
  refine ⟨_, rfl, ?_⟩
  rw [← Lib.decodeL_drop, decodeL_N] at hv ⊢
  rcases decodeN_shape (s.data.toList.drop p).length ((s.data.toList.drop p).getD 0 0).toNat ((s.data.toList.drop p).getD 1 0).toNat ((s.data.toList.drop p).getD 2 0).toNat ((s.data.toList.drop p).getD 3 0).toNat with
    ⟨h0, h⟩ | ⟨h0, h1, h2, h3, h⟩ | ⟨h0, h1, h2, h3, h4, h5, h⟩ | ⟨h0, h1, h2, h3, h4, h5, h6, h⟩ | h
  · rw [h]; left; show _ < 55296; omega
  · rw [h]; left; show _ < 55296; omega
  · rw [h]; rcases h5 with h5 | h5
    · left; exact h5
    · right; exact ⟨h5, by show _ ≤ 1114111; omega⟩
  · rw [h]; right; exact ⟨by show 57344 ≤ _; omega, h6⟩
  · rw [h] at hv; exact absurd ⟨rfl, rfl⟩ hv
theorem chain_ok (s : ByteArray) : ∀ (b p : Nat), replGo s b p = false → p ≤ s.size → s.size ≤ p + b → ∀ c ∈ runesGo s b p, okPoint c
  | b, p, hr, hp, hb, c, hc => by
    by_cases hlt : p < s.size
    · match b, hr, hb, hc with
      | 0, _, hb, _ => omega
      | b + 1, hr, hb, hc =>
        obtain ⟨hv, hr'⟩ := whole_at s b p hlt hr
        have hw := width_le s p hlt
        have hw1 := width_pos s p hlt
        rw [runesGo_step s b p hlt] at hc
        rcases List.mem_cons.1 hc with rfl | hc
        · exact okPoint_at s p hv
        · exact chain_ok s b _ hr' hw (by omega) c hc
    · rw [runesGo_end s b p hlt] at hc
      cases hc
termination_by b => b
theorem enc_pos {c : Int} (h : okPoint c) : 0 < (enc c).length := by
  obtain ⟨n, rfl, hn⟩ := h
  rw [enc_list]
  unfold encodeRune encodeRuneZ
  repeat' split
  all_goals simp
theorem chars_le : ∀ cs : List Int, (∀ c ∈ cs, okPoint c) → cs.length ≤ (cs.flatMap enc).length
  | [], _ => by simp
  | c :: cs, h => by
    rw [List.flatMap_cons, List.length_append, List.length_cons]
    have := enc_pos (h c (by simp))
    have := chars_le cs (fun x hx => h x (by simp [hx]))
    omega
/-- Over characters that stand in a text. -/
theorem adv_over (s : ByteArray) : ∀ (cs : List Int) (pre rest : List UInt8), s.data.toList = pre ++ (cs.flatMap enc ++ rest) → (∀ c ∈ cs, okPoint c) →
    adv s pre.length cs.length = (pre.length + (cs.flatMap enc).length, 0)
  | [], pre, rest, _, _ => by rw [List.length_nil, adv_zero]; rfl
  | c :: cs, pre, rest, hs, hc => by
    have h0 := hc c (by simp)
    have hpos := enc_pos h0
    have hd : s.data.toList.drop pre.length = enc c ++ (cs.flatMap enc ++ rest) := by
      rw [hs, List.drop_left, List.flatMap_cons, List.append_assoc]
    have hsz : s.size = pre.length + ((enc c).length + ((cs.flatMap enc).length + rest.length)) := by
      rw [← size_list, hs, List.flatMap_cons]
      simp only [List.length_append]
      omega
    have hdec : Utf8.decode s pre.length = (c.toNat, (enc c).length) := by
      obtain ⟨n, rfl, hn⟩ := h0
      rw [← Lib.decodeL_drop, hd, enc_list, decode_enc n hn]
      rfl
    have ih := adv_over s cs (pre ++ enc c) rest (by rw [hs, List.flatMap_cons]; simp only [List.append_assoc]) (fun x hx => hc x (by simp [hx]))
    rw [List.length_cons, adv_step s pre.length cs.length (by omega), hdec]
    rw [List.length_append] at ih
    rw [ih, List.flatMap_cons, List.length_append]
    show _ = _
    rw [Nat.add_assoc]
end Go.Proofs.YtbcccmoddbmffaaDoor.Pure
