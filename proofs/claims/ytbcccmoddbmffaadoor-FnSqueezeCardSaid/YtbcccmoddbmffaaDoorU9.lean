/- A text of UTF-8 by its characters (without places by characters): what they are, written anew and read again. Nothing is assumed but what is said in each law. -/
import Derived.Test.YtbcccmoddbmffaaDoorT9
import Derived.Lib.MapLaws
import Derived.Lib.TrimAscii
import Derived.Lib.SpaceUEq
import Derived.Lib.RuneCountTail
namespace Go.Proofs.YtbcccmoddbmffaaDoor.Pure
open Go.RowKit Go.Proofs.YtbcccmoddbmffaaDoor.P Go.Proofs.YtbcccmoddbmffaaDoorW.PrintWords Go.Proofs.YtbcccmoddbmffaaDoorW.PrintLast
open Go.Lib (decodeN decodeL decodeL_N decodeN_shape encodeRune encodeRuneZ decodeL_ascii)
theorem decodeGo_at (s : ByteArray) (p : Nat) (h : p < s.size) : Lib.decodeGo (s.extract p s.size) = Utf8.decode s p := by
  unfold Lib.decodeGo
  rw [if_neg (by rw [ByteArray.size_extract]; omega), Lib.tail_decode]
  rfl
theorem width_le (s : ByteArray) (p : Nat) (h : p < s.size) : p + (Utf8.decode s p).2 ≤ s.size := by
  have := Lib.decodeGo_le_size (s.extract p s.size)
  rw [decodeGo_at s p h, ByteArray.size_extract] at this
  omega
def enc (n : Int) : List UInt8 := (Utf8.encode n).data.toList
theorem u8_of {z : Int} {n : Nat} (h : z.toNat = n) : z.toNat.toUInt8 = UInt8.ofNat n := by rw [h]
set_option maxRecDepth 100000 in
theorem enc_ok (r : Nat) (hv : Utf8.valid (r : Int) = true) : enc (r : Int) = Lib.encodeRune (r : Int) := by
  have hv' : (r : Int) < 55296 ∨ (57344 ≤ (r : Int) ∧ (r : Int) ≤ 1114111) := by
    unfold Utf8.valid at hv
    simp at hv
    omega
  unfold enc Utf8.encode Lib.encodeRune Lib.encodeRuneZ
  simp only [hv, if_true, Int.toNat_natCast]
  by_cases h1 : r < 128
  · rw [if_pos h1, if_pos (by omega)]
    simp only [List.map_cons, List.map_nil]
    rw [u8_of (n := r) (by omega)]
  · by_cases h2 : r < 2048
    · rw [if_neg h1, if_pos h2, if_neg (by omega), if_pos (by omega)]
      simp only [List.map_cons, List.map_nil]
      rw [u8_of (n := 192 + r / 64) (by omega), u8_of (n := 128 + r % 64) (by omega)]
    · by_cases h3 : r < 65536
      · rw [if_neg h1, if_neg h2, if_pos h3, if_neg (by omega), if_neg (by omega), if_pos (by omega)]
        simp only [List.map_cons, List.map_nil]
        rw [u8_of (n := 224 + r / 4096) (by omega), u8_of (n := 128 + r / 64 % 64) (by omega), u8_of (n := 128 + r % 64) (by omega)]
      · rw [if_neg h1, if_neg h2, if_neg h3, if_neg (by omega), if_neg (by omega), if_neg (by omega), if_pos (by omega)]
        simp only [List.map_cons, List.map_nil]
        rw [u8_of (n := 240 + r / 262144) (by omega), u8_of (n := 128 + r / 4096 % 64) (by omega), u8_of (n := 128 + r / 64 % 64) (by omega), u8_of (n := 128 + r % 64) (by omega)]
set_option maxRecDepth 100000 in
theorem enc_list (r : Nat) : enc (r : Int) = Lib.encodeRune (r : Int) := by
  by_cases hv : Utf8.valid (r : Int) = true
  · exact enc_ok r hv
  · have h0 : enc (r : Int) = [239, 191, 189] := by
      unfold enc Utf8.encode
      simp only [hv, Bool.false_eq_true, if_false]
      decide
    have hv' : ¬ ((r : Int) < 55296 ∨ (57344 ≤ (r : Int) ∧ (r : Int) ≤ 1114111)) := by
      unfold Utf8.valid at hv
      simp at hv
      omega
    rw [h0]
    unfold Lib.encodeRune Lib.encodeRuneZ
    rw [if_neg (by omega), if_neg (by omega), if_neg (by omega), if_neg (by omega)]
    decide
/-- A character that stands whole, written anew. -/
theorem enc_at (s : ByteArray) (p : Nat) (hp : p < s.size) (hv : ¬ ((Utf8.decode s p).1 = 65533 ∧ (Utf8.decode s p).2 = 1)) : enc ((Utf8.decode s p).1 : Int) = (s.data.toList.drop p).take (Utf8.decode s p).2 := by
  have h := Lib.encode_decode (s.data.toList.drop p) (by rw [Ne, List.drop_eq_nil_iff, size_list]; omega) (by rw [Lib.decodeL_drop]; exact hv)
  rw [Lib.decodeL_drop] at h
  rw [enc_list, h]
/-- No place of a byte that is none, at p: the character there stands whole. -/
theorem whole_at (s : ByteArray) (b p : Nat) (hp : p < s.size) (h : replGo s (b + 1) p = false) : ¬ ((Utf8.decode s p).1 = 65533 ∧ (Utf8.decode s p).2 = 1) ∧ replGo s b (p + (Utf8.decode s p).2) = false := by
  rw [replGo, if_pos hp] at h
  split at h
  · cases h
  · rename_i hn
    refine ⟨?_, h⟩
    rintro ⟨h1, h2⟩
    refine hn ⟨h1, ?_⟩
    by_cases h3 : (s.size : Int) - p < 3
    · exact .inl h3
    · refine .inr (fun he => ?_)
      rw [ByteArray.toList_eq, extract_list, Nat.add_sub_cancel_left] at he
      have hd : Lib.decodeL (s.data.toList.drop p) = (65533, 3) := by
        have hl : s.data.toList.drop p = [239, 191, 189] ++ (s.data.toList.drop p).drop 3 := by
          rw [← he, List.take_append_drop]
        rw [hl, Lib.decodeL_N]
        simp [Lib.decodeN]
      rw [Lib.decodeL_drop] at hd
      rw [hd] at h2
      cases h2
theorem runesGo_step (s : ByteArray) (b p : Nat) (h : p < s.size) : runesGo s (b + 1) p = ((Utf8.decode s p).1 : Int) :: runesGo s b (p + (Utf8.decode s p).2) := by
  rw [runesGo, if_pos h]
theorem runesGo_end (s : ByteArray) (b p : Nat) (h : ¬ p < s.size) : runesGo s b p = [] := by
  cases b with
  | zero => rfl
  | succ b => rw [runesGo, if_neg h]
/-- All characters from a place on are the bytes from there on. -/
theorem chain_all (s : ByteArray) : ∀ (b p : Nat), replGo s b p = false → p ≤ s.size → s.size ≤ p + b → (runesGo s b p).flatMap enc = s.data.toList.drop p
  | b, p, hr, hp, hb => by
    by_cases hlt : p < s.size
    · match b, hr, hb with
      | 0, _, hb => omega
      | b + 1, hr, hb =>
        obtain ⟨hv, hr'⟩ := whole_at s b p hlt hr
        have hw := width_le s p hlt
        have hw1 := width_pos s p hlt
        rw [runesGo_step s b p hlt, List.flatMap_cons, chain_all s b (p + (Utf8.decode s p).2) hr' hw (by omega), enc_at s p hlt hv, ← List.drop_drop, List.take_append_drop]
    · rw [runesGo_end s b p hlt, List.drop_eq_nil_of_le (by rw [size_list]; omega)]
      rfl
termination_by b => b
theorem u8n {z : Int} {n : Nat} (h : z.toNat = n) (h2 : n < 256) : (z.toNat.toUInt8).toNat = n := by
  rw [h]
  show (UInt8.ofNat n).toNat = n
  simp
  omega
set_option maxRecDepth 100000 in
theorem decode_enc (c : Nat) (hc : c < 55296 ∨ (57344 ≤ c ∧ c ≤ 1114111)) (z : List UInt8) : decodeL (encodeRune (c : Int) ++ z) = (c, (encodeRune (c : Int)).length) := by
  unfold encodeRune encodeRuneZ
  by_cases h1 : c < 128
  · rw [if_pos (by omega)]
    simp only [List.map_cons, List.map_nil, List.cons_append, List.nil_append, List.length_cons, List.length_nil]
    rw [decodeL_ascii _ _ (by rw [u8n (n := c) (by omega) (by omega)]; exact h1), u8n (n := c) (by omega) (by omega)]
  · by_cases h2 : c < 2048
    · rw [if_neg (by omega), if_pos (by omega)]
      simp only [List.map_cons, List.map_nil, List.cons_append, List.nil_append, List.length_cons, List.length_nil]
      rw [decodeL_N]
      simp only [List.getD_cons_zero, List.getD_cons_succ, List.length_cons]
      rw [u8n (n := 192 + c / 64) (by omega) (by omega), u8n (n := 128 + c % 64) (by omega) (by omega)]
      unfold decodeN
      rw [if_neg (by omega), if_pos (by omega), if_pos (by omega)]
      congr 1
      omega
    · by_cases h3 : c < 65536
      · rw [if_neg (by omega), if_neg (by omega), if_pos (by omega)]
        simp only [List.map_cons, List.map_nil, List.cons_append, List.nil_append, List.length_cons, List.length_nil]
        rw [decodeL_N]
        simp only [List.getD_cons_zero, List.getD_cons_succ, List.length_cons]
        rw [u8n (n := 224 + c / 4096) (by omega) (by omega), u8n (n := 128 + c / 64 % 64) (by omega) (by omega), u8n (n := 128 + c % 64) (by omega) (by omega)]
        unfold decodeN
        rw [if_neg (by omega), if_neg (by omega), if_pos (by omega), if_pos (by omega)]
        congr 1
        omega
      · rw [if_neg (by omega), if_neg (by omega), if_neg (by omega), if_pos (by omega)]
        simp only [List.map_cons, List.map_nil, List.cons_append, List.nil_append, List.length_cons, List.length_nil]
        rw [decodeL_N]
        simp only [List.getD_cons_zero, List.getD_cons_succ, List.length_cons]
        rw [u8n (n := 240 + c / 262144) (by omega) (by omega), u8n (n := 128 + c / 4096 % 64) (by omega) (by omega), u8n (n := 128 + c / 64 % 64) (by omega) (by omega), u8n (n := 128 + c % 64) (by omega) (by omega)]
        unfold decodeN
        rw [if_neg (by omega), if_neg (by omega), if_neg (by omega), if_pos (by omega), if_pos (by omega)]
        congr 1
        omega
/-- A code point that UTF-8 has. -/
def okPoint (c : Int) : Prop := ∃ n : Nat, c = (n : Int) ∧ (n < 55296 ∨ (57344 ≤ n ∧ n ≤ 1114111))
theorem okPoint_at (s : ByteArray) (p : Nat) (hv : ¬ ((Utf8.decode s p).1 = 65533 ∧ (Utf8.decode s p).2 = 1)) : okPoint ((Utf8.decode s p).1 : Int) := by
  refine ⟨_, rfl, ?_⟩
  rw [← Lib.decodeL_drop, decodeL_N] at hv ⊢
  rcases decodeN_shape (s.data.toList.drop p).length ((s.data.toList.drop p).getD 0 0).toNat ((s.data.toList.drop p).getD 1 0).toNat ((s.data.toList.drop p).getD 2 0).toNat ((s.data.toList.drop p).getD 3 0).toNat with
    ⟨h0, h⟩ | ⟨h0, h1, h2, h3, h⟩ | ⟨h0, h1, h2, h3, h4, h5, h⟩ | ⟨h0, h1, h2, h3, h4, h5, h6, h⟩ | h
  · rw [h]; left; show _ < 55296; omega
  · rw [h]; left; show _ < 55296; omega
  · rw [h]; rcases h5 with h5 | h5
    · left; exact h5
    · right; exact ⟨h5, by show _ ≤ 1114111; omega⟩
  · rw [h]; right; exact ⟨by show 57344 ≤ _; omega, h6⟩
  · rw [h] at hv; exact absurd ⟨rfl, rfl⟩ hv
theorem chain_ok (s : ByteArray) : ∀ (b p : Nat), replGo s b p = false → p ≤ s.size → s.size ≤ p + b → ∀ c ∈ runesGo s b p, okPoint c
  | b, p, hr, hp, hb, c, hc => by
    by_cases hlt : p < s.size
    · match b, hr, hb, hc with
      | 0, _, hb, _ => omega
      | b + 1, hr, hb, hc =>
        obtain ⟨hv, hr'⟩ := whole_at s b p hlt hr
        have hw := width_le s p hlt
        have hw1 := width_pos s p hlt
        rw [runesGo_step s b p hlt] at hc
        rcases List.mem_cons.1 hc with rfl | hc
        · exact okPoint_at s p hv
        · exact chain_ok s b _ hr' hw (by omega) c hc
    · rw [runesGo_end s b p hlt] at hc
      cases hc
termination_by b => b
theorem enc_pos {c : Int} (h : okPoint c) : 0 < (enc c).length := by
  obtain ⟨n, rfl, hn⟩ := h
  rw [enc_list]
  unfold encodeRune encodeRuneZ
  repeat' split
  all_goals simp
theorem chars_le : ∀ cs : List Int, (∀ c ∈ cs, okPoint c) → cs.length ≤ (cs.flatMap enc).length
  | [], _ => by simp
  | c :: cs, h => by
    rw [List.flatMap_cons, List.length_append, List.length_cons]
    have := enc_pos (h c (by simp))
    have := chars_le cs (fun x hx => h x (by simp [hx]))
    omega
/-- Characters as a text. -/
def ofCh (cs : List Int) : ByteArray := ⟨(cs.flatMap enc).toArray⟩
theorem ofCh_list (cs : List Int) : (ofCh cs).data.toList = cs.flatMap enc := by simp [ofCh]
theorem ofCh_append (a b : List Int) : ofCh a ++ ofCh b = ofCh (a ++ b) := by
  apply ba_ext
  rw [append_list, ofCh_list, ofCh_list, ofCh_list, List.flatMap_append]
theorem ofCh_of {s : ByteArray} (h : utf8 s) : s = ofCh (runesOf s) := by
  apply ba_ext
  rw [ofCh_list]
  have := chain_all s s.size 0 h.2 (Nat.zero_le _) (by omega)
  rw [List.drop_zero] at this
  exact this.symm
theorem ok_of {s : ByteArray} (h : utf8 s) : ∀ c ∈ runesOf s, okPoint c := chain_ok s s.size 0 h.2 (Nat.zero_le _) (by omega)
theorem ofCh_size (cs : List Int) : (ofCh cs).size = (cs.flatMap enc).length := by rw [← ofCh_list]; simp
theorem ofCh_runes (cs : List Int) : ofCh cs = runesBytes cs := by
  apply ba_ext
  rw [ofCh_list, runesBytes_list]
  rfl
theorem size_reverse : ∀ cs : List Int, (cs.reverse.flatMap enc).length = (cs.flatMap enc).length
  | [] => rfl
  | c :: cs => by
    rw [List.reverse_cons, List.flatMap_append, List.length_append, size_reverse cs, List.flatMap_cons, List.length_append]
    simp
    omega
/-- The character at a place. -/
theorem decode_over (s : ByteArray) (c : Int) (cs : List Int) (pre rest : List UInt8) (hs : s.data.toList = pre ++ ((c :: cs).flatMap enc ++ rest)) (h0 : okPoint c) :
    pre.length < s.size ∧ Utf8.decode s pre.length = (c.toNat, (enc c).length) ∧ (s.data.toList.drop pre.length).take (enc c).length = enc c := by
  have hpos := enc_pos h0
  have hd : s.data.toList.drop pre.length = enc c ++ (cs.flatMap enc ++ rest) := by
    rw [hs, List.drop_left, List.flatMap_cons, List.append_assoc]
  have hsz : s.size = pre.length + ((enc c).length + ((cs.flatMap enc).length + rest.length)) := by
    rw [← size_list, hs, List.flatMap_cons]
    simp only [List.length_append]
    omega
  refine ⟨by omega, ?_, by rw [hd, List.take_left]⟩
  obtain ⟨n, rfl, hn⟩ := h0
  rw [← Lib.decodeL_drop, hd, enc_list, decode_enc n hn]
  rfl
theorem runes_over (s : ByteArray) : ∀ (cs : List Int) (b : Nat) (pre : List UInt8), s.data.toList = pre ++ cs.flatMap enc → (∀ c ∈ cs, okPoint c) → s.size ≤ pre.length + b → runesGo s b pre.length = cs
  | [], b, pre, hs, _, hb => by
    apply runesGo_end
    rw [← size_list, hs]
    simp
  | c :: cs, b, pre, hs, hc, hb => by
    obtain ⟨h1, h2, h3⟩ := decode_over s c cs pre [] (by rw [List.append_nil]; exact hs) (hc c (by simp))
    obtain ⟨b, rfl⟩ : ∃ k, b = k + 1 := ⟨b - 1, by omega⟩
    have hp := enc_pos (hc c (by simp))
    have h0 : ((c.toNat : Nat) : Int) = c := by obtain ⟨n, rfl, _⟩ := hc c (by simp); rfl
    rw [runesGo_step s b _ h1, h2, h0]
    have := runes_over s cs b (pre ++ enc c) (by rw [hs, List.flatMap_cons, List.append_assoc]) (fun x hx => hc x (by simp [hx])) (by rw [List.length_append]; omega)
    rw [List.length_append] at this
    rw [this]
theorem runes_ofCh {cs : List Int} (h : ∀ c ∈ cs, okPoint c) : runesOf (ofCh cs) = cs :=
  runes_over (ofCh cs) cs _ [] (ofCh_list cs) h (by simp)
end Go.Proofs.YtbcccmoddbmffaaDoor.Pure
