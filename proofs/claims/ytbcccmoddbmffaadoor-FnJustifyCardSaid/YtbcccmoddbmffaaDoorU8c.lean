/- A text that is put together of characters: read by its characters, these are what it was put together of. Nothing is assumed but what is said in each law. -/
import Derived.Test.YtbcccmoddbmffaaDoorU8b
namespace Go.Proofs.YtbcccmoddbmffaaDoor.Pure
open Go.RowKit Go.Proofs.YtbcccmoddbmffaaDoor.P Go.Proofs.YtbcccmoddbmffaaDoorW.PrintWords Go.Proofs.YtbcccmoddbmffaaDoorW.PrintLast
open Go.Lib (decodeL encodeRune)

/-- Characters as a text. -/
def ofCh (cs : List Int) : ByteArray := ⟨(cs.flatMap enc).toArray⟩
theorem ofCh_list (cs : List Int) : (ofCh cs).data.toList = cs.flatMap enc := by simp [ofCh]
theorem ofCh_append (a b : List Int) : ofCh a ++ ofCh b = ofCh (a ++ b) := by
  apply ba_ext
  rw [append_list, ofCh_list, ofCh_list, ofCh_list, List.flatMap_append]
theorem ofCh_of {s : ByteArray} (h : utf8 s) : s = ofCh (runesOf s) := by
  apply ba_ext
  rw [ofCh_list]
  have := chain_all s s.size 0 h.2 (Nat.zero_le _) (by omega)
  rw [List.drop_zero] at this
  exact this.symm
theorem ok_of {s : ByteArray} (h : utf8 s) : ∀ c ∈ runesOf s, okPoint c := chain_ok s s.size 0 h.2 (Nat.zero_le _) (by omega)
theorem ofCh_size (cs : List Int) : (ofCh cs).size = (cs.flatMap enc).length := by rw [← ofCh_list]; simp
theorem ofCh_runes (cs : List Int) : ofCh cs = runesBytes cs := by
  apply ba_ext
  rw [ofCh_list, runesBytes_list]
  rfl
theorem size_reverse : ∀ cs : List Int, (cs.reverse.flatMap enc).length = (cs.flatMap enc).length
  | [] => rfl
  | c :: cs => by
    rw [List.reverse_cons, List.flatMap_append, List.length_append, size_reverse cs, List.flatMap_cons, List.length_append]
    simp
    omega
/-- The character at a place. -/
theorem decode_over (s : ByteArray) (c : Int) (cs : List Int) (pre rest : List UInt8) (hs : s.data.toList = pre ++ ((c :: cs).flatMap enc ++ rest)) (h0 : okPoint c) :
    pre.length < s.size ∧ Utf8.decode s pre.length = (c.toNat, (enc c).length) ∧ (s.data.toList.drop pre.length).take (enc c).length = enc c := by
  have hpos := enc_pos h0
  have hd : s.data.toList.drop pre.length = enc c ++ (cs.flatMap enc ++ rest) := by
    rw [hs, List.drop_left, List.flatMap_cons, List.append_assoc]
  have hsz : s.size = pre.length + ((enc c).length + ((cs.flatMap enc).length + rest.length)) := by
    rw [← size_list, hs, List.flatMap_cons]
    simp only [List.length_append]
    omega
  refine ⟨by omega, ?_, by rw [hd, List.take_left]⟩
  obtain ⟨n, rfl, hn⟩ := h0
  rw [← Lib.decodeL_drop, hd, enc_list, decode_enc n hn]
  rfl
theorem runes_over (s : ByteArray) : ∀ (cs : List Int) (b : Nat) (pre : List UInt8), s.data.toList = pre ++ cs.flatMap enc → (∀ c ∈ cs, okPoint c) → s.size ≤ pre.length + b → runesGo s b pre.length = cs
  | [], b, pre, hs, _, hb => by
    apply runesGo_end
    rw [← size_list, hs]
    simp
  | c :: cs, b, pre, hs, hc, hb => by
    obtain ⟨h1, h2, h3⟩ := decode_over s c cs pre [] (by rw [List.append_nil]; exact hs) (hc c (by simp))
    obtain ⟨b, rfl⟩ : ∃ k, b = k + 1 := ⟨b - 1, by omega⟩
    have hp := enc_pos (hc c (by simp))
    have h0 : ((c.toNat : Nat) : Int) = c := by obtain ⟨n, rfl, _⟩ := hc c (by simp); rfl
    rw [runesGo_step s b _ h1, h2, h0]
    have := runes_over s cs b (pre ++ enc c) (by rw [hs, List.flatMap_cons, List.append_assoc]) (fun x hx => hc x (by simp [hx])) (by rw [List.length_append]; omega)
    rw [List.length_append] at this
    rw [this]
theorem runes_ofCh {cs : List Int} (h : ∀ c ∈ cs, okPoint c) : runesOf (ofCh cs) = cs :=
  runes_over (ofCh cs) cs _ [] (ofCh_list cs) h (by simp)
end Go.Proofs.YtbcccmoddbmffaaDoor.Pure
