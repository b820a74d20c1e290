/- A text in which each character stands once for several side by side: what the code writes piece by piece is what the set's own reference says, character by character: for every text. Nothing is assumed but what every Go string fulfils, and the two tables of unicode/utf8. -/
import Derived.Test.YtbcccmoddbmffaaDoorPx16
import Derived.Test.YtbcccmoddbmffaaDoorU9
namespace Go.Proofs.YtbcccmoddbmffaaDoor.Pure
open Go.RowKit Go.Proofs.YtbcccmoddbmffaaDoor.P Go.Proofs.YtbcccmoddbmffaaDoorW.PrintWords Go.Proofs.YtbcccmoddbmffaaDoorW.PrintLast
open Go.Lib (decodeL encodeRune encodeRuneZ)

theorem dec_head {c : Int} (h : okPoint c) (z : List UInt8) : decodeL (enc c ++ z) = (c.toNat, (enc c).length) := by
  obtain ⟨n, rfl, hn⟩ := h
  rw [enc_list, decode_enc n hn z]
  rfl
theorem enc_inj {c x : Int} (h : okPoint c) (hx : okPoint x) (e : enc c = enc x) : c = x := by
  have h1 := dec_head h []
  have h2 := dec_head hx []
  rw [e, h2] at h1
  have := congrArg Prod.fst h1
  obtain ⟨n, rfl, _⟩ := h
  obtain ⟨m, rfl, _⟩ := hx
  simp at this
  omega
/-- The last piece written. -/
def lastB (out : List Int) : ByteArray := match out.getLast? with | none => ⟨#[]⟩ | some x => ⟨(enc x).toArray⟩
theorem lastB_snoc (o : List Int) (x : Int) : lastB (o ++ [x]) = ⟨(enc x).toArray⟩ := by simp [lastB]
theorem piece_of (s : ByteArray) (p : Nat) (hp : p < s.size) (hv : ¬ ((Utf8.decode s p).1 = 65533 ∧ (Utf8.decode s p).2 = 1)) : s.extract p (p + (Utf8.decode s p).2) = ⟨(enc ((Utf8.decode s p).1 : Int)).toArray⟩ := by
  apply ba_ext
  rw [enc_at s p hp hv]
  show (s.extract p (p + (Utf8.decode s p).2)).data.toList = _
  rw [extract_list, Nat.add_sub_cancel_left]
theorem same_iff (out : List Int) (c : Int) (hc : okPoint c) (ho : ∀ x ∈ out, okPoint x) : (0 < (lastB out).size ∧ (⟨(enc c).toArray⟩ : ByteArray) = lastB out) ↔ (0 < out.length ∧ rd out ((out.length : Int) - 1) = c) := by
  rcases List.eq_nil_or_concat out with rfl | ⟨o, x, rfl⟩
  · constructor
    · intro h; exact absurd h.1 (by decide)
    · intro h; exact absurd h.1 (by decide)
  · rw [List.concat_eq_append] at ho ⊢
    rw [lastB_snoc]
    have hx : okPoint x := ho x (by simp)
    have hr : rd (o ++ [x]) (((o ++ [x]).length : Int) - 1) = x := by
      have e : (((o ++ [x]).length : Int) - 1) = (o.length : Int) := by simp
      rw [e]
      simp [rd, List.getD_eq_getElem?_getD]
    rw [hr]
    constructor
    · intro h
      have e : (enc c).toArray.toList = (enc x).toArray.toList := congrArg (fun b : ByteArray => b.data.toList) h.2
      exact ⟨by simp, (enc_inj hc hx (by simpa using e)).symm⟩
    · intro h
      obtain ⟨_, rfl⟩ := h
      refine ⟨?_, rfl⟩
      have := enc_pos hx
      show 0 < ((enc x).toArray).size
      simpa using this
theorem sq_from (s : ByteArray) : ∀ (k b p : Nat) (out : List Int), replGo s b p = false → p ≤ s.size → s.size ≤ p + b → s.size ≤ p + k → (∀ x ∈ out, okPoint x) → sqGo s k p (lastB out) (out.flatMap enc) = (sqr (runesGo s b p) out).flatMap enc
  | k, b, p, out, h, hp, hb, hk, ho => by
    by_cases hlt : p < s.size
    · obtain ⟨b, rfl⟩ : ∃ j, b = j + 1 := ⟨b - 1, by omega⟩
      match k, hk with
      | 0, hk => omega
      | k + 1, hk =>
        obtain ⟨hv, hn⟩ := whole_at s b p hlt h
        have hok := okPoint_at s p hv
        have hpc := piece_of s p hlt hv
        have hwl := width_le s p hlt
        have hwp := width_pos s p hlt
        have hen := enc_at s p hlt hv
        have hi := same_iff out _ hok ho
        rw [← hpc] at hi
        rw [runesGo_step s b p hlt]
        by_cases hc : 0 < out.length ∧ rd out ((out.length : Int) - 1) = ((Utf8.decode s p).1 : Int)
        · rw [sqGo_skip s k p _ _ hlt (hi.2 hc), sqr_skip _ _ _ hc]
          exact sq_from s k b _ out hn hwl (by omega) (by omega) ho
        · rw [sqGo_put s k p _ _ hlt (fun q => hc (hi.1 q)), sqr_put _ _ _ hc]
          have e1 : s.extract p (p + (Utf8.decode s p).2) = lastB (out ++ [((Utf8.decode s p).1 : Int)]) := by rw [lastB_snoc, hpc]
          have e2 : out.flatMap enc ++ (s.data.toList.drop p).take (Utf8.decode s p).2 = (out ++ [((Utf8.decode s p).1 : Int)]).flatMap enc := by
            rw [List.flatMap_append, ← hen]
            simp
          rw [e1, e2]
          refine sq_from s k b _ _ hn hwl (by omega) (by omega) fun x hx => ?_
          rcases List.mem_append.1 hx with hx | hx
          · exact ho x hx
          · rw [List.mem_singleton.1 hx]; exact hok
    · rw [sqGo_end s k p _ _ hlt, runesGo_end s b p hlt, sqr]
theorem impl_f (s : ByteArray) (hs : s.size ≤ 500) : impl_SqueezeOf.f s ⟨#[]⟩ = some ⟨(sqGo s s.size 0 ⟨#[]⟩ []).toArray⟩ := by
  unfold impl_SqueezeOf.f xstrings_Squeeze.f
  have : sqOk s ⟨#[]⟩ = true := by
    unfold sqOk
    rw [decide_eq_true (by omega : s.size ≤ 1048576)]
    rfl
  rw [if_pos this]
  rfl
theorem FnSqueeze : laws_FnSqueeze.Pure := by
  intro s hs
  by_cases h6 : (s.size : Int) > 2147483647
  · refine ⟨0, ?_⟩
    unfold laws_FnSqueeze.f
    rw [if_pos h6]
  · obtain ⟨b, e, hb⟩ := text9_tells [s] (by simp)
    refine Ev.rounds ?_
    unfold laws_FnSqueeze.f
    refine Ev.neg h6 (Ev.bind e ?_)
    cases b with
    | false => exact Ev.neg (by simp) (Ev.ok _)
    | true =>
      obtain ⟨h5, hu⟩ := hb rfl s (by simp)
      have hsq := sq_from s s.size s.size 0 [] hu.2 (Nat.zero_le _) (by omega) (by omega) (fun x hx => by cases hx)
      have hi : impl_SqueezeOf.f s ⟨#[]⟩ = some (runesBytes (sqr (runesOf s) [])) := by
        rw [impl_f s h5, ← ofCh_runes]
        have e2 : sqGo s s.size 0 ⟨#[]⟩ [] = (sqr (runesOf s) []).flatMap enc := hsq
        rw [e2]
        rfl
      have hsp : spec_SqueezeOf.f s false [] true = some (runesBytes (sqr (runesOf s) [])) := by
        unfold spec_SqueezeOf.f
        rw [if_pos ⟨by omega, rfl⟩]
      refine Ev.pos rfl ?_
      rw [hi]
      simp only [Option.bind_some]
      rw [hsp]
      simp only [Option.bind_some]
      refine Ev.pos trivial ?_
      have ht : impl_SqueezeOf.f ⟨#[97, 97, 98]⟩ ⟨#[]⟩ = some ⟨#[97, 98]⟩ := by
        rw [impl_f _ (by decide)]
        have : sqGo ⟨#[97, 97, 98]⟩ (⟨#[97, 97, 98]⟩ : ByteArray).size 0 ⟨#[]⟩ [] = [97, 98] := by decide +kernel
        rw [this]
      rw [ht]
      simp only [Option.bind_some]
      refine Ev.eq ?_ (Ev.ok _)
      decide +kernel
end Go.Proofs.YtbcccmoddbmffaaDoor.Pure
