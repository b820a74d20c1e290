/- A text the other way round: as the reference turns it; twice it is itself; a text behind another one, turned, is ahead of it; and how many characters it has: for every two texts. Nothing is assumed but what every Go string fulfils, and the two tables of unicode/utf8. -/
import Derived.Test.YtbcccmoddbmffaaDoorPx7
import Derived.Test.YtbcccmoddbmffaaDoorU8c
namespace Go.Proofs.YtbcccmoddbmffaaDoor.Pure
open Go.RowKit Go.Proofs.YtbcccmoddbmffaaDoor.P Go.Proofs.YtbcccmoddbmffaaDoorW.PrintWords Go.Proofs.YtbcccmoddbmffaaDoorW.PrintLast

def encN (c : Int) : List Int := (enc c).map fun b => (b.toNat : Int)
theorem rev_over (s : ByteArray) : ∀ (cs : List Int) (b : Nat) (pre : List UInt8) (acc : List Int), s.data.toList = pre ++ cs.flatMap enc → (∀ c ∈ cs, okPoint c) → s.size ≤ pre.length + b →
    revGo s b pre.length acc = cs.reverse.flatMap encN ++ acc
  | [], b, pre, acc, hs, _, hb => by
    rw [revGo_end]
    · rfl
    · rw [← size_list, hs]
      simp
  | c :: cs, b, pre, acc, hs, hc, hb => by
    obtain ⟨h1, h2, h3⟩ := decode_over s c cs pre [] (by rw [List.append_nil]; exact hs) (hc c (by simp))
    obtain ⟨b, rfl⟩ : ∃ k, b = k + 1 := ⟨b - 1, by omega⟩
    have hp := enc_pos (hc c (by simp))
    rw [revGo_step s b _ acc h1, h2]
    have h4 : ((nums8 s).drop pre.length).take (enc c).length = encN c := by
      unfold nums8 encN
      rw [← List.map_drop, ← List.map_take, h3]
    have := rev_over s cs b (pre ++ enc c) (encN c ++ acc) (by rw [hs, List.flatMap_cons, List.append_assoc]) (fun x hx => hc x (by simp [hx])) (by rw [List.length_append]; omega)
    rw [List.length_append] at this
    show revGo s b (pre.length + (enc c).length) (((nums8 s).drop pre.length).take (enc c).length ++ acc) = _
    rw [h4, this, List.reverse_cons, List.flatMap_append]
    simp
theorem encN_back : ∀ l : List UInt8, (l.map fun b => (b.toNat : Int)).map (fun x : Int => UInt8.ofNat x.toNat) = l
  | [] => rfl
  | b :: l => by
    rw [List.map_cons, List.map_cons, encN_back l]
    congr 1
    simp
theorem flatN : ∀ cs : List Int, cs.flatMap encN = (cs.flatMap enc).map fun b => (b.toNat : Int)
  | [] => rfl
  | c :: cs => by rw [List.flatMap_cons, List.flatMap_cons, List.map_append, flatN cs]; rfl
theorem rev_ofCh {cs : List Int} (h : ∀ c ∈ cs, okPoint c) (hs : (ofCh cs).size ≤ 70368744177664) : impl_ReverseText.f (ofCh cs) = some (ofCh cs.reverse) := by
  unfold impl_ReverseText.f xstrings_Reverse.f
  rw [if_pos hs, Option.bind_some, show revGo (ofCh cs) (ofCh cs).size 0 [] = _ from rev_over (ofCh cs) cs _ [] [] (ofCh_list cs) h (by simp), List.append_nil]
  congr 1
  apply ba_ext
  rw [ofCh_list, flatN]
  unfold strOfNums
  simp only [encN_back]
theorem spec_rev (l : List Int) (hl : l.length ≤ 500) : ∀ (d : Nat) (acc : List Int) (i : Int), i + 1 = d → i < l.length → acc.length + d ≤ 1000 → acc = (l.drop d).reverse →
    Ev (fun k => spec_Reversed.l0 k l acc i) (runesBytes l.reverse)
  | 0, acc, i, hi, _, _, ha => by
    refine Ev.step (fun k => by rw [spec_Reversed.l0]) (Ev.neg (by omega) (Ev.eq ?_ (Ev.ok _)))
    rw [ha, List.drop_zero]
  | d + 1, acc, i, hi, hil, hla, ha => by
    refine Ev.step (fun k => by rw [spec_Reversed.l0]) (Ev.pos (by omega) (Ev.pos (by omega) (Ev.pos hil (Ev.pos (by omega) ?_))))
    rw [w64_in (by omega) (by omega)]
    refine spec_rev l hl d _ _ (by omega) (by omega) (by simp; omega) ?_
    have hd : d < l.length := by omega
    have : i.toNat = d := by omega
    rw [ha, List.drop_eq_getElem_cons hd, List.reverse_cons]
    congr 2
    unfold rd
    rw [this]
    simp [List.getD_eq_getElem?_getD, hd]
theorem points_of (s : ByteArray) (h : utf8 s) (hs : s.size ≤ 500) : ∃ b, spec_Points.f s = some (runesOf s, b) := by
  unfold spec_Points.f
  rw [if_pos (by omega)]
  simp only [Option.bind_some]
  rw [if_pos (by rw [h.1])]
  unfold spec_replaced.f
  rw [if_pos (by omega)]
  exact ⟨_, rfl⟩
theorem len_of (s : ByteArray) (hs : s.size ≤ 5000) : impl_LenOf.f s = some ((runesOf s).length : Int) := by
  unfold impl_LenOf.f xstrings_Len.f utf8_RuneCountInString.f
  rw [if_pos (by omega)]
  rfl

theorem FnReverseText : laws_FnReverseText.Pure := by
  intro a b ha hb
  refine Ev.rounds (g := fun k => laws_FnReverseText.f k a b) ?_
  unfold laws_FnReverseText.f
  have far : Ev (fun k => laws_FnReverseText.j0 k a b true) true := Ev.step (fun k => by rw [laws_FnReverseText.j0]) (Ev.pos rfl (Ev.ok _))
  by_cases h1 : (a.size : Int) > 2147483647
  · exact Ev.pos h1 far
  refine Ev.neg h1 ?_
  by_cases h2 : (b.size : Int) > 2147483647
  · rw [decide_eq_true h2]; exact far
  rw [decide_eq_false h2]
  refine Ev.step (fun k => by rw [laws_FnReverseText.j0]) (Ev.neg Bool.false_ne_true ?_)
  obtain ⟨q, e, hq⟩ := text9_tells [a, b] (by simp)
  refine Ev.bind e ?_
  cases q with
  | false => exact Ev.neg Bool.false_ne_true (Ev.ok _)
  | true =>
    refine Ev.pos rfl ?_
    obtain ⟨ha5, hua⟩ := hq rfl a (by simp)
    obtain ⟨hb5, hub⟩ := hq rfl b (by simp)
    obtain ⟨b2, hP⟩ := points_of a hua ha5
    have oa := ok_of hua
    have ob := ok_of hub
    have ea := ofCh_of hua
    have eb := ofCh_of hub
    have za := runesOf_length a
    have zb := runesOf_length b
    generalize hA : runesOf a = A at *
    generalize hB : runesOf b = B at *
    have oA : ∀ c ∈ A.reverse, okPoint c := fun c hc => oa c (List.mem_reverse.1 hc)
    have oAB : ∀ c ∈ A ++ B, okPoint c := fun c hc => (List.mem_append.1 hc).elim (oa c) (ob c)
    have sA : (ofCh A).size ≤ 500 := by rw [← ea]; exact ha5
    have sB : (ofCh B).size ≤ 500 := by rw [← eb]; exact hb5
    have sAr : (ofCh A.reverse).size ≤ 500 := by rw [ofCh_size, size_reverse, ← ofCh_size]; exact sA
    have sBr : (ofCh B.reverse).size ≤ 500 := by rw [ofCh_size, size_reverse, ← ofCh_size]; exact sB
    have sAB : (ofCh (A ++ B)).size ≤ 1000 := by rw [← ofCh_append, ByteArray.size_append]; omega
    have rA := rev_ofCh oa (by omega)
    have rB := rev_ofCh ob (by omega)
    have rAr := rev_ofCh oA (by omega)
    rw [List.reverse_reverse] at rAr
    have rAB := rev_ofCh oAB (by omega)
    have lA := len_of (ofCh A) (by omega)
    have lB := len_of (ofCh B) (by omega)
    have lAB := len_of (ofCh (A ++ B)) (by omega)
    rw [runes_ofCh oa] at lA
    rw [runes_ofCh ob] at lB
    rw [runes_ofCh oAB] at lAB
    have lx : impl_LenOf.f (⟨#[195, 169]⟩ : ByteArray) = some 1 := (len_of _ (by decide)).trans (by decide +kernel)
    have sp : Ev (fun k => spec_Reversed.f k a) (ofCh A.reverse) := by
      unfold spec_Reversed.f
      rw [hP]
      simp only [Option.bind_some]
      rw [w64_in (by omega) (by omega), ofCh_runes]
      exact spec_rev A (by omega) A.length [] _ (by omega) (by omega) (by simp; omega) (by simp)
    rw [ea, eb] at *
    rw [ofCh_append, rA, rB, rAB, lA, lB, lAB, lx]
    refine Ev.bind (Ev.ok _) (Ev.bind sp (Ev.pos rfl (Ev.bind (Ev.ok _) ?_)))
    rw [rAr]
    refine Ev.bind (Ev.ok _) (Ev.pos rfl (Ev.pos (by omega) (Ev.bind (Ev.ok _) (Ev.bind (Ev.ok _) (Ev.bind (Ev.ok _) (Ev.pos (by omega) (Ev.pos ?_ ?_)))))))
    · rw [ofCh_append, List.reverse_append]
    · refine Ev.bind (Ev.ok _) (Ev.bind (Ev.ok _) (Ev.bind (Ev.ok _) (Ev.pos ?_ (Ev.bind (Ev.ok _) (Ev.pos (by omega) (Ev.pos rfl (Ev.bind (Ev.ok _) (Ev.ok _))))))))
      · rw [List.length_append, w64_in (by omega) (by omega)]
        omega
end Go.Proofs.YtbcccmoddbmffaaDoor.Pure
