/- A text filled up behind, ahead, or at both ends with a text that is written again and again: as the reference fills it up: for every two texts and every length. Nothing is assumed but what every Go string and int fulfils, and the two tables of unicode/utf8. -/
import Derived.Test.YtbcccmoddbmffaaDoorPx30
import Derived.Test.YtbcccmoddbmffaaDoorU8c
namespace Go.Proofs.YtbcccmoddbmffaaDoor.Pure
open Go.RowKit Go.Proofs.YtbcccmoddbmffaaDoor.P Go.Proofs.YtbcccmoddbmffaaDoorW.PrintWords Go.Proofs.YtbcccmoddbmffaaDoorW.PrintLast

/-- So many characters of some that are taken again and again. -/
def cyc (P : List Int) (m : Nat) : List Int := (List.range m).map fun i => P.getD (i % P.length) 0
theorem cyc_succ (P : List Int) (i : Nat) : cyc P (i + 1) = cyc P i ++ [P.getD (i % P.length) 0] := by
  unfold cyc
  rw [List.range_succ, List.map_append]
  rfl
theorem cyc_short (P : List Int) (m : Nat) (h : m ≤ P.length) : cyc P m = P.take m := by
  apply List.ext_getElem
  · simp [cyc]; omega
  · intro j h1 h2
    have hj : j < m := by simpa [cyc] using h1
    simp only [cyc, List.getElem_map, List.getElem_range, List.getElem_take]
    rw [Nat.mod_eq_of_lt (by omega), List.getD_eq_getElem?_getD, List.getElem?_eq_getElem (by omega)]
    rfl
theorem cyc_round (P : List Int) (m : Nat) : cyc P (P.length + m) = P ++ cyc P m := by
  unfold cyc
  rw [List.range_add, List.map_append, List.map_map]
  congr 1
  · exact (cyc_short P P.length (Nat.le_refl _)).trans (List.take_length ..)
  · apply List.map_congr_left
    intro i _
    simp
theorem cyc_rounds (P : List Int) (m : Nat) : ∀ q : Nat, cyc P (q * P.length + m) = (List.replicate q P).flatten ++ cyc P m
  | 0 => by simp
  | q + 1 => by
    rw [Nat.succ_mul, Nat.add_right_comm, Nat.add_comm, cyc_round, cyc_rounds P m q, List.replicate_succ, List.flatten_cons, List.append_assoc]
theorem rep_enc (P : List Int) : ∀ q : Nat, repL (P.flatMap enc) q = ((List.replicate q P).flatten).flatMap enc
  | 0 => rfl
  | q + 1 => by
    rw [repL_succ, rep_enc P q, List.replicate_succ', List.flatten_concat, List.flatMap_append]
theorem padB_cyc (pad : ByteArray) (h : utf8 pad) (h0 : 0 < (runesOf pad).length) (r : Nat) : padB pad (runesOf pad).length r = (cyc (runesOf pad) r).flatMap enc := by
  have hd : pad.data.toList = (runesOf pad).flatMap enc := by
    conv => lhs; rw [ofCh_of h]
    rw [ofCh_list]
  have hm : r % (runesOf pad).length ≤ (runesOf pad).length := Nat.le_of_lt (Nat.mod_lt _ h0)
  obtain ⟨q, b', h1, h2, h3, h4, h5, h6, h7⟩ := chain pad (r % (runesOf pad).length) pad.size 0 h.2 (Nat.zero_le _) (by omega) hm
  unfold padB
  rw [h1]
  have e : r = r / (runesOf pad).length * (runesOf pad).length + r % (runesOf pad).length := by
    rw [Nat.mul_comm]; exact (Nat.div_add_mod ..).symm
  conv => rhs; rw [e]
  rw [cyc_rounds, List.flatMap_append, cyc_short _ _ hm, ← rep_enc, ← hd]
  congr 1
  have h7' : ((runesOf pad).take (r % (runesOf pad).length)).flatMap enc = (pad.data.toList.drop 0).take (q - 0) := h7
  rw [h7', List.drop_zero, Nat.sub_zero]
theorem points_of (s : ByteArray) (h : utf8 s) (hs : s.size ≤ 500) : ∃ b, spec_Points.f s = some (runesOf s, b) := by
  unfold spec_Points.f
  rw [if_pos (by omega)]
  simp only [Option.bind_some]
  rw [if_pos (by rw [h.1])]
  unfold spec_replaced.f
  rw [if_pos (by omega)]
  exact ⟨_, rfl⟩
theorem padded_from (P : List Int) (h0 : 0 < P.length) (hP : P.length ≤ 1000) (m : Nat) (hm : m ≤ 1000) : ∀ (d i : Nat), i + d = m → Ev (fun k => spec_Padded.l0 k P (cyc P i) (m : Int) (i : Int)) (runesBytes (cyc P m))
  | 0, i, hi => by
    obtain rfl : i = m := by omega
    exact Ev.step (fun k => by rw [spec_Padded.l0]) (Ev.neg (by omega) (Ev.ok _))
  | d + 1, i, hi => by
    have hl : (cyc P i).length = i := by simp [cyc]
    have ht : Int.tmod (i : Int) (P.length : Int) = ((i % P.length : Nat) : Int) := rfl
    have hlt := Nat.mod_lt i h0
    refine Ev.step (fun k => by rw [spec_Padded.l0]) (Ev.pos (by omega) (Ev.neg (by omega) ?_))
    rw [ht]
    refine Ev.pos (by omega) (Ev.pos (by omega) (Ev.pos (by omega) ?_))
    rw [w64_in (by omega) (by omega)]
    have := padded_from P h0 hP m hm d (i + 1) (by omega)
    rw [cyc_succ] at this
    exact this
theorem padded (pad : ByteArray) (h : utf8 pad) (hs : pad.size ≤ 500) (m : Nat) (hm : m ≤ 1000) (h0 : m = 0 ∨ 0 < (runesOf pad).length) : Ev (fun k => spec_Padded.f k pad (m : Int)) (ofCh (cyc (runesOf pad) m)) := by
  obtain ⟨b, hb⟩ := points_of pad h hs
  have hl := runesOf_length pad
  unfold spec_Padded.f
  rw [hb, ofCh_runes]
  simp only [Option.bind_some]
  rcases h0 with rfl | h0
  · refine Ev.step (fun k => by rw [spec_Padded.l0]) ?_
    exact Ev.neg (by omega) (Ev.ok _)
  · exact padded_from _ h0 (by omega) m hm m 0 (by omega)
theorem just_tells (s pad : ByteArray) (n : Int) (hs : utf8 s) (hp : utf8 pad) (hs5 : s.size ≤ 500) (_ : pad.size ≤ 500) (hn : n ≤ 300) :
    ∃ m : Nat, spec_missing.f s n pad = some (m : Int) ∧ m ≤ 800 ∧ (m = 0 ∨ 0 < (runesOf pad).length) ∧ LeftJustifyF s n pad = s ++ ofCh (cyc (runesOf pad) m) ∧
      RightJustifyF s n pad = ofCh (cyc (runesOf pad) m) ++ s ∧ CenterF s n pad = ofCh (cyc (runesOf pad) (m / 2)) ++ s ++ ofCh (cyc (runesOf pad) (m - m / 2)) := by
  obtain ⟨b, hb⟩ := points_of s hs hs5
  have hl := runesOf_length s
  have e0 : ofCh (cyc (runesOf pad) 0) = ByteArray.empty := rfl
  have z1 : s ++ ByteArray.empty = s := by simp
  have z2 : ByteArray.empty ++ s = s := by simp
  unfold spec_missing.f LeftJustifyF RightJustifyF CenterF
  rw [hb]
  simp only [Option.bind_some]
  by_cases c1 : pad.toList = []
  · refine ⟨0, by rw [if_pos c1]; rfl, by omega, .inl rfl, ?_⟩
    simp only [if_pos c1, ite_self, Nat.zero_div, Nat.sub_zero, e0, z1, z2, and_self]
  · by_cases c2 : n ≤ ((runesOf s).length : Int)
    · refine ⟨0, by rw [if_neg c1, if_pos c2]; rfl, by omega, .inl rfl, ?_⟩
      rw [if_pos (show ((runesOf s).length : Int) ≥ n from c2), if_pos (show ((runesOf s).length : Int) ≥ n from c2), if_pos (show ((runesOf s).length : Int) ≥ n from c2)]
      simp only [Nat.zero_div, Nat.sub_zero, e0, z1, z2, and_self]
    · have h0 := runes_pos c1
      obtain ⟨m, hm⟩ : ∃ m : Nat, m = (n - ((runesOf s).length : Int)).toNat := ⟨_, rfl⟩
      have hc2 : ¬ ((runesOf s).length : Int) ≥ n := c2
      refine ⟨m, by rw [if_neg c1, if_neg c2, w64_in (by omega) (by omega), hm]; congr 1; omega, by omega, .inr h0, ?_⟩
      rw [if_neg hc2, if_neg c1, if_neg hc2, if_neg c1, if_neg hc2, if_neg c1, ← hm, padB_cyc pad hp h0, padB_cyc pad hp h0, padB_cyc pad hp h0, show (m + 1) / 2 = m - m / 2 by omega]
      refine ⟨ba_ext ?_, ba_ext ?_, ba_ext ?_⟩
      · rw [append_list, ofCh_list]
      · rw [append_list, ofCh_list]
      · rw [append_list, append_list, ofCh_list, ofCh_list]
theorem cyc_size (pad : ByteArray) (m : Nat) (hm : m ≤ 1000) : (ofCh (cyc (runesOf pad) m)).size ≤ 4000 := by
  rw [ofCh_runes]
  have := foldl_size_le (cyc (runesOf pad) m) ByteArray.empty
  have hl : (cyc (runesOf pad) m).length = m := by simp [cyc]
  have h2 : (runesBytes (cyc (runesOf pad) m)).size ≤ 4 * (cyc (runesOf pad) m).length := by simpa [runesBytes] using this
  omega

theorem FnJustify : laws_FnJustify.Pure := by
  intro s n pad hs hn hp
  refine Ev.rounds (g := fun k => laws_FnJustify.f k s n pad) ?_
  unfold laws_FnJustify.f
  have far1 : Ev (fun k => laws_FnJustify.j1 k s n pad true) true := Ev.step (fun k => by rw [laws_FnJustify.j1]) (Ev.pos rfl (Ev.ok _))
  have far : Ev (fun k => laws_FnJustify.j0 k s n pad true) true := Ev.step (fun k => by rw [laws_FnJustify.j0]) (Ev.pos rfl (Ev.ok _))
  by_cases h1 : (s.size : Int) > 2147483647
  · exact Ev.pos h1 far
  refine Ev.neg h1 ?_
  by_cases h2 : (pad.size : Int) > 2147483647
  · rw [decide_eq_true h2]; exact far
  rw [decide_eq_false h2]
  refine Ev.step (fun k => by rw [laws_FnJustify.j0]) (Ev.neg Bool.false_ne_true ?_)
  obtain ⟨q, e, hq⟩ := text9_tells [s, pad] (by simp)
  refine Ev.bind e ?_
  cases q with
  | false => exact Ev.neg Bool.false_ne_true far1
  | true =>
    refine Ev.pos rfl ?_
    by_cases h3 : n > 300
    · rw [decide_eq_true h3]; exact far1
    rw [decide_eq_false h3]
    refine Ev.step (fun k => by rw [laws_FnJustify.j1]) (Ev.neg Bool.false_ne_true ?_)
    obtain ⟨hs5, hu⟩ := hq rfl s (by simp)
    obtain ⟨hp5, hup⟩ := hq rfl pad (by simp)
    obtain ⟨m, hmis, hm, hm0, hL, hR, hC⟩ := just_tells s pad n hu hup hs5 hp5 (by omega)
    have sm : small3 s n pad = true := by simp only [small3, Bool.and_eq_true, decide_eq_true_eq]; omega
    have iL : impl_LeftJustify.f s n pad = some (s ++ ofCh (cyc (runesOf pad) m)) := by
      unfold impl_LeftJustify.f xstrings_LeftJustify.f
      rw [if_pos sm, hL]; rfl
    have iR : impl_RightJustify.f s n pad = some (ofCh (cyc (runesOf pad) m) ++ s) := by
      unfold impl_RightJustify.f xstrings_RightJustify.f
      rw [if_pos sm, hR]; rfl
    have iC : impl_Center.f s n pad = some (ofCh (cyc (runesOf pad) (m / 2)) ++ s ++ ofCh (cyc (runesOf pad) (m - m / 2))) := by
      unfold impl_Center.f xstrings_Center.f
      rw [if_pos sm, hC]; rfl
    have iX : impl_Center.f (⟨#[97]⟩ : ByteArray) 3 (⟨#[45]⟩ : ByteArray) = some ⟨#[45, 97, 45]⟩ := by
      obtain ⟨m', e1, _, _, _, _, hC'⟩ := just_tells (⟨#[97]⟩ : ByteArray) (⟨#[45]⟩ : ByteArray) 3 (of_decide_eq_true (by decide +kernel)) (of_decide_eq_true (by decide +kernel)) (by decide) (by decide) (by decide)
      have e2 : spec_missing.f (⟨#[97]⟩ : ByteArray) 3 (⟨#[45]⟩ : ByteArray) = some 2 := by decide +kernel
      rw [e2] at e1
      obtain rfl : m' = 2 := by injection e1 with e1; omega
      unfold impl_Center.f xstrings_Center.f
      rw [if_pos (by decide), hC']
      decide +kernel
    have z1 := cyc_size pad m (by omega)
    have z2 := cyc_size pad (m / 2) (by omega)
    have z3 := cyc_size pad (m - m / 2) (by omega)
    have p1 := padded pad hup hp5 m (by omega) hm0
    have p2 := padded pad hup hp5 (m / 2) (by omega) (hm0.imp (fun h => by omega) id)
    have p3 := padded pad hup hp5 (m - m / 2) (by omega) (hm0.imp (fun h => by omega) id)
    have sL : Ev (fun k => spec_LeftJustify.f k s n pad) (s ++ ofCh (cyc (runesOf pad) m)) := by
      unfold spec_LeftJustify.f
      rw [hmis]
      exact Ev.bind (Ev.ok _) (Ev.bind p1 (Ev.pos (by omega) (Ev.ok _)))
    have sR : Ev (fun k => spec_RightJustify.f k s n pad) (ofCh (cyc (runesOf pad) m) ++ s) := by
      unfold spec_RightJustify.f
      rw [hmis]
      exact Ev.bind (Ev.ok _) (Ev.bind p1 (Ev.pos (by omega) (Ev.ok _)))
    have sC : Ev (fun k => spec_Center.f k s n pad) (ofCh (cyc (runesOf pad) (m / 2)) ++ s ++ ofCh (cyc (runesOf pad) (m - m / 2))) := by
      unfold spec_Center.f
      rw [hmis]
      have d1 : (m : Int) / 2 = ((m / 2 : Nat) : Int) := by omega
      have d2 : (m : Int) - (m : Int) / 2 = ((m - m / 2 : Nat) : Int) := by omega
      refine Ev.bind (Ev.ok _) (Ev.pos (by omega) ?_)
      rw [d2, d1]
      exact Ev.bind p2 (Ev.bind p3 (Ev.pos (by rw [ByteArray.size_append]; omega) (Ev.ok _)))
    rw [iL, iR, iC, iX]
    refine Ev.bind (Ev.ok _) (Ev.bind sL (Ev.pos rfl ?_))
    refine Ev.bind (Ev.ok _) (Ev.bind sR (Ev.pos rfl ?_))
    refine Ev.bind (Ev.ok _) (Ev.bind sC (Ev.pos rfl ?_))
    exact Ev.bind (Ev.ok _) (Ev.eq (by decide +kernel) (Ev.ok _))
end Go.Proofs.YtbcccmoddbmffaaDoor.Pure
