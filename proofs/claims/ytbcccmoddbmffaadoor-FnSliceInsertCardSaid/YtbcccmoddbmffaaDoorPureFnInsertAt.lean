/- A text within another one, at a place by characters; refused at other places: for every two texts and every place. Nothing is assumed but what every Go string and int fulfils, and the two tables of unicode/utf8. -/
import Derived.Test.YtbcccmoddbmffaaDoorPx13
import Derived.Test.YtbcccmoddbmffaaDoorU8
namespace Go.Proofs.YtbcccmoddbmffaaDoor.Pure
open Go.RowKit Go.Proofs.YtbcccmoddbmffaaDoor.P Go.Proofs.YtbcccmoddbmffaaDoorW.PrintWords Go.Proofs.YtbcccmoddbmffaaDoorW.PrintLast

theorem wf_le {a : Int} (h : (Lit.int .i64 a).wf = true) : a ≤ 9223372036854775807 := by
  simp [Lit.wf] at h
  omega
/-- The n-th character's place. -/
theorem place_of (s : ByteArray) (h : utf8 s) (n : Nat) (hn : n ≤ (runesOf s).length) : ∃ q, adv s 0 n = (q, 0) ∧ q ≤ s.size ∧
    runesBytes ((runesOf s).take n) = s.extract 0 q ∧ runesBytes ((runesOf s).drop n) = s.extract q s.size := by
  obtain ⟨q, b', h1, h2, h3, h4, h5, h6, h7⟩ := chain s n s.size 0 h.2 (Nat.zero_le _) (by omega) hn
  refine ⟨q, h1, h3, ba_ext ?_, ba_ext ?_⟩
  · rw [runesBytes_list, extract_list]
    exact h7
  · rw [runesBytes_list, extract_list, show (runesOf s).drop n = runesGo s b' q from h6, List.take_of_length_le (by rw [List.length_drop, size_list]; omega)]
    exact chain_all s b' q h5 h3 h4
theorem slice_head (s : ByteArray) (n q : Nat) (hn : n ≤ s.size) (h : adv s 0 n = (q, 0)) : sliceF s 0 (n : Int) = some (s.extract 0 q) := by
  unfold sliceF
  rw [if_neg (by omega), show ((0 : Int)).toNat = 0 from rfl, adv_zero, if_neg (by decide), if_neg (by omega), show ((n : Int) - 0).toNat = n by omega, h, if_neg (show ¬ 0 < ((q, 0) : Nat × Nat).2 from Nat.lt_irrefl 0)]
theorem slice_tail (s : ByteArray) (n q : Nat) (h : adv s 0 n = (q, 0)) : sliceF s (n : Int) (-1) = some (s.extract q s.size) := by
  unfold sliceF
  rw [if_neg (by omega), Int.toNat_natCast, h, if_neg (show ¬ 0 < ((q, 0) : Nat × Nat).2 from Nat.lt_irrefl 0), if_pos (by decide)]
theorem insert_at (s p : ByteArray) (h : utf8 s) (n : Nat) (hn : n ≤ (runesOf s).length) : insertF s p (n : Int) = some (runesBytes ((runesOf s).take n) ++ p ++ runesBytes ((runesOf s).drop n)) := by
  obtain ⟨q, h1, h2, h3, h4⟩ := place_of s h n hn
  have hl := runesOf_length s
  unfold insertF
  rw [slice_head s n q (by omega) h1, slice_tail s n q h1, h3, h4]
  rfl
theorem insert_below (s p : ByteArray) (a : Int) (ha : a < 0) : insertF s p a = none := by
  unfold insertF
  have : sliceF s a (-1) = none := by unfold sliceF; exact if_pos (.inl ha)
  rw [this]
  cases sliceF s 0 a <;> rfl
theorem insert_beyond (s p : ByteArray) (h : utf8 s) (a : Int) (ha : a > ((runesOf s).length : Int)) : insertF s p a = none := by
  unfold insertF
  have : sliceF s 0 a = none := by
    unfold sliceF
    by_cases hb : a > (s.size : Int)
    · exact if_pos (.inr (.inl hb))
    · rw [if_neg (by omega), show ((0 : Int)).toNat = 0 from rfl, adv_zero, if_neg (by decide), if_neg (by omega)]
      have hm : (a - 0).toNat = (runesOf s).length + (a.toNat - (runesOf s).length) := by omega
      have ho := chain_over s s.size 0 (a.toNat - (runesOf s).length) h.2 (Nat.zero_le _) (by omega)
      rw [hm, show adv s 0 ((runesOf s).length + (a.toNat - (runesOf s).length)) = (s.size, a.toNat - (runesOf s).length) from ho, if_pos (by show 0 < a.toNat - (runesOf s).length; omega)]
  rw [this]
  rfl
theorem points_of (s : ByteArray) (h : utf8 s) (hs : s.size ≤ 500) : ∃ b, spec_Points.f s = some (runesOf s, b) := by
  unfold spec_Points.f
  rw [if_pos (by omega)]
  simp only [Option.bind_some]
  rw [if_pos (by rw [h.1])]
  unfold spec_replaced.f
  rw [if_pos (by omega)]
  exact ⟨_, rfl⟩
theorem insert_ok {s p : ByteArray} {a : Int} (hs : s.size ≤ 500) (hp : p.size ≤ 500) (ha : a ≤ 9223372036854775807) : insertOk s p a = true := by
  simp only [insertOk, Bool.and_eq_true, decide_eq_true_eq]
  omega
theorem impl_insert_none {s p : ByteArray} {a : Int} (hs : s.size ≤ 500) (hp : p.size ≤ 500) (ha : a ≤ 9223372036854775807) (h : insertF s p a = none) : impl_InsertAt.f s p a = some (ByteArray.empty, false) := by
  unfold impl_InsertAt.f
  rw [if_pos ⟨insert_ok hs hp ha, by rw [h]; rfl⟩]
theorem impl_insert_some {s p r : ByteArray} {a : Int} (hs : s.size ≤ 500) (hp : p.size ≤ 500) (ha : a ≤ 9223372036854775807) (h : insertF s p a = some r) : impl_InsertAt.f s p a = some (r, true) := by
  unfold impl_InsertAt.f
  rw [if_neg (by rw [h]; simp)]
  unfold xstrings_Insert.f
  rw [if_pos (insert_ok hs hp ha), h]
  rfl
theorem runesBytes_size_le (xs : List Int) : (runesBytes xs).size ≤ 4 * xs.length := by
  have := foldl_size_le xs ByteArray.empty
  simpa [runesBytes] using this

theorem FnInsertAt : laws_FnInsertAt.Pure := by
  intro s p a hs hp ha
  refine Ev.rounds (g := fun k => laws_FnInsertAt.f k s p a) ?_
  unfold laws_FnInsertAt.f
  have far : Ev (fun k => laws_FnInsertAt.j0 k s p a true) true := Ev.step (fun k => by rw [laws_FnInsertAt.j0]) (Ev.pos rfl (Ev.ok _))
  by_cases h1 : (s.size : Int) > 2147483647
  · exact Ev.pos h1 far
  refine Ev.neg h1 ?_
  by_cases h2 : (p.size : Int) > 2147483647
  · rw [decide_eq_true h2]; exact far
  rw [decide_eq_false h2]
  refine Ev.step (fun k => by rw [laws_FnInsertAt.j0]) (Ev.neg Bool.false_ne_true ?_)
  obtain ⟨b, e, hb⟩ := text9_tells [s, p] (by simp)
  refine Ev.bind e ?_
  cases b with
  | false => exact Ev.neg Bool.false_ne_true (Ev.ok _)
  | true =>
    refine Ev.pos rfl ?_
    obtain ⟨hs5, hu⟩ := hb rfl s (by simp)
    obtain ⟨hp5, _⟩ := hb rfl p (by simp)
    have ha2 := wf_le ha
    obtain ⟨b2, hP⟩ := points_of s hu hs5
    by_cases c1 : a < 0
    · have sp : spec_InsertAt.f s p a = some (⟨#[]⟩, false) := by
        unfold spec_InsertAt.f
        rw [hP]
        simp only [Option.bind_some]
        rw [if_pos c1]
      rw [sp, impl_insert_none hs5 hp5 ha2 (insert_below s p a c1)]
      exact Ev.bind (Ev.ok _) (Ev.bind (Ev.ok _) (Ev.pos rfl (Ev.neg Bool.false_ne_true (Ev.ok _))))
    by_cases c2 : a > ((runesOf s).length : Int)
    · have sp : spec_InsertAt.f s p a = some (⟨#[]⟩, false) := by
        unfold spec_InsertAt.f
        rw [hP]
        simp only [Option.bind_some]
        rw [if_neg c1, if_pos c2]
      rw [sp, impl_insert_none hs5 hp5 ha2 (insert_beyond s p hu a c2)]
      exact Ev.bind (Ev.ok _) (Ev.bind (Ev.ok _) (Ev.pos rfl (Ev.neg Bool.false_ne_true (Ev.ok _))))
    obtain ⟨n, rfl⟩ : ∃ n : Nat, a = n := ⟨a.toNat, by omega⟩
    have hn : n ≤ (runesOf s).length := by omega
    have hl := runesOf_length s
    have z1 := runesBytes_size_le ((runesOf s).take n)
    have z2 := runesBytes_size_le ((runesOf s).drop n)
    rw [List.length_take] at z1
    rw [List.length_drop] at z2
    have sp : spec_InsertAt.f s p (n : Int) = some (runesBytes ((runesOf s).take n) ++ p ++ runesBytes ((runesOf s).drop n), true) := by
      unfold spec_InsertAt.f
      rw [hP]
      simp only [Option.bind_some]
      rw [if_neg c1, if_neg c2, if_pos (by omega), if_pos (by omega), Int.toNat_natCast, if_pos (by omega), if_pos (by rw [ByteArray.size_append]; omega)]
    rw [sp, impl_insert_some hs5 hp5 ha2 (insert_at s p hu n hn)]
    exact Ev.bind (Ev.ok _) (Ev.bind (Ev.ok _) (Ev.pos rfl (Ev.pos rfl (Ev.eq (beq_iff_eq.2 rfl) (Ev.ok _)))))
end Go.Proofs.YtbcccmoddbmffaaDoor.Pure
