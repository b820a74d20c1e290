/- A part that is put into a text stands there, and the text without it is the text: for every two texts and every place. Nothing is assumed but what every Go string and int fulfils, and the two tables of unicode/utf8. -/
import Derived.Test.YtbcccmoddbmffaaDoorPx15
import Derived.Test.YtbcccmoddbmffaaDoorU8b
import Derived.Test.YtbcccmoddbmffaaDoorPureFnInsertAt
namespace Go.Proofs.YtbcccmoddbmffaaDoor.Pure
open Go.RowKit Go.Proofs.YtbcccmoddbmffaaDoor.P Go.Proofs.YtbcccmoddbmffaaDoorW.PrintWords Go.Proofs.YtbcccmoddbmffaaDoorW.PrintLast

theorem slice_ok {s : ByteArray} {a : Int} (hs : s.size ≤ 1000000) (ha : a ≤ 9223372036854775807) : sliceOk s a = true := by
  simp only [sliceOk, Bool.and_eq_true, decide_eq_true_eq]
  omega
theorem impl_slice_some {s r : ByteArray} {a b : Int} (hs : s.size ≤ 1000000) (ha : a ≤ 9223372036854775807) (h : sliceF s a b = some r) : impl_SliceText.f s a b = some (r, true) := by
  unfold impl_SliceText.f
  rw [if_neg (by rw [h]; simp)]
  unfold xstrings_Slice.f
  rw [if_pos (slice_ok hs ha), h]
  rfl
theorem le_63 {k : Nat} (h : k ≤ 1000000) : (k : Int) ≤ 9223372036854775807 := by omega
theorem cut_out (A B C : List UInt8) (m : Nat) (hm : m = (A ++ (B ++ C)).length) : (A ++ (B ++ C)).take A.length ++ ((A ++ (B ++ C)).drop (A.length + B.length)).take (m - (A.length + B.length)) = A ++ C := by
  have h : (A ++ (B ++ C)).drop (A.length + B.length) = C := by rw [← List.drop_drop, List.drop_left, List.drop_left]
  rw [List.take_left, h, List.take_of_length_le]
  rw [hm, List.length_append, List.length_append]
  omega
/-- The three slices of a text in three parts. -/
theorem slices (out : ByteArray) (X Y Z : List Int) (h : out.data.toList = X.flatMap enc ++ (Y.flatMap enc ++ Z.flatMap enc)) (hX : ∀ c ∈ X, okPoint c) (hY : ∀ c ∈ Y, okPoint c) :
    sliceF out (X.length : Int) ((X.length + Y.length : Nat) : Int) = some (out.extract (X.flatMap enc).length ((X.flatMap enc).length + (Y.flatMap enc).length)) ∧
    sliceF out 0 (X.length : Int) = some (out.extract 0 (X.flatMap enc).length) ∧
    sliceF out ((X.length + Y.length : Nat) : Int) (-1) = some (out.extract ((X.flatMap enc).length + (Y.flatMap enc).length) out.size) := by
  have a1 : adv out 0 X.length = ((X.flatMap enc).length, 0) := by
    have := adv_over out X [] (Y.flatMap enc ++ Z.flatMap enc) (by rw [h]; rfl) hX
    rw [List.length_nil, Nat.zero_add] at this
    exact this
  have a2 : adv out (X.flatMap enc).length Y.length = ((X.flatMap enc).length + (Y.flatMap enc).length, 0) := adv_over out Y (X.flatMap enc) (Z.flatMap enc) h hY
  have a3 : adv out 0 (X.length + Y.length) = ((X.flatMap enc).length + (Y.flatMap enc).length, 0) := by rw [adv_add out _ 0 Y.length _ a1, a2]
  have l1 := chars_le X hX
  have l2 := chars_le Y hY
  have sz : out.size = (X.flatMap enc).length + ((Y.flatMap enc).length + (Z.flatMap enc).length) := by
    rw [← size_list, h, List.length_append, List.length_append]
  refine ⟨?_, slice_head out _ _ (by omega) a1, slice_tail out _ _ a3⟩
  unfold sliceF
  rw [if_neg (by omega), Int.toNat_natCast, a1, if_neg (show ¬ 0 < (((X.flatMap enc).length, 0) : Nat × Nat).2 from Nat.lt_irrefl 0), if_neg (by omega),
    show (((X.length + Y.length : Nat) : Int) - (X.length : Int)).toNat = Y.length by omega]
  show (if 0 < (adv out (X.flatMap enc).length Y.length).2 then none else some (out.extract (X.flatMap enc).length (adv out (X.flatMap enc).length Y.length).1)) = _
  rw [a2, if_neg (show ¬ 0 < (((X.flatMap enc).length + (Y.flatMap enc).length, 0) : Nat × Nat).2 from Nat.lt_irrefl 0)]

theorem FnSliceInsert : laws_FnSliceInsert.Pure := by
  intro s p a hs hp ha
  refine Ev.rounds (g := fun k => laws_FnSliceInsert.f k s p a) ?_
  unfold laws_FnSliceInsert.f
  have far : Ev (fun k => laws_FnSliceInsert.j0 k s p a true) true := Ev.step (fun k => by rw [laws_FnSliceInsert.j0]) (Ev.pos rfl (Ev.ok _))
  have far1 : Ev (fun k => laws_FnSliceInsert.j1 k s p a true) true := Ev.step (fun k => by rw [laws_FnSliceInsert.j1]) (Ev.pos rfl (Ev.ok _))
  by_cases h1 : (s.size : Int) > 2147483647
  · exact Ev.pos h1 far
  refine Ev.neg h1 ?_
  by_cases h2 : (p.size : Int) > 2147483647
  · rw [decide_eq_true h2]; exact far
  rw [decide_eq_false h2]
  refine Ev.step (fun k => by rw [laws_FnSliceInsert.j0]) (Ev.neg Bool.false_ne_true ?_)
  obtain ⟨b, e, hb⟩ := text9_tells [s, p] (by simp)
  refine Ev.bind e ?_
  cases b with
  | false => exact Ev.neg Bool.false_ne_true far1
  | true =>
    refine Ev.pos rfl ?_
    obtain ⟨hs5, hu⟩ := hb rfl s (by simp)
    obtain ⟨hp5, hup⟩ := hb rfl p (by simp)
    have ha2 := wf_le ha
    have len : ∀ t : ByteArray, t.size ≤ 500 → impl_LenOf.f t = some ((runesOf t).length : Int) := by
      intro t ht
      unfold impl_LenOf.f xstrings_Len.f utf8_RuneCountInString.f
      rw [if_pos (by omega)]
      rfl
    by_cases c1 : a < 0
    · exact Ev.pos c1 far1
    refine Ev.neg c1 (Ev.bind (by rw [len s hs5]; exact Ev.ok _) ?_)
    by_cases c2 : a > ((runesOf s).length : Int)
    · rw [decide_eq_true c2]; exact far1
    rw [decide_eq_false c2]
    obtain ⟨n, rfl⟩ : ∃ n : Nat, a = n := ⟨a.toNat, by omega⟩
    have hn : n ≤ (runesOf s).length := by omega
    have hl := runesOf_length s
    have hlp := runesOf_length p
    have hins := insert_at s p hu n hn
    obtain ⟨out, hout⟩ : ∃ out, out = runesBytes ((runesOf s).take n) ++ p ++ runesBytes ((runesOf s).drop n) := ⟨_, rfl⟩
    rw [← hout] at hins
    have hol : out.data.toList = ((runesOf s).take n).flatMap enc ++ ((runesOf p).flatMap enc ++ ((runesOf s).drop n).flatMap enc) := by
      have hpp : p.data.toList = (runesOf p).flatMap enc := by
        conv => lhs; rw [← hup.1]
        rw [runesBytes_list]; rfl
      rw [hout, append_list, append_list, runesBytes_list, runesBytes_list, hpp, List.append_assoc]
      rfl
    have okS := chain_ok s s.size 0 hu.2 (Nat.zero_le _) (by omega)
    have okP := chain_ok p p.size 0 hup.2 (Nat.zero_le _) (by omega)
    obtain ⟨s1, s2, s3⟩ := slices out ((runesOf s).take n) (runesOf p) ((runesOf s).drop n) hol (fun c hc => okS c (List.mem_of_mem_take hc)) okP
    have hX : ((runesOf s).take n).length = n := by rw [List.length_take]; omega
    rw [hX] at s1 s2 s3
    have z1 := runesBytes_size_le ((runesOf s).take n)
    have z2 := runesBytes_size_le ((runesOf s).drop n)
    rw [List.length_take] at z1
    rw [List.length_drop] at z2
    have hos : out.size ≤ 1000000 := by rw [hout, ByteArray.size_append, ByteArray.size_append]; omega
    have w1 : wrap64 ((n : Int) + ((runesOf p).length : Int)) = ((n + (runesOf p).length : Nat) : Int) := by
      rw [w64_in (by omega) (by omega)]; rfl
    have p1 : out.extract (((runesOf s).take n).flatMap enc).length ((((runesOf s).take n).flatMap enc).length + ((runesOf p).flatMap enc).length) = p := by
      apply ba_ext
      rw [extract_list, hol, List.drop_left, Nat.add_sub_cancel_left, List.take_left]
      conv => rhs; rw [← hup.1]
      rw [runesBytes_list]; rfl
    have p2 : (out.extract 0 (((runesOf s).take n).flatMap enc).length ++ out.extract ((((runesOf s).take n).flatMap enc).length + ((runesOf p).flatMap enc).length) out.size) = s := by
      apply ba_ext
      have hm : out.size = (((runesOf s).take n).flatMap enc ++ ((runesOf p).flatMap enc ++ ((runesOf s).drop n).flatMap enc)).length := by rw [← hol, size_list]
      rw [append_list, extract_list, extract_list, List.drop_zero, Nat.sub_zero, hol, cut_out _ _ _ _ hm, ← List.flatMap_append, List.take_append_drop]
      conv => rhs; rw [← hu.1]
      rw [runesBytes_list]; rfl
    have b1 : Ev (fun _ => impl_InsertAt.f s p (n : Int)) (out, true) := by rw [impl_insert_some hs5 hp5 ha2 hins]; exact Ev.ok _
    have b2 : Ev (fun _ => impl_LenOf.f p) ((runesOf p).length : Int) := by rw [len p hp5]; exact Ev.ok _
    have hnm : n + (runesOf p).length ≤ 1000000 := Nat.le_trans (Nat.add_le_add (Nat.le_trans hn (Nat.le_trans hl hs5)) (Nat.le_trans hlp hp5)) (by decide)
    have b3 := impl_slice_some hos ha2 s1
    have b4 := impl_slice_some hos (show (0 : Int) ≤ 9223372036854775807 by decide) s2
    have b5 := impl_slice_some hos (le_63 hnm) s3
    generalize out.extract 0 (((runesOf s).take n).flatMap enc).length = r2 at *
    generalize out.extract ((((runesOf s).take n).flatMap enc).length + ((runesOf p).flatMap enc).length) out.size = r3 at *
    generalize out.extract (((runesOf s).take n).flatMap enc).length ((((runesOf s).take n).flatMap enc).length + ((runesOf p).flatMap enc).length) = r1 at *
    have hz : r2.size + r3.size ≤ 9223372036854775807 := by rw [← ByteArray.size_append, p2]; omega
    clear hol s1 s2 s3 hins okS okP z1 z2 hX hout
    refine Ev.step (fun k => by rw [laws_FnSliceInsert.j1]) ?_
    refine Ev.neg Bool.false_ne_true ?_
    refine Ev.bind b1 ?_
    refine Ev.bind b2 ?_
    simp only [w1, b3, b4, b5, Option.bind_some]
    refine Ev.pos trivial ?_
    refine Ev.pos trivial ?_
    refine Ev.pos trivial ?_
    refine Ev.pos trivial ?_
    refine Ev.pos (by rw [p1]) ?_
    refine Ev.pos hz ?_
    rw [p2]
    exact Ev.eq (beq_iff_eq.2 rfl) (Ev.ok _)
end Go.Proofs.YtbcccmoddbmffaaDoor.Pure
