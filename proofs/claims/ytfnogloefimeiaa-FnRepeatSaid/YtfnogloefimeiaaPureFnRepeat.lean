/- A text so many times is what the plain loop writes, and a number below 0 is refused, for every text and every number. Nothing is assumed but what every Go string and int fulfils. -/
import Derived.Test.YtfnogloefimeiaaPx13
import Derived.Test.YtfnogloefimeiaaT9
namespace Go.Proofs.Ytfnogloefimeiaa.Pure
open Go.RowKit Go.Proofs.Ytfnogloefimeiaa.P Go.Proofs.YtfnogloefimeiaaW.PrintWords Go.Proofs.YtfnogloefimeiaaW.PrintLast

theorem rep_loop (s : ByteArray) (n : Nat) (hn : n ≤ 50) (hs : s.size ≤ 500) : ∀ (d j : Nat) (acc : ByteArray), j + d = n → acc.data.toList = Lib.repeatL s.data.toList j →
    ∃ r : ByteArray, Ev (fun k => spec_Repeat.l0 k s acc n j) r ∧ r.data.toList = Lib.repeatL s.data.toList n
  | 0, j, acc, hd, ha => ⟨acc, Ev.step (fun k => by rw [spec_Repeat.l0]) (Ev.neg (by omega) (Ev.ok _)), by rw [ha, show j = n by omega]⟩
  | d + 1, j, acc, hd, ha => by
    have hl : acc.size = j * s.size := by rw [← size_list acc, ha, Lib.repeatL_length, size_list]
    have hj : j * s.size ≤ 50 * 500 := Nat.mul_le_mul (by omega) hs
    obtain ⟨r, e, hr⟩ := rep_loop s n hn hs d (j + 1) (acc ++ s) (by omega) (by rw [append_list, ha, Lib.repeatL_add, Lib.repeatL_one])
    refine ⟨r, Ev.step (fun k => by rw [spec_Repeat.l0, show wrap64 ((j : Int) + 1) = ((j + 1 : Nat) : Int) by rw [w64_in (by omega) (by omega)]; rfl]) (Ev.pos (by omega) (Ev.pos (by omega) e)), hr⟩

theorem FnRepeat : laws_FnRepeat.Pure := by
  intro n s hn hs
  refine Ev.rounds (g := fun k => laws_FnRepeat.f k n s) ?_
  unfold laws_FnRepeat.f
  have far : Ev (fun k => laws_FnRepeat.j0 k n s true) true := Ev.step (fun k => by rw [laws_FnRepeat.j0]) (Ev.pos rfl (Ev.ok _))
  by_cases h1 : (s.size : Int) > 2147483647
  · exact Ev.pos h1 (Ev.ok _)
  refine Ev.neg h1 ?_
  by_cases h2 : n > 50
  · exact Ev.pos h2 far
  refine Ev.neg h2 ?_
  obtain ⟨b, e, hb⟩ := text9_tells [s] (by simp)
  refine Ev.bind e ?_
  cases b with
  | false => exact Ev.neg Bool.false_ne_true far
  | true =>
    refine Ev.pos rfl ?_
    have hs5 : s.size ≤ 500 := (hb rfl s (by simp)).1
    by_cases h3 : wrap64 (n * (s.size : Int)) > 5000
    · rw [decide_eq_true h3]; exact far
    rw [decide_eq_false h3]
    have one : impl_Repeat.f 1 (⟨#[97]⟩ : ByteArray) = some (⟨#[97]⟩, true) := by
      unfold impl_Repeat.f sprig_Repeat.f sprig_repeat.f strings_Repeat.f
      rfl
    by_cases h4 : n < 0
    · have two : impl_Repeat.f n s = some (ByteArray.empty, false) := by
        unfold impl_Repeat.f
        rw [if_pos h4]
      refine Ev.step (fun k => by rw [laws_FnRepeat.j0, one, two]) (Ev.neg Bool.false_ne_true ?_)
      refine Ev.bind (Ev.ok _) (Ev.bind (Ev.ok _) (Ev.pos h4 (Ev.pos rfl (Ev.ok _))))
    · obtain ⟨m, rfl⟩ : ∃ m : Nat, n = m := ⟨n.toNat, by omega⟩
      have hm : s.size * m ≤ 500 * 50 := Nat.mul_le_mul hs5 (by omega)
      have two : impl_Repeat.f m s = some (⟨(Lib.repeatL s.data.toList m).toArray⟩, true) := by
        unfold impl_Repeat.f sprig_Repeat.f sprig_repeat.f strings_Repeat.f
        rw [if_neg h4, if_pos ⟨by omega, by omega, by rw [Int.toNat_natCast]; omega⟩, Int.toNat_natCast]
        rfl
      refine Ev.step (fun k => by rw [laws_FnRepeat.j0, one, two]) (Ev.neg Bool.false_ne_true ?_)
      obtain ⟨r, er, hr⟩ := rep_loop s m (by omega) hs5 m 0 ⟨#[]⟩ (by omega) (by cases s.data.toList <;> rfl)
      refine Ev.bind (Ev.ok _) (Ev.bind (Ev.ok _) (Ev.neg h4 (Ev.pos rfl (Ev.bind (by unfold spec_Repeat.f; exact er) (Ev.eq ?_ (Ev.ok _))))))
      rw [beq_iff_eq, ByteArray.toList_eq, ByteArray.toList_eq, hr]
end Go.Proofs.Ytfnogloefimeiaa.Pure
