/- The first bytes of a text and its last ones are the text, for every text and every number of bytes. Nothing is assumed but what every Go string and int fulfils. -/
import Derived.Test.YtfnogloefimeiaaPx4
namespace Go.Proofs.Ytfnogloefimeiaa.Pure
open Go.RowKit Go.Proofs.Ytfnogloefimeiaa.P Go.Proofs.YtfnogloefimeiaaW.PrintWords Go.Proofs.YtfnogloefimeiaaW.PrintLast

theorem trunc_first (n : Int) (s : ByteArray) (h0 : 1 ≤ n) (h1 : n < s.size) : Ev (fun k => impl_Trunc.f k n s) (s.extract 0 n.toNat, true) := by
  unfold impl_Trunc.f sprig_Trunc.f sprig_trunc.f
  refine Ev.bind (a := s.extract 0 n.toNat) (Ev.bind (a := s.extract 0 n.toNat) (Ev.neg (by omega) ?_) (Ev.ok _)) (Ev.ok _)
  refine Ev.step (fun k => by rw [sprig_trunc.j0]) ?_
  exact Ev.neg Bool.false_ne_true (Ev.pos (by omega) (Ev.pos (by omega) (Ev.pos (by omega) (Ev.pos (by omega) (Ev.ok _)))))
theorem trunc_last (n : Int) (s : ByteArray) (h0 : n < 0) (h1 : -n < s.size) (hs : s.size ≤ 500) : Ev (fun k => impl_Trunc.f k n s) (s.extract ((s.size : Int) + n).toNat s.size, true) := by
  unfold impl_Trunc.f sprig_Trunc.f sprig_trunc.f
  have hw : wrap64 ((s.size : Int) + n) = (s.size : Int) + n := w64_in (by omega) (by omega)
  rw [hw, decide_eq_true (by omega)]
  refine Ev.bind (a := s.extract ((s.size : Int) + n).toNat s.size) (Ev.bind (a := s.extract ((s.size : Int) + n).toNat s.size) (Ev.pos h0 ?_) (Ev.ok _)) (Ev.ok _)
  refine Ev.step (fun k => by rw [sprig_trunc.j0, hw]) ?_
  exact Ev.pos rfl (Ev.pos (by omega) (Ev.pos (by omega) (Ev.ok _)))

theorem FnTruncBoth : laws_FnTruncBoth.Pure := by
  intro n s hn hs
  refine Ev.rounds (g := fun k => laws_FnTruncBoth.f k n s) ?_
  unfold laws_FnTruncBoth.f
  have far : Ev (fun k => laws_FnTruncBoth.j0 k n s true) true := Ev.step (fun k => by rw [laws_FnTruncBoth.j0]) (Ev.pos rfl (Ev.ok _))
  by_cases h1 : (s.size : Int) > 2147483647
  · exact Ev.pos h1 (Ev.ok _)
  refine Ev.neg h1 ?_
  by_cases h2 : n < 1
  · exact Ev.pos h2 far
  refine Ev.neg h2 ?_
  by_cases h3 : n ≥ (s.size : Int)
  · exact Ev.pos h3 far
  refine Ev.neg h3 ?_
  by_cases h4 : (s.size : Int) > 500
  · rw [decide_eq_true h4]; exact far
  rw [decide_eq_false h4]
  have hw : wrap64 (n - (s.size : Int)) = n - (s.size : Int) := w64_in (by omega) (by omega)
  refine Ev.step (fun k => by rw [laws_FnTruncBoth.j0, hw]) (Ev.neg Bool.false_ne_true ?_)
  refine Ev.bind (trunc_first n s (by omega) (by omega)) (Ev.bind (trunc_last (n - (s.size : Int)) s (by omega) (by omega) (by omega)) ?_)
  refine Ev.pos rfl (Ev.pos rfl (Ev.pos ?_ (Ev.eq ?_ (Ev.ok _))))
  · simp only [ByteArray.size_extract]
    omega
  · rw [beq_iff_eq, ByteArray.toList_eq, ByteArray.toList_eq, append_list, extract_list, extract_list]
    rw [show ((s.size : Int) + (n - (s.size : Int))).toNat = n.toNat by omega, List.take_of_length_le (l := s.data.toList.drop n.toNat) (by simp)]
    simp
end Go.Proofs.Ytfnogloefimeiaa.Pure
