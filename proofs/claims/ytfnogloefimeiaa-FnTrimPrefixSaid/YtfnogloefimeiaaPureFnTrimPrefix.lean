/- A text without a beginning: for every two texts the package's answer is the specification's, and the beginning of a text that has it ahead goes. Nothing is assumed but what every Go string fulfils. -/
import Derived.Test.YtfnogloefimeiaaPx2
import Derived.Test.YtfnogloefimeiaaT9
namespace Go.Proofs.Ytfnogloefimeiaa.Pure
open Go.RowKit Go.Proofs.Ytfnogloefimeiaa.P Go.Proofs.YtfnogloefimeiaaW.PrintWords Go.Proofs.YtfnogloefimeiaaW.PrintLast

def tp (b s : ByteArray) : ByteArray := if b.size ≤ s.size ∧ (s.extract 0 b.size).toList = b.toList then s.extract b.size s.size else s
theorem impl_tp (b s : ByteArray) : impl_TrimPrefix.f b s = some (tp b s) := by
  unfold impl_TrimPrefix.f sprig_TrimPrefix.f sprig_trimPrefix.f strings_TrimPrefix.f stringslite_TrimPrefix.f stringslite_HasPrefix.f tp
  by_cases h1 : b.size ≤ s.size
  · have h2 : (s.size : Int) ≥ (b.size : Int) := by omega
    by_cases h3 : (s.extract 0 b.size).toList = b.toList
    · simp [h1, h3]
    · simp [h1, h3]
  · have h2 : ¬ (s.size : Int) ≥ (b.size : Int) := by omega
    simp [h1]
theorem spec_tp (b s : ByteArray) : spec_TrimPrefix.f b s = some (tp b s) := by
  unfold spec_TrimPrefix.f spec_Begins.f tp
  by_cases h1 : b.size ≤ s.size
  · have h2 : (s.size : Int) ≥ (b.size : Int) := by omega
    by_cases h3 : (s.extract 0 b.size).toList = b.toList
    · simp [h1, h3]
    · simp [h1, h3]
  · have h2 : ¬ (s.size : Int) ≥ (b.size : Int) := by omega
    simp [h1]
theorem tp_back (b s : ByteArray) : tp b (b ++ s) = s := by
  have h : b.size ≤ (b ++ s).size ∧ ((b ++ s).extract 0 b.size).toList = b.toList := by
    refine ⟨by rw [ByteArray.size_append]; omega, ?_⟩
    rw [ByteArray.toList_eq, ByteArray.toList_eq, extract_list, append_list]
    simp
  unfold tp
  rw [if_pos h]
  apply ba_ext
  rw [extract_list, append_list]
  simp only [ByteArray.size_append]
  rw [List.drop_left' (by simp), List.take_of_length_le (by simp)]

theorem FnTrimPrefix : laws_FnTrimPrefix.Pure := by
  intro a b ha hb
  refine Ev.rounds (g := fun k => laws_FnTrimPrefix.f k a b) ?_
  unfold laws_FnTrimPrefix.f
  have far : Ev (fun k => laws_FnTrimPrefix.j0 k a b true) true := Ev.step (fun k => by rw [laws_FnTrimPrefix.j0]) (Ev.pos rfl (Ev.ok _))
  by_cases h1 : (a.size : Int) > 2147483647
  · exact Ev.pos h1 far
  refine Ev.neg h1 ?_
  by_cases h2 : (b.size : Int) > 2147483647
  · rw [decide_eq_true h2]; exact far
  rw [decide_eq_false h2]
  refine Ev.step (fun k => by rw [laws_FnTrimPrefix.j0]) (Ev.neg Bool.false_ne_true ?_)
  obtain ⟨t, et, -⟩ := text9_tells [a, b] (by simp)
  refine Ev.bind et ?_
  cases t with
  | false => exact Ev.neg Bool.false_ne_true (Ev.ok _)
  | true =>
    refine Ev.pos rfl ?_
    simp only [impl_tp, spec_tp, Option.bind_some, if_true]
    refine Ev.pos (by omega) (Ev.pos (by rw [tp_back]) ?_)
    refine Ev.eq ?_ (Ev.ok _)
    rw [show (⟨#[97, 98]⟩ : ByteArray) = ⟨#[97]⟩ ++ ⟨#[98]⟩ from ba_ext (by rw [append_list]; rfl), tp_back, ByteArray.toList_eq]
    rfl
end Go.Proofs.Ytfnogloefimeiaa.Pure
