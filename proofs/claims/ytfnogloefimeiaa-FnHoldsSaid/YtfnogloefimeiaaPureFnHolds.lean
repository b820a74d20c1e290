/- Whether a text has another one, begins with it, and ends with it: for every two texts the package's answers are the specification's, and a text behind, or ahead of, another one is found there. Nothing is assumed but what every Go string fulfils. -/
import Derived.Test.YtfnogloefimeiaaPx3
import Derived.Test.YtfnogloefimeiaaT9
namespace Go.Proofs.Ytfnogloefimeiaa.Pure
open Go.RowKit Go.Proofs.Ytfnogloefimeiaa.P Go.Proofs.YtfnogloefimeiaaW.PrintWords Go.Proofs.YtfnogloefimeiaaW.PrintLast

theorem sprig_index (s p : ByteArray) (hs : s.size ≤ 281474976710656) (hp : p.size ≤ 281474976710656) : ∃ r, Ev (fun k => sprig_zzIndex.f k s p) r ∧ firstAt s p 0 r :=
  index_tells (fun k x => sprig_zzIndex.l0 k s p x) s p hs hp (fun k x => by rw [sprig_zzIndex.l0]) _ 0 (by omega) rfl
theorem spec_place (s p : ByteArray) (hs : s.size ≤ 281474976710656) (hp : p.size ≤ 281474976710656) : ∃ r, Ev (fun k => spec_Place.f k p s 0) r ∧ firstAt s p 0 r :=
  index_tells (fun k x => spec_Place.l0 k p s x) s p hs hp (fun k x => by rw [spec_Place.l0]) _ 0 (by omega) rfl
theorem contains_ev (s p : ByteArray) (hs : s.size ≤ 281474976710656) (hp : p.size ≤ 281474976710656) : ∃ r, Ev (fun k => impl_Contains.f k p s) (decide (r ≥ 0)) ∧ firstAt s p 0 r := by
  obtain ⟨r, e, h⟩ := sprig_index s p hs hp
  refine ⟨r, ?_, h⟩
  unfold impl_Contains.f sprig_Contains.f sprig_contains.f sprig_zzContains.f
  exact Ev.bind (Ev.bind (Ev.bind (Ev.bind e (Ev.ok _)) (Ev.ok _)) (Ev.ok _)) (Ev.ok _)
def hasP (b s : ByteArray) : Bool := decide (b.size ≤ s.size) && ((s.extract 0 b.size).toList == b.toList)
def hasS (b s : ByteArray) : Bool := decide (b.size ≤ s.size) && ((s.extract (s.size - b.size) s.size).toList == b.toList)
theorem impl_hasP (b s : ByteArray) : impl_HasPrefix.f b s = some (hasP b s) := by
  unfold impl_HasPrefix.f sprig_HasPrefix.f sprig_hasPrefix.f strings_HasPrefix.f stringslite_HasPrefix.f hasP
  by_cases h1 : b.size ≤ s.size
  · simp [h1]
  · simp [h1]
theorem spec_hasP (b s : ByteArray) : spec_Begins.f b s = some (hasP b s) := by
  unfold spec_Begins.f hasP
  by_cases h1 : b.size ≤ s.size
  · simp [h1]
  · simp [h1]
theorem w_sub {a b : Nat} (h : b ≤ a) (ha : a ≤ 281474976710656) : wrap64 ((a : Int) - (b : Int)) = ((a - b : Nat) : Int) := by
  rw [w64_in (by omega) (by omega)]; omega
theorem impl_hasS (b s : ByteArray) (hs : s.size ≤ 281474976710656) : impl_HasSuffix.f b s = some (hasS b s) := by
  unfold impl_HasSuffix.f sprig_HasSuffix.f sprig_hasSuffix.f strings_HasSuffix.f stringslite_HasSuffix.f hasS
  by_cases h1 : b.size ≤ s.size
  · rw [if_pos (by omega), w_sub h1 hs, if_pos (by omega), if_pos (by omega), Int.toNat_natCast]
    simp [h1]
  · rw [if_neg (by omega)]
    simp [h1]
theorem spec_hasS (b s : ByteArray) (hs : s.size ≤ 281474976710656) : spec_Ends.f b s = some (hasS b s) := by
  unfold spec_Ends.f hasS
  by_cases h1 : b.size ≤ s.size
  · rw [if_pos (by omega), w_sub h1 hs, if_pos (by omega), if_pos (by omega), Int.toNat_natCast]
    simp [h1]
  · rw [if_neg (by omega)]
    simp [h1]
theorem hasP_append (b s : ByteArray) : hasP b (b ++ s) = true := by
  have := (occ_ahead s b).2
  rw [Nat.zero_add] at this
  unfold hasP
  rw [this]
  simp [ByteArray.size_append]
theorem hasS_append (b s : ByteArray) : hasS b (s ++ b) = true := by
  have := (occ_append s b).2
  unfold hasS
  rw [show (s ++ b).size - b.size = s.size by rw [ByteArray.size_append]; omega, show (s ++ b).size = s.size + b.size from ByteArray.size_append, this]
  simp

theorem FnHolds : laws_FnHolds.Pure := by
  intro a b ha hb
  refine Ev.rounds (g := fun k => laws_FnHolds.f k a b) ?_
  unfold laws_FnHolds.f
  have far : Ev (fun k => laws_FnHolds.j0 k a b true) true := Ev.step (fun k => by rw [laws_FnHolds.j0]) (Ev.pos rfl (Ev.ok _))
  by_cases h1 : (a.size : Int) > 2147483647
  · exact Ev.pos h1 far
  refine Ev.neg h1 ?_
  by_cases h2 : (b.size : Int) > 2147483647
  · rw [decide_eq_true h2]; exact far
  rw [decide_eq_false h2]
  refine Ev.step (fun k => by rw [laws_FnHolds.j0]) (Ev.neg Bool.false_ne_true ?_)
  obtain ⟨t, et, -⟩ := text9_tells [a, b] (by simp)
  refine Ev.bind et ?_
  cases t with
  | false => exact Ev.neg Bool.false_ne_true (Ev.ok _)
  | true =>
    refine Ev.pos rfl ?_
    obtain ⟨r, e1, f1⟩ := contains_ev b a (by omega) (by omega)
    obtain ⟨r', e2, f2⟩ := spec_place b a (by omega) (by omega)
    obtain rfl := firstAt_unique f1 f2
    obtain ⟨q, e3, f3⟩ := contains_ev (b ++ a) a (by rw [ByteArray.size_append]; omega) (by omega)
    have hq : decide (q ≥ 0) = true := by
      rcases f3 with ⟨rfl, h⟩ | ⟨j, rfl, _⟩
      · exact absurd (occ_append b a) (h _ (Nat.zero_le _))
      · simp
    rw [hq] at e3
    have e2' : Ev (fun k => spec_Holds.f k a b) (decide (r ≥ 0)) := by
      unfold spec_Holds.f
      exact Ev.bind e2 (Ev.ok _)
    refine Ev.bind e1 (Ev.bind e2' (Ev.pos (by simp) ?_))
    simp only [impl_hasP, spec_hasP, Option.bind_some, beq_self_eq_true, if_true]
    rw [impl_hasS _ _ (by omega), spec_hasS _ _ (by omega), impl_hasS _ _ (by rw [ByteArray.size_append]; omega)]
    simp only [Option.bind_some, beq_self_eq_true, if_true]
    refine Ev.pos (by omega) (Ev.bind e3 (Ev.pos rfl (Ev.pos (by omega) (Ev.pos (hasP_append _ _) ?_))))
    exact Ev.eq (hasS_append _ _) (Ev.ok _)
end Go.Proofs.Ytfnogloefimeiaa.Pure
