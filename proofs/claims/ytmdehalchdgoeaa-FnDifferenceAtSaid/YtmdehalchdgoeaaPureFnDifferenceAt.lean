/- The place where two texts begin to differ is what the specification says, for every two texts, of any bytes and any length; nothing is assumed of them but what every Go string fulfils. -/
import Derived.Test.YtmdehalchdgoeaaPFnDifferenceAtx2
namespace Go.Proofs.Ytmdehalchdgoeaa.Pure
open Go.RowKit Go.Proofs.Ytmdehalchdgoeaa.PFnDifferenceAt Go.Proofs.YtmdehalchdgoeaaW.PrintWords Go.Proofs.YtmdehalchdgoeaaW.PrintLast

theorem Ev.pos {α : Type} {c : Prop} [Decidable c] {a b : Nat → Option α} {r : α} (h : c) (e : Ev a r) : Ev (fun k => if c then a k else b k) r := by
  obtain ⟨K, hK⟩ := e
  exact ⟨K, fun k hk => (if_pos h).trans (hK k hk)⟩
theorem Ev.neg {α : Type} {c : Prop} [Decidable c] {a b : Nat → Option α} {r : α} (h : ¬ c) (e : Ev b r) : Ev (fun k => if c then a k else b k) r := by
  obtain ⟨K, hK⟩ := e
  exact ⟨K, fun k hk => (if_neg h).trans (hK k hk)⟩
theorem Ev.some' {α : Type} (r : α) : Ev (fun _ => some r) r := ⟨0, fun _ _ => rfl⟩

theorem wrap_step {i : Int} {n : Nat} (h0 : 0 ≤ i) (h : i < (n : Int)) (hn : n ≤ 140737488351232) : wrap64 (i + 1) = i + 1 := by
  unfold wrap64
  omega

/-- Whether a text is ASCII is told, from place i on. -/
theorem ascii_tells (s : ByteArray) (hn : s.size ≤ 140737488351232) (d : Nat) : ∀ i : Int, 0 ≤ i → i ≤ s.size → (s.size : Int) - i = d →
    ∃ b, Ev (fun k => spec_ASCII.l0 k s i) b := by
  induction d with
  | zero =>
    intro i h0 h1 hd
    exact ⟨true, Ev.step (fun k => by rw [spec_ASCII.l0]) (Ev.neg (by omega) (Ev.some' _))⟩
  | succ d ih =>
    intro i h0 h1 hd
    by_cases hb : bt s i ≥ 128
    · exact ⟨false, Ev.step (fun k => by rw [spec_ASCII.l0]) (Ev.pos (by omega) (Ev.pos (by omega) (Ev.pos hb (Ev.some' _))))⟩
    · obtain ⟨b, e⟩ := ih (i + 1) (by omega) (by omega) (by omega)
      refine ⟨b, Ev.step (fun k => by rw [spec_ASCII.l0]) (Ev.pos (by omega) (Ev.pos (by omega) (Ev.neg hb ?_)))⟩
      rw [wrap_step h0 (by omega) hn]
      exact e

theorem ascii_f (s : ByteArray) (hn : s.size ≤ 140737488351232) : ∃ b, Ev (fun k => spec_ASCII.f k s) b :=
  ascii_tells s hn _ 0 (by omega) (by omega) rfl

/-- Whether texts are looked at is told. -/
theorem plain_tells (l : List ByteArray) (_hl : ∀ s ∈ l, s.size ≤ 140737488351232) (hlen : l.length ≤ 1000) (d : Nat) : ∀ i : Int, 0 ≤ i → i ≤ l.length → (l.length : Int) - i = d →
    ∃ b, Ev (fun k => laws_plain9.l0 k l (l.length : Int) i) b := by
  induction d with
  | zero =>
    intro i h0 h1 hd
    exact ⟨true, Ev.step (fun k => by rw [laws_plain9.l0]) (Ev.neg (by omega) (Ev.some' _))⟩
  | succ d ih =>
    intro i h0 h1 hd
    by_cases hb : ((rdOf ByteArray.empty l i).size : Int) > 500
    · exact ⟨false, Ev.step (fun k => by rw [laws_plain9.l0]) (Ev.pos (by omega) (Ev.pos (by omega) (Ev.pos (by omega) (Ev.pos hb (Ev.some' _)))))⟩
    · obtain ⟨t, et⟩ := ascii_f (rdOf ByteArray.empty l i) (by omega)
      cases t with
      | false =>
        refine ⟨false, ?_⟩
        refine Ev.step (fun k => by rw [laws_plain9.l0]) ?_
        exact Ev.pos (by omega) (Ev.pos (by omega) (Ev.pos (by omega) (Ev.neg hb (Ev.bind et (Ev.neg Bool.false_ne_true (Ev.some' _))))))
      | true =>
        obtain ⟨b, e⟩ := ih (i + 1) (by omega) (by omega) (by omega)
        refine ⟨b, ?_⟩
        refine Ev.step (fun k => by rw [laws_plain9.l0]) ?_
        refine Ev.pos (by omega) (Ev.pos (by omega) (Ev.pos (by omega) (Ev.neg hb (Ev.bind et (Ev.pos rfl ?_)))))
        rw [wrap_step h0 (n := l.length) (by omega) (by omega)]
        exact e

/-- The two loops come to one answer, from place i on. -/
theorem loops_meet (a b : ByteArray) (ha : a.size ≤ 140737488351232) (d : Nat) : ∀ i : Int, 0 ≤ i → i ≤ a.size → (a.size : Int) - i = d →
    ∃ r, Ev (fun k => goutils_IndexOfDifference.l0 k a b i) r ∧ Ev (fun k => spec_DifferenceAt.l0 k a b i) r := by
  have w32 : ∀ i, wrap32 (bt a i) = bt a i := fun i => by have := bt_range a i; unfold wrap32; omega
  have w32b : ∀ i, wrap32 (bt b i) = bt b i := fun i => by have := bt_range b i; unfold wrap32; omega
  have fin : ∀ i : Int, 0 ≤ i → i ≤ a.size → (i < (a.size : Int) ∧ ¬ i < (b.size : Int) ∨ ¬ i < (a.size : Int)) → ∃ r, Ev (fun k => goutils_IndexOfDifference.l0 k a b i) r ∧ Ev (fun k => spec_DifferenceAt.l0 k a b i) r := by
    intro i h0 h1 h
    rcases h with ⟨h2, h3⟩ | h2
    · refine ⟨i, ?_, ?_⟩
      · refine Ev.step (fun k => by rw [goutils_IndexOfDifference.l0]) (Ev.pos h2 ?_)
        rw [decide_eq_false h3]
        exact Ev.step (fun k => by rw [goutils_IndexOfDifference.j2]) (Ev.neg Bool.false_ne_true (Ev.neg h3 (Ev.pos h2 (Ev.some' _))))
      · refine Ev.step (fun k => by rw [spec_DifferenceAt.l0]) (Ev.pos h2 ?_)
        exact Ev.step (fun k => by rw [spec_DifferenceAt.j1]) (Ev.pos rfl (Ev.neg (by omega) (Ev.pos (by omega) (Ev.some' _))))
    · by_cases h3 : i < (b.size : Int)
      · refine ⟨i, ?_, ?_⟩
        · refine Ev.step (fun k => by rw [goutils_IndexOfDifference.l0]) (Ev.neg h2 ?_)
          exact Ev.step (fun k => by rw [goutils_IndexOfDifference.j2]) (Ev.neg Bool.false_ne_true (Ev.pos h3 (Ev.some' _)))
        · refine Ev.step (fun k => by rw [spec_DifferenceAt.l0]) (Ev.neg h2 ?_)
          rw [decide_eq_true h3]
          exact Ev.step (fun k => by rw [spec_DifferenceAt.j1]) (Ev.pos rfl (Ev.pos (by omega) (Ev.some' _)))
      · refine ⟨-1, ?_, ?_⟩
        · refine Ev.step (fun k => by rw [goutils_IndexOfDifference.l0]) (Ev.neg h2 ?_)
          exact Ev.step (fun k => by rw [goutils_IndexOfDifference.j2]) (Ev.neg Bool.false_ne_true (Ev.neg h3 (Ev.neg h2 (Ev.some' _))))
        · refine Ev.step (fun k => by rw [spec_DifferenceAt.l0]) (Ev.neg h2 ?_)
          rw [decide_eq_false h3]
          exact Ev.step (fun k => by rw [spec_DifferenceAt.j1]) (Ev.neg Bool.false_ne_true (Ev.some' _))
  induction d with
  | zero => intro i h0 h1 hd; exact fin i h0 h1 (.inr (by omega))
  | succ d ih =>
    intro i h0 h1 hd
    have h2 : i < (a.size : Int) := by omega
    by_cases h3 : i < (b.size : Int)
    · by_cases he : bt a i = bt b i
      · obtain ⟨r, e1, e2⟩ := ih (i + 1) (by omega) (by omega) (by omega)
        refine ⟨r, ?_, ?_⟩
        · refine Ev.step (fun k => by rw [goutils_IndexOfDifference.l0]) (Ev.pos h2 ?_)
          rw [decide_eq_true h3]
          refine Ev.step (fun k => by rw [goutils_IndexOfDifference.j2]) (Ev.pos rfl (Ev.pos h0 (Ev.pos h2 (Ev.pos h3 (Ev.pos (by rw [w32, w32b]; exact he) ?_)))))
          rw [wrap_step h0 h2 ha]
          exact e1
        · refine Ev.step (fun k => by rw [spec_DifferenceAt.l0]) (Ev.pos h2 ?_)
          refine Ev.step (fun k => by rw [spec_DifferenceAt.j1]) (Ev.pos rfl (Ev.neg (by omega) (Ev.neg (by omega) (Ev.pos h0 (Ev.pos h2 (Ev.pos h3 (Ev.pos he ?_)))))))
          rw [wrap_step h0 h2 ha]
          exact e2
      · refine ⟨i, ?_, ?_⟩
        · refine Ev.step (fun k => by rw [goutils_IndexOfDifference.l0]) (Ev.pos h2 ?_)
          rw [decide_eq_true h3]
          exact Ev.step (fun k => by rw [goutils_IndexOfDifference.j2]) (Ev.pos rfl (Ev.pos h0 (Ev.pos h2 (Ev.pos h3 (Ev.neg (by rw [w32, w32b]; exact he) (Ev.some' _))))))
        · refine Ev.step (fun k => by rw [spec_DifferenceAt.l0]) (Ev.pos h2 ?_)
          exact Ev.step (fun k => by rw [spec_DifferenceAt.j1]) (Ev.pos rfl (Ev.neg (by omega) (Ev.neg (by omega) (Ev.pos h0 (Ev.pos h2 (Ev.pos h3 (Ev.neg he (Ev.some' _))))))))
    · exact fin i h0 h1 (.inl ⟨h2, h3⟩)

/-- Of one text the specification's loop says -1. -/
theorem same_is_none (a : ByteArray) (ha : a.size ≤ 140737488351232) (d : Nat) : ∀ i : Int, 0 ≤ i → i ≤ a.size → (a.size : Int) - i = d →
    Ev (fun k => spec_DifferenceAt.l0 k a a i) (-1) := by
  induction d with
  | zero =>
    intro i h0 h1 hd
    refine Ev.step (fun k => by rw [spec_DifferenceAt.l0]) (Ev.neg (by omega) ?_)
    rw [decide_eq_false (by omega)]
    exact Ev.step (fun k => by rw [spec_DifferenceAt.j1]) (Ev.neg Bool.false_ne_true (Ev.some' _))
  | succ d ih =>
    intro i h0 h1 hd
    refine Ev.step (fun k => by rw [spec_DifferenceAt.l0]) (Ev.pos (by omega) ?_)
    refine Ev.step (fun k => by rw [spec_DifferenceAt.j1]) (Ev.pos rfl (Ev.neg (by omega) (Ev.neg (by omega) (Ev.pos h0 (Ev.pos (by omega) (Ev.pos (by omega) (Ev.pos rfl ?_)))))))
    rw [wrap_step h0 (by omega) ha]
    exact ih (i + 1) (by omega) (by omega) (by omega)

theorem list_of {a b : ByteArray} (h : a.toList = b.toList) : a = b := by
  have h' : a.data.toList = b.data.toList := by rw [← ByteArray.toList_eq, ← ByteArray.toList_eq]; exact h
  cases a; cases b; simp at h'; simp [h']

/-- What the package and the specification say is one answer. -/
theorem one_answer (a b : ByteArray) (ha : a.size ≤ 140737488351232) :
    ∃ r, Ev (fun k => goutils_IndexOfDifference.f k a b) r ∧ Ev (fun k => spec_DifferenceAt.f k a b) r := by
  unfold goutils_IndexOfDifference.f spec_DifferenceAt.f
  by_cases he : a.toList = b.toList
  · obtain rfl := list_of he
    exact ⟨-1, Ev.pos rfl (Ev.some' _), same_is_none a ha _ 0 (by omega) (by omega) rfl⟩
  · obtain ⟨r, e1, e2⟩ := loops_meet a b ha _ 0 (by omega) (by omega) rfl
    by_cases h1 : a.size = 0
    · have h2 : b.size ≠ 0 := fun h2 => he (by
        have e1 : a = ByteArray.empty := ByteArray.size_eq_zero_iff.1 h1
        have e2 : b = ByteArray.empty := ByteArray.size_eq_zero_iff.1 h2
        rw [e1, e2])
      refine ⟨0, Ev.neg he (Ev.bind (Ev.some' _) (Ev.pos (by simp [h1]) (Ev.step (fun k => by rw [goutils_IndexOfDifference.j0]) (Ev.pos rfl (Ev.some' _))))), ?_⟩
      refine Ev.step (fun k => by rw [spec_DifferenceAt.l0]) (Ev.neg (by omega) ?_)
      rw [decide_eq_true (by omega)]
      exact Ev.step (fun k => by rw [spec_DifferenceAt.j1]) (Ev.pos rfl (Ev.pos (by omega) (Ev.some' _)))
    · by_cases h2 : b.size = 0
      · refine ⟨0, Ev.neg he (Ev.bind (Ev.some' _) (Ev.neg (by rw [beq_iff_eq]; omega) (Ev.bind (Ev.some' _) ?_))), ?_⟩
        · refine Ev.step (fun k => by rw [goutils_IndexOfDifference.j0]) (Ev.pos (by simp [h2]) (Ev.some' _))
        · refine Ev.step (fun k => by rw [spec_DifferenceAt.l0]) (Ev.pos (by omega) ?_)
          exact Ev.step (fun k => by rw [spec_DifferenceAt.j1]) (Ev.pos rfl (Ev.neg (by omega) (Ev.pos (by omega) (Ev.some' _))))
      · refine ⟨r, Ev.neg he (Ev.bind (Ev.some' _) (Ev.neg (by rw [beq_iff_eq]; omega) (Ev.bind (Ev.some' _) ?_))), e2⟩
        exact Ev.step (fun k => by rw [goutils_IndexOfDifference.j0]) (Ev.neg (by rw [beq_iff_eq]; omega) e1)

theorem FnDifferenceAt : laws_FnDifferenceAt.Pure := by
  intro a b ha hb
  refine Ev.rounds (g := fun k => laws_FnDifferenceAt.f k a b) ?_
  unfold laws_FnDifferenceAt.f
  have far : Ev (fun k => laws_FnDifferenceAt.j0 k a b true) true := Ev.step (fun k => by rw [laws_FnDifferenceAt.j0]) (Ev.pos rfl (Ev.some' _))
  by_cases h1 : (a.size : Int) > 2147483647
  · exact Ev.pos h1 far
  refine Ev.neg h1 ?_
  by_cases h2 : (b.size : Int) > 2147483647
  · rw [decide_eq_true h2]; exact far
  rw [decide_eq_false h2]
  refine Ev.step (fun k => by rw [laws_FnDifferenceAt.j0]) (Ev.neg Bool.false_ne_true ?_)
  obtain ⟨t, et⟩ := plain_tells [a, b] (by simp only [List.mem_cons, List.not_mem_nil, or_false]; rintro s (rfl | rfl) <;> assumption) (by simp) _ 0 (by omega) (by simp) rfl
  refine Ev.bind (f := fun k t => _) et ?_
  cases t with
  | false => exact Ev.neg Bool.false_ne_true (Ev.some' _)
  | true =>
    obtain ⟨r, e1, e2⟩ := one_answer a b ha
    obtain ⟨q, e3, e4⟩ := one_answer a a ha
    have hq : Ev (fun k => impl_DifferenceAt.f k a a) (-1) := by
      unfold impl_DifferenceAt.f goutils_IndexOfDifference.f
      exact Ev.bind (Ev.pos rfl (Ev.some' _)) (Ev.some' _)
    refine Ev.pos rfl (Ev.bind (Ev.bind e1 (Ev.some' _)) (Ev.bind e2 (Ev.pos rfl (Ev.bind hq ?_))))
    exact Ev.some' _

end Go.Proofs.Ytmdehalchdgoeaa.Pure
