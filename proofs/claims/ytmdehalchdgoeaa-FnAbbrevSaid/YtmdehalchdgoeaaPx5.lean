-- WRITTEN by xprint.py (a program of this session, over the kit's print) out of the translation. Not trusted: Lean checks it.
import Derived.Test.YtmdehalchdgoeaaPx0
import Derived.Test.YtmdehalchdgoeaaPx3
namespace Go.Proofs.Ytmdehalchdgoeaa.P
open Go.RowKit Go.Proofs.YtmdehalchdgoeaaW.PrintWords Go.Proofs.YtmdehalchdgoeaaW.PrintLast Go.Proofs.YtmdehalchdgoeaaW.PrintMore
attribute [local go_sem] max2_int min2_int max_two min_two max_three min_three max_four min_four   -- for this text's walks alone
set_option linter.unusedVariables false
set_option linter.unusedSimpArgs false

-- GIVEN by hand: function 15 (goutils_AbbreviateFull)
/-! ### goutils_AbbreviateFull: function 15 -/
set_option maxRecDepth 100000 in
theorem abf_empty (s : ByteArray) (o m : Int) (w : World) (h : s.toList = []) : Calls Try.prog 15 #[.string s, .int .i64 o, .int .i64 m] w fun e w' => e = .returned (.tuple #[.string ByteArray.empty, .nilIface]) ∧ Below w.heap.size w w' := by
  go_enter Try.func15, Try.ntmps15
  go_wp2
  go_ret2
  exact ⟨rfl, Below.refl _ _⟩
set_option maxRecDepth 100000 in
theorem abf_small (s : ByteArray) (o m : Int) (w : World) (h : (s.toList == []) = false) (h1 : m < 4) : Calls Try.prog 15 #[.string s, .int .i64 o, .int .i64 m] w fun e w' => (∃ x, e = .returned (.tuple #[.string ByteArray.empty, .iface 41 x])) ∧ Below w.heap.size w w' := by
  go_enter Try.func15, Try.ntmps15
  go_wp2_with (go_at_call 18; refine (errors_New.calls _ _).mono ?_; rintro e w' ⟨⟨x, rfl⟩, hb⟩)
  go_ret2
  exact ⟨⟨_, rfl⟩, hb⟩
set_option maxRecDepth 100000 in
theorem abf_whole (s : ByteArray) (o m : Int) (w : World) (h : (s.toList == []) = false) (h1 : ¬ m < 4) (h2 : (s.size : Int) ≤ m) : Calls Try.prog 15 #[.string s, .int .i64 o, .int .i64 m] w fun e w' => e = .returned (.tuple #[.string s, .nilIface]) ∧ Below w.heap.size w w' := by
  go_enter Try.func15, Try.ntmps15
  go_wp2
  go_ret2
  exact ⟨rfl, Below.refl _ _⟩
set_option maxRecDepth 100000 in
theorem abf_cut (s : ByteArray) (o m : Int) (w : World) (hs : s.size ≤ 500) (ho : -1000000 ≤ o) (ho' : o ≤ 1000000) (hm' : m ≤ 1000000) (h : (s.toList == []) = false) (h1 : ¬ m < 4) (h2 : ¬ (s.size : Int) ≤ m) (h3 : abO s o m ≤ 4) :
    Calls Try.prog 15 #[.string s, .int .i64 o, .int .i64 m] w fun e w' => e = .returned (.tuple #[.string (s.extract 0 (m - 3).toNat ++ dots), .nilIface]) ∧ Below w.heap.size w w' := by
  have k1 : (0 : Int) ≤ m - 3 := by omega
  have k2 : m - 3 ≤ (s.size : Int) := by omega
  have k3 : (3 : Int) ≤ m := by omega
  have k4 : m ≤ (s.size : Int) + 3 := by omega
  unfold abO at h3
  by_cases c1 : o > (s.size : Int)
  · by_cases c2 : (s.size : Int) - s.size < m - 3
    · rw [if_pos c1, if_pos c2] at h3
      go_enter Try.func15, Try.ntmps15
      go_wp2
      go_ret2
      exact ⟨rfl, Below.refl _ _⟩
    · omega
  · by_cases c2 : (s.size : Int) - o < m - 3
    · rw [if_neg c1, if_pos c2] at h3
      go_enter Try.func15, Try.ntmps15
      go_wp2
      go_ret2
      exact ⟨rfl, Below.refl _ _⟩
    · rw [if_neg c1, if_neg c2] at h3
      go_enter Try.func15, Try.ntmps15
      go_wp2
      go_ret2
      exact ⟨rfl, Below.refl _ _⟩

set_option maxRecDepth 100000 in
theorem abf_seven (s : ByteArray) (o m : Int) (w : World) (hs : s.size ≤ 500) (ho : -1000000 ≤ o) (ho' : o ≤ 1000000) (hm' : m ≤ 1000000) (h : (s.toList == []) = false) (h1 : ¬ m < 4) (h2 : ¬ (s.size : Int) ≤ m) (h3 : ¬ abO s o m ≤ 4) (h4 : m < 7) :
    Calls Try.prog 15 #[.string s, .int .i64 o, .int .i64 m] w fun e w' => (∃ x, e = .returned (.tuple #[.string ByteArray.empty, .iface 41 x])) ∧ Below w.heap.size w w' := by
  unfold abO at h3
  by_cases c1 : o > (s.size : Int)
  · by_cases c2 : (s.size : Int) - s.size < m - 3
    · rw [if_pos c1, if_pos c2] at h3
      go_enter Try.func15, Try.ntmps15
      go_wp2_with (go_at_call 18; refine (errors_New.calls _ _).mono ?_; rintro e w' ⟨⟨x, rfl⟩, hb⟩)
      go_ret2
      exact ⟨⟨_, rfl⟩, hb⟩
    · omega
  · by_cases c2 : (s.size : Int) - o < m - 3
    · rw [if_neg c1, if_pos c2] at h3
      go_enter Try.func15, Try.ntmps15
      go_wp2_with (go_at_call 18; refine (errors_New.calls _ _).mono ?_; rintro e w' ⟨⟨x, rfl⟩, hb⟩)
      go_ret2
      exact ⟨⟨_, rfl⟩, hb⟩
    · rw [if_neg c1, if_neg c2] at h3
      go_enter Try.func15, Try.ntmps15
      go_wp2_with (go_at_call 18; refine (errors_New.calls _ _).mono ?_; rintro e w' ⟨⟨x, rfl⟩, hb⟩)
      go_ret2
      exact ⟨⟨_, rfl⟩, hb⟩
set_option maxRecDepth 100000 in
theorem abbr_cut (s : ByteArray) (m : Int) (w : World) (hs : s.size ≤ 500) (hm' : m ≤ 1000000) (h : (s.toList == []) = false) (h1 : ¬ m < 4) (h2 : ¬ (s.size : Int) ≤ m) :
    Calls Try.prog 19 #[.string s, .int .i64 m] w fun e w' => e = .returned (.tuple #[.string (s.extract 0 (m - 3).toNat ++ dots), .nilIface]) ∧ Below w.heap.size w w' := by
  have h3 : abO s 0 m ≤ 4 := by
    unfold abO
    rw [if_neg (by omega), if_neg (by omega)]
    omega
  have C := Lib.hid (fun w => abf_cut s 0 m w hs (by omega) (by omega) hm' h h1 h2 h3)
  go_enter Try.func19, Try.ntmps19
  go_wp2_with fail
  refine (C.out _).mono ?_
  rintro e w' ⟨rfl, hb⟩
  go_wp2
  go_ret2
  exact ⟨rfl, hb⟩
set_option maxRecDepth 100000 in
theorem abf_both (s : ByteArray) (o m : Int) (w : World) (hs : s.size ≤ 500) (ho : -1000000 ≤ o) (ho' : o ≤ 1000000) (hm' : m ≤ 1000000) (h : (s.toList == []) = false) (h1 : ¬ m < 4) (h2 : ¬ (s.size : Int) ≤ m) (h3 : ¬ abO s o m ≤ 4) (h4 : ¬ m < 7) (h5 : abO s o m + m - 3 < s.size) :
    Calls Try.prog 15 #[.string s, .int .i64 o, .int .i64 m] w fun e w' => e = .returned (.tuple #[.string (dots ++ ((s.extract (abO s o m).toNat s.size).extract 0 (m - 3 - 3).toNat ++ dots)), .nilIface]) ∧ Below w.heap.size w w' := by
  have H : ∀ (a : Int) (w : World), 4 < a → a + m - 3 < s.size → Calls Try.prog 19 #[.string (s.extract a.toNat s.size), .int .i64 (m - 3)] w fun e w' => e = .returned (.tuple #[.string ((s.extract a.toNat s.size).extract 0 (m - 3 - 3).toNat ++ dots), .nilIface]) ∧ Below w.heap.size w w' := by
    intro a w ha ham
    have hz : (s.extract a.toNat s.size).size = s.size - a.toNat := by simp [ByteArray.size_extract]
    exact abbr_cut _ _ _ (by omega) (by omega) (by
      rw [ByteArray.toList_eq, beq_eq_false_iff_ne]
      intro h0
      have := congrArg List.length h0
      rw [size_list] at this
      simp only [List.length_nil] at this
      omega) (by omega) (by omega)
  unfold abO at h3 h5 ⊢
  by_cases c1 : o > (s.size : Int)
  · by_cases c2 : (s.size : Int) - s.size < m - 3
    · rw [if_pos c1, if_pos c2] at h3 h5 ⊢
      omega
    · omega
  · by_cases c2 : (s.size : Int) - o < m - 3
    · rw [if_neg c1, if_pos c2] at h3 h5 ⊢
      omega
    · rw [if_neg c1, if_neg c2] at h3 h5 ⊢
      have HH := Lib.hid H
      clear H
      have kd : dots.size ≤ 3 := by decide
      have k5 : (0 : Int) ≤ o := by omega
      have k6 : o ≤ (s.size : Int) := by omega
      go_enter Try.func15, Try.ntmps15
      go_wp2_with fail
      refine (HH.out o _ (by omega) h5).mono ?_
      rintro e w' ⟨rfl, hb⟩
      go_wp2
      go_ret2
      exact ⟨rfl, hb⟩
set_option maxRecDepth 100000 in
theorem abf_tail (s : ByteArray) (o m : Int) (w : World) (hs : s.size ≤ 500) (ho : -1000000 ≤ o) (ho' : o ≤ 1000000) (hm' : m ≤ 1000000) (h : (s.toList == []) = false) (h1 : ¬ m < 4) (h2 : ¬ (s.size : Int) ≤ m) (h3 : ¬ abO s o m ≤ 4) (h4 : ¬ m < 7) (h5 : ¬ abO s o m + m - 3 < s.size) :
    Calls Try.prog 15 #[.string s, .int .i64 o, .int .i64 m] w fun e w' => e = .returned (.tuple #[.string (dots ++ s.extract ((s.size : Int) - (m - 3)).toNat s.size), .nilIface]) ∧ Below w.heap.size w w' := by
  have k1 : (0 : Int) ≤ (s.size : Int) - (m - 3) := by omega
  have k2 : (s.size : Int) - (m - 3) ≤ s.size := by omega
  have k3 : (3 : Int) ≤ m := by omega
  have k4 : m ≤ (s.size : Int) + 3 := by omega
  have k5 : m - 3 ≤ (s.size : Int) := by omega
  have k6 : (0 : Int) ≤ m - 3 := by omega
  unfold abO at h3 h5
  by_cases c1 : o > (s.size : Int)
  · by_cases c2 : (s.size : Int) - s.size < m - 3
    · rw [if_pos c1, if_pos c2] at h3 h5
      go_enter Try.func15, Try.ntmps15
      go_wp2
      go_ret2
      exact ⟨rfl, Below.refl _ _⟩
    · omega
  · by_cases c2 : (s.size : Int) - o < m - 3
    · rw [if_neg c1, if_pos c2] at h3 h5
      go_enter Try.func15, Try.ntmps15
      go_wp2
      go_ret2
      exact ⟨rfl, Below.refl _ _⟩
    · rw [if_neg c1, if_neg c2] at h3 h5
      go_enter Try.func15, Try.ntmps15
      go_wp2
      go_ret2
      exact ⟨rfl, Below.refl _ _⟩
theorem abf_some (s : ByteArray) (o m : Int) (r : ByteArray) (w : World) (hs : s.size ≤ 500) (ho : -1000000 ≤ o) (ho' : o ≤ 1000000) (hm' : m ≤ 1000000) (h : abF s o m = some r) :
    Calls Try.prog 15 #[.string s, .int .i64 o, .int .i64 m] w fun e w' => e = .returned (.tuple #[.string r, .nilIface]) ∧ Below w.heap.size w w' := by
  unfold abF at h
  by_cases c1 : s.toList = []
  · rw [if_pos c1] at h; cases h; exact abf_empty s o m w c1
  rw [if_neg c1] at h
  have c1' := beq_eq_false_iff_ne.2 c1
  by_cases c2 : m < 4
  · rw [if_pos c2] at h; cases h
  rw [if_neg c2] at h
  by_cases c3 : (s.size : Int) ≤ m
  · rw [if_pos c3] at h; cases h; exact abf_whole s o m w c1' c2 c3
  rw [if_neg c3] at h
  by_cases c4 : abO s o m ≤ 4
  · rw [if_pos c4] at h; cases h; exact abf_cut s o m w hs ho ho' hm' c1' c2 c3 c4
  rw [if_neg c4] at h
  by_cases c5 : m < 7
  · rw [if_pos c5] at h; cases h
  rw [if_neg c5] at h
  by_cases c6 : abO s o m + m - 3 < s.size
  · rw [if_pos c6] at h; cases h; exact abf_both s o m w hs ho ho' hm' c1' c2 c3 c4 c5 c6
  · rw [if_neg c6] at h; cases h; exact abf_tail s o m w hs ho ho' hm' c1' c2 c3 c4 c5 c6
theorem abf_none (s : ByteArray) (o m : Int) (w : World) (hs : s.size ≤ 500) (ho : -1000000 ≤ o) (ho' : o ≤ 1000000) (hm' : m ≤ 1000000) (h : abF s o m = none) :
    Calls Try.prog 15 #[.string s, .int .i64 o, .int .i64 m] w fun e w' => (∃ x, e = .returned (.tuple #[.string ByteArray.empty, .iface 41 x])) ∧ Below w.heap.size w w' := by
  unfold abF at h
  by_cases c1 : s.toList = []
  · rw [if_pos c1] at h; cases h
  rw [if_neg c1] at h
  have c1' := beq_eq_false_iff_ne.2 c1
  by_cases c2 : m < 4
  · exact abf_small s o m w c1' c2
  rw [if_neg c2] at h
  by_cases c3 : (s.size : Int) ≤ m
  · rw [if_pos c3] at h; cases h
  rw [if_neg c3] at h
  by_cases c4 : abO s o m ≤ 4
  · rw [if_pos c4] at h; cases h
  rw [if_neg c4] at h
  by_cases c5 : m < 7
  · exact abf_seven s o m w hs ho ho' hm' c1' c2 c3 c4 c5
  rw [if_neg c5] at h
  by_cases c6 : abO s o m + m - 3 < s.size
  · rw [if_pos c6] at h; cases h
  · rw [if_neg c6] at h; cases h

end Go.Proofs.Ytmdehalchdgoeaa.P
