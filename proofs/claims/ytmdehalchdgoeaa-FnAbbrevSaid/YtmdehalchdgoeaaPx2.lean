-- WRITTEN by xprint.py (a program of this session, over the kit's print) out of the translation. Not trusted: Lean checks it.
import Derived.Test.YtmdehalchdgoeaaPx0
namespace Go.Proofs.Ytmdehalchdgoeaa.P
open Go.RowKit Go.Proofs.YtmdehalchdgoeaaW.PrintWords Go.Proofs.YtmdehalchdgoeaaW.PrintLast Go.Proofs.YtmdehalchdgoeaaW.PrintMore
attribute [local go_sem] max2_int min2_int max_two min_two max_three min_three max_four min_four   -- for this text's walks alone
set_option linter.unusedVariables false
set_option linter.unusedSimpArgs false

-- GIVEN by hand: function 10 (spec_Abbreviated)
/-! ### spec_Abbreviated: function 10 -/
set_option maxRecDepth 100000 in
theorem sab_empty (s : ByteArray) (o m : Int) (w : World) (h : s.toList = []) : Calls Try.prog 10 #[.string s, .int .i64 o, .int .i64 m] w fun e w' => e = .returned (.tuple #[.string ByteArray.empty, .bool true, .bool true]) ∧ Drawn0 w w' := by
  go_enter Try.func10, Try.ntmps10
  go_wp2
  go_ret3
  exact ⟨rfl, Drawn0.refl _⟩
set_option maxRecDepth 100000 in
theorem sab_small (s : ByteArray) (o m : Int) (w : World) (h : (s.toList == []) = false) (h1 : m < 4) : Calls Try.prog 10 #[.string s, .int .i64 o, .int .i64 m] w fun e w' => e = .returned (.tuple #[.string ByteArray.empty, .bool false, .bool true]) ∧ Drawn0 w w' := by
  go_enter Try.func10, Try.ntmps10
  go_wp2
  go_ret3
  exact ⟨rfl, Drawn0.refl _⟩
set_option maxRecDepth 100000 in
theorem sab_unsure (s : ByteArray) (o m : Int) (w : World) (h : (s.toList == []) = false) (h1 : ¬ m < 4) (h2 : o > 0) (h3 : m < 7) : Calls Try.prog 10 #[.string s, .int .i64 o, .int .i64 m] w fun e w' => e = .returned (.tuple #[.string ByteArray.empty, .bool false, .bool false]) ∧ Drawn0 w w' := by
  go_enter Try.func10, Try.ntmps10
  go_wp2
  go_ret3
  exact ⟨rfl, Drawn0.refl _⟩
set_option maxRecDepth 100000 in
theorem sab_whole (s : ByteArray) (o m : Int) (w : World) (_hs : s.size ≤ 500) (ho : -1000000 ≤ o) (ho' : o ≤ 1000000) (hm' : m ≤ 1000000) (h : (s.toList == []) = false) (h1 : ¬ m < 4) (hsure : o ≤ 0 ∨ ¬ m < 7) (h2 : (s.size : Int) ≤ m) :
    Calls Try.prog 10 #[.string s, .int .i64 o, .int .i64 m] w fun e w' => e = .returned (.tuple #[.string (s), .bool true, .bool true]) ∧ Drawn0 w w' := by
  rcases hsure with ho0 | hm7
  · have hz0 : ¬ o > 0 := by omega
    go_enter Try.func10, Try.ntmps10
    go_wp2
    go_ret3
    exact ⟨rfl, Drawn0.refl _⟩
  · by_cases ho0 : o > 0
    · go_enter Try.func10, Try.ntmps10
      go_wp2
      go_ret3
      exact ⟨rfl, Drawn0.refl _⟩
    · go_enter Try.func10, Try.ntmps10
      go_wp2
      go_ret3
      exact ⟨rfl, Drawn0.refl _⟩
set_option maxRecDepth 100000 in
theorem sab_cut (s : ByteArray) (o m : Int) (w : World) (hs : s.size ≤ 500) (ho : -1000000 ≤ o) (ho' : o ≤ 1000000) (hm' : m ≤ 1000000) (h : (s.toList == []) = false) (h1 : ¬ m < 4) (hsure : o ≤ 0 ∨ ¬ m < 7) (h2 : ¬ (s.size : Int) ≤ m) (h3 : abO s o m ≤ 4) :
    Calls Try.prog 10 #[.string s, .int .i64 o, .int .i64 m] w fun e w' => e = .returned (.tuple #[.string (s.extract 0 (m - 3).toNat ++ dots), .bool true, .bool true]) ∧ Drawn0 w w' := by
  rcases hsure with ho0 | hm7
  · have hz0 : ¬ o > 0 := by omega
    have k1 : (0 : Int) ≤ m - 3 := by omega
    have k2 : m - 3 ≤ (s.size : Int) := by omega
    have k3 : (3 : Int) ≤ m := by omega
    have k4 : m ≤ (s.size : Int) + 3 := by omega
    unfold abO at h3
    by_cases c1 : (s.size : Int) < o
    · rw [if_pos c1, if_pos (by omega)] at h3
      have c2 : (s.size : Int) - (m - 3) < s.size := by omega
      first
      | (exfalso; omega)
      | (go_enter Try.func10, Try.ntmps10; go_wp2; go_ret3; exact ⟨rfl, Drawn0.refl _⟩)
    · by_cases c2 : (s.size : Int) - (m - 3) < o
      · rw [if_neg c1, if_pos (by omega)] at h3
        first
        | (exfalso; omega)
        | (go_enter Try.func10, Try.ntmps10; go_wp2; go_ret3; exact ⟨rfl, Drawn0.refl _⟩)
      · rw [if_neg c1, if_neg (by omega)] at h3
        first
        | (exfalso; omega)
        | (go_enter Try.func10, Try.ntmps10; go_wp2; go_ret3; exact ⟨rfl, Drawn0.refl _⟩)
  · by_cases ho0 : o > 0
    · have k1 : (0 : Int) ≤ m - 3 := by omega
      have k2 : m - 3 ≤ (s.size : Int) := by omega
      have k3 : (3 : Int) ≤ m := by omega
      have k4 : m ≤ (s.size : Int) + 3 := by omega
      unfold abO at h3
      by_cases c1 : (s.size : Int) < o
      · rw [if_pos c1, if_pos (by omega)] at h3
        have c2 : (s.size : Int) - (m - 3) < s.size := by omega
        first
        | (exfalso; omega)
        | (go_enter Try.func10, Try.ntmps10; go_wp2; go_ret3; exact ⟨rfl, Drawn0.refl _⟩)
      · by_cases c2 : (s.size : Int) - (m - 3) < o
        · rw [if_neg c1, if_pos (by omega)] at h3
          first
          | (exfalso; omega)
          | (go_enter Try.func10, Try.ntmps10; go_wp2; go_ret3; exact ⟨rfl, Drawn0.refl _⟩)
        · rw [if_neg c1, if_neg (by omega)] at h3
          first
          | (exfalso; omega)
          | (go_enter Try.func10, Try.ntmps10; go_wp2; go_ret3; exact ⟨rfl, Drawn0.refl _⟩)
    · have k1 : (0 : Int) ≤ m - 3 := by omega
      have k2 : m - 3 ≤ (s.size : Int) := by omega
      have k3 : (3 : Int) ≤ m := by omega
      have k4 : m ≤ (s.size : Int) + 3 := by omega
      unfold abO at h3
      by_cases c1 : (s.size : Int) < o
      · rw [if_pos c1, if_pos (by omega)] at h3
        have c2 : (s.size : Int) - (m - 3) < s.size := by omega
        first
        | (exfalso; omega)
        | (go_enter Try.func10, Try.ntmps10; go_wp2; go_ret3; exact ⟨rfl, Drawn0.refl _⟩)
      · by_cases c2 : (s.size : Int) - (m - 3) < o
        · rw [if_neg c1, if_pos (by omega)] at h3
          first
          | (exfalso; omega)
          | (go_enter Try.func10, Try.ntmps10; go_wp2; go_ret3; exact ⟨rfl, Drawn0.refl _⟩)
        · rw [if_neg c1, if_neg (by omega)] at h3
          first
          | (exfalso; omega)
          | (go_enter Try.func10, Try.ntmps10; go_wp2; go_ret3; exact ⟨rfl, Drawn0.refl _⟩)
set_option maxRecDepth 100000 in
theorem sab_tail (s : ByteArray) (o m : Int) (w : World) (hs : s.size ≤ 500) (ho : -1000000 ≤ o) (ho' : o ≤ 1000000) (hm' : m ≤ 1000000) (h : (s.toList == []) = false) (h1 : ¬ m < 4) (hsure : o ≤ 0 ∨ ¬ m < 7) (h2 : ¬ (s.size : Int) ≤ m) (h3 : ¬ abO s o m ≤ 4) (h5 : ¬ abO s o m + m - 3 < s.size) :
    Calls Try.prog 10 #[.string s, .int .i64 o, .int .i64 m] w fun e w' => e = .returned (.tuple #[.string (dots ++ s.extract ((s.size : Int) - (m - 3)).toNat s.size), .bool true, .bool true]) ∧ Drawn0 w w' := by
  rcases hsure with ho0 | hm7
  · have hz0 : ¬ o > 0 := by omega
    have k1 : (0 : Int) ≤ m - 3 := by omega
    have k2 : m - 3 ≤ (s.size : Int) := by omega
    have k3 : (3 : Int) ≤ m := by omega
    have k4 : m ≤ (s.size : Int) + 3 := by omega
    have k5 : (0 : Int) ≤ (s.size : Int) - (m - 3) := by omega
    have k6 : (s.size : Int) - (m - 3) ≤ s.size := by omega
    unfold abO at h3 h5
    by_cases c1 : (s.size : Int) < o
    · rw [if_pos c1, if_pos (by omega)] at h3 h5
      have c2 : (s.size : Int) - (m - 3) < s.size := by omega
      first
      | (exfalso; omega)
      | (go_enter Try.func10, Try.ntmps10; go_wp2; go_ret3; exact ⟨rfl, Drawn0.refl _⟩)
    · by_cases c2 : (s.size : Int) - (m - 3) < o
      · rw [if_neg c1, if_pos (by omega)] at h3 h5
        first
        | (exfalso; omega)
        | (go_enter Try.func10, Try.ntmps10; go_wp2; go_ret3; exact ⟨rfl, Drawn0.refl _⟩)
      · rw [if_neg c1, if_neg (by omega)] at h3 h5
        first
        | (exfalso; omega)
        | (go_enter Try.func10, Try.ntmps10; go_wp2; go_ret3; exact ⟨rfl, Drawn0.refl _⟩)
  · by_cases ho0 : o > 0
    · have k1 : (0 : Int) ≤ m - 3 := by omega
      have k2 : m - 3 ≤ (s.size : Int) := by omega
      have k3 : (3 : Int) ≤ m := by omega
      have k4 : m ≤ (s.size : Int) + 3 := by omega
      have k5 : (0 : Int) ≤ (s.size : Int) - (m - 3) := by omega
      have k6 : (s.size : Int) - (m - 3) ≤ s.size := by omega
      unfold abO at h3 h5
      by_cases c1 : (s.size : Int) < o
      · rw [if_pos c1, if_pos (by omega)] at h3 h5
        have c2 : (s.size : Int) - (m - 3) < s.size := by omega
        first
        | (exfalso; omega)
        | (go_enter Try.func10, Try.ntmps10; go_wp2; go_ret3; exact ⟨rfl, Drawn0.refl _⟩)
      · by_cases c2 : (s.size : Int) - (m - 3) < o
        · rw [if_neg c1, if_pos (by omega)] at h3 h5
          first
          | (exfalso; omega)
          | (go_enter Try.func10, Try.ntmps10; go_wp2; go_ret3; exact ⟨rfl, Drawn0.refl _⟩)
        · rw [if_neg c1, if_neg (by omega)] at h3 h5
          first
          | (exfalso; omega)
          | (go_enter Try.func10, Try.ntmps10; go_wp2; go_ret3; exact ⟨rfl, Drawn0.refl _⟩)
    · have k1 : (0 : Int) ≤ m - 3 := by omega
      have k2 : m - 3 ≤ (s.size : Int) := by omega
      have k3 : (3 : Int) ≤ m := by omega
      have k4 : m ≤ (s.size : Int) + 3 := by omega
      have k5 : (0 : Int) ≤ (s.size : Int) - (m - 3) := by omega
      have k6 : (s.size : Int) - (m - 3) ≤ s.size := by omega
      unfold abO at h3 h5
      by_cases c1 : (s.size : Int) < o
      · rw [if_pos c1, if_pos (by omega)] at h3 h5
        have c2 : (s.size : Int) - (m - 3) < s.size := by omega
        first
        | (exfalso; omega)
        | (go_enter Try.func10, Try.ntmps10; go_wp2; go_ret3; exact ⟨rfl, Drawn0.refl _⟩)
      · by_cases c2 : (s.size : Int) - (m - 3) < o
        · rw [if_neg c1, if_pos (by omega)] at h3 h5
          first
          | (exfalso; omega)
          | (go_enter Try.func10, Try.ntmps10; go_wp2; go_ret3; exact ⟨rfl, Drawn0.refl _⟩)
        · rw [if_neg c1, if_neg (by omega)] at h3 h5
          first
          | (exfalso; omega)
          | (go_enter Try.func10, Try.ntmps10; go_wp2; go_ret3; exact ⟨rfl, Drawn0.refl _⟩)
set_option maxRecDepth 100000 in
theorem sab_both (s : ByteArray) (o m : Int) (w : World) (hs : s.size ≤ 500) (ho : -1000000 ≤ o) (ho' : o ≤ 1000000) (hm' : m ≤ 1000000) (h : (s.toList == []) = false) (h1 : ¬ m < 4) (hsure : o ≤ 0 ∨ ¬ m < 7) (h2 : ¬ (s.size : Int) ≤ m) (h3 : ¬ abO s o m ≤ 4) (h5 : abO s o m + m - 3 < s.size) :
    Calls Try.prog 10 #[.string s, .int .i64 o, .int .i64 m] w fun e w' => e = .returned (.tuple #[.string (dots ++ ((s.extract (abO s o m).toNat s.size).extract 0 (m - 3 - 3).toNat ++ dots)), .bool true, .bool true]) ∧ Drawn0 w w' := by
  have H : ∀ (a : Int) (w : World), 4 < a → a + m - 3 < s.size → ¬ m < 7 → Calls Try.prog 10 #[.string (s.extract a.toNat s.size), .int .i64 0, .int .i64 (m - 3)] w fun e w' => e = .returned (.tuple #[.string ((s.extract a.toNat s.size).extract 0 (m - 3 - 3).toNat ++ dots), .bool true, .bool true]) ∧ Drawn0 w w' := by
    intro a w ha ham h7
    have hz : (s.extract a.toNat s.size).size = s.size - a.toNat := by simp [ByteArray.size_extract]
    refine sab_cut _ _ _ _ (by omega) (by omega) (by omega) (by omega) (by
      rw [ByteArray.toList_eq, beq_eq_false_iff_ne]
      intro h0
      have := congrArg List.length h0
      rw [size_list] at this
      simp only [List.length_nil] at this
      omega) (by omega) (.inl (by omega)) (by omega) ?_
    unfold abO
    rw [if_neg (by omega), if_neg (by omega)]
    omega
  unfold abO at h3 h5 ⊢
  by_cases c1 : o > (s.size : Int)
  · rw [if_pos c1, if_pos (by omega)] at h5
    omega
  · by_cases c2 : (s.size : Int) - o < m - 3
    · rw [if_neg c1, if_pos c2] at h5
      omega
    · rw [if_neg c1, if_neg c2] at h3 h5 ⊢
      have h7 : ¬ m < 7 := by omega
      have ho0 : o > 0 := by omega
      have HH := Lib.hid H
      clear H hsure
      have kd : dots.size ≤ 3 := by decide
      have k5 : (0 : Int) ≤ o := by omega
      have k6 : o ≤ (s.size : Int) := by omega
      have c3 : ¬ (s.size : Int) - (m - 3) < o := by omega
      have h6 : o + (m - 3) < (s.size : Int) := by omega
      go_enter Try.func10, Try.ntmps10
      go_wp2_with fail
      refine (HH.out o _ (by omega) h5 h7).mono ?_
      rintro e w' ⟨rfl, ⟨n, rfl⟩⟩
      go_wp2
      go_ret3
      exact ⟨rfl, ⟨n, rfl⟩⟩
def spec_Abbreviated.f (a0 : ByteArray) (a1 a2 : Int) : Option (ByteArray × Bool × Bool) :=
  if near a0 a1 a2 then (if a1 > 0 ∧ a2 < 7 ∧ ¬ a2 < 4 ∧ ¬ a0.toList = [] then some (ByteArray.empty, false, false) else some ((abF a0 a1 a2).getD ByteArray.empty, (abF a0 a1 a2).isSome, true)) else none
theorem spec_Abbreviated.calls (a0 : ByteArray) (a1 a2 : Int) (r1 : ByteArray) (r2 r3 : Bool) (w : World) (h : spec_Abbreviated.f a0 a1 a2 = some (r1, r2, r3)) :
    Calls Try.prog 10 #[.string a0, .int .i64 a1, .int .i64 a2] w fun e w' => e = .returned (.tuple #[.string r1, .bool r2, .bool r3]) ∧ Drawn0 w w' := by
  unfold spec_Abbreviated.f at h
  by_cases hn : near a0 a1 a2
  · rw [if_pos hn] at h
    obtain ⟨hs, ho, ho', hm⟩ := hn
    by_cases hu : a1 > 0 ∧ a2 < 7 ∧ ¬ a2 < 4 ∧ ¬ a0.toList = []
    · rw [if_pos hu] at h
      cases h
      exact sab_unsure a0 a1 a2 w (beq_eq_false_iff_ne.2 hu.2.2.2) hu.2.2.1 hu.1 hu.2.1
    · rw [if_neg hu] at h
      unfold abF at h
      by_cases c1 : a0.toList = []
      · rw [if_pos c1] at h; cases h; exact sab_empty a0 a1 a2 w c1
      rw [if_neg c1] at h
      have c1' := beq_eq_false_iff_ne.2 c1
      by_cases c2 : a2 < 4
      · rw [if_pos c2] at h; cases h; exact sab_small a0 a1 a2 w c1' c2
      rw [if_neg c2] at h
      have hsure : a1 ≤ 0 ∨ ¬ a2 < 7 := Classical.byContradiction fun hc => hu ⟨by omega, by omega, c2, c1⟩
      by_cases c3 : (a0.size : Int) ≤ a2
      · rw [if_pos c3] at h; cases h; exact sab_whole a0 a1 a2 w hs ho ho' hm c1' c2 hsure c3
      rw [if_neg c3] at h
      by_cases c4 : abO a0 a1 a2 ≤ 4
      · rw [if_pos c4] at h; cases h; exact sab_cut a0 a1 a2 w hs ho ho' hm c1' c2 hsure c3 c4
      rw [if_neg c4] at h
      by_cases c5 : a2 < 7
      · exfalso
        rcases hsure with h0 | h0
        · have : abO a0 a1 a2 ≤ 4 := by
            unfold abO
            rw [if_neg (by omega), if_neg (by omega)]
            omega
          exact c4 this
        · exact h0 c5
      rw [if_neg c5] at h
      by_cases c6 : abO a0 a1 a2 + a2 - 3 < a0.size
      · rw [if_pos c6] at h; cases h; exact sab_both a0 a1 a2 w hs ho ho' hm c1' c2 hsure c3 c4 c6
      · rw [if_neg c6] at h; cases h; exact sab_tail a0 a1 a2 w hs ho ho' hm c1' c2 hsure c3 c4 c6
  · rw [if_neg hn] at h
    cases h

end Go.Proofs.Ytmdehalchdgoeaa.P
