-- WRITTEN by xprint.py (a program of this session, over the kit's print) out of the translation. Not trusted: Lean checks it.
import Derived.Test.YtfnogloefimeiaaPx0
namespace Go.Proofs.Ytfnogloefimeiaa.P
open Go.RowKit Go.Proofs.YtfnogloefimeiaaW.PrintWords Go.Proofs.YtfnogloefimeiaaW.PrintLast Go.Proofs.YtfnogloefimeiaaW.PrintMore
attribute [local go_sem] max2_int min2_int max_two min_two max_three min_three max_four min_four   -- for this text's walks alone
set_option linter.unusedVariables false
set_option linter.unusedSimpArgs false

/-! ### sprig_trunc: function 43 -/
def sprig_trunc.j0 : Nat → Int → ByteArray → Bool → Option (ByteArray)
  | 0, _, _, _ => none
  | k + 1, x0, x1, x13 => if x13 = true then (if 0 ≤ (wrap64 ((x1.size : Int) + x0)) then (if (wrap64 ((x1.size : Int) + x0)) ≤ (x1.size : Int) then (some (x1.extract ((wrap64 ((x1.size : Int) + x0)) : Int).toNat x1.size)) else (none)) else (none)) else (if x0 ≥ 0 then (if (x1.size : Int) > x0 then (if 0 ≤ x0 then (if x0 ≤ (x1.size : Int) then (some (x1.extract 0 (x0 : Int).toNat)) else (none)) else (none)) else (some x1)) else (some x1))
def sprig_trunc.f (k : Nat) (a0 : Int) (a1 : ByteArray) : Option (ByteArray) := if a0 < 0 then (sprig_trunc.j0 k a0 a1 (decide ((wrap64 ((a1.size : Int) + a0)) > 0))) else (sprig_trunc.j0 k a0 a1 false)
theorem sprig_trunc.mono_l : ∀ k, (∀ y0 y1 y2, LeO (sprig_trunc.j0 k y0 y1 y2) (sprig_trunc.j0 (k + 1) y0 y1 y2))
  | 0 => fun _ _ _ r h => by simp [sprig_trunc.j0] at h
  | k + 1 => by
    have ih0 := sprig_trunc.mono_l k
    · intro y0 y1 y2
      unfold sprig_trunc.j0
      repeat' first
      | (with_reducible exact ih0 _ _ _)
      | (with_reducible exact LeO.refl _)
      | (with_reducible exact LeO.none _)
      | (with_reducible refine LeO.ite ?_ ?_)
      | (with_reducible refine LeO.bind ?_ (fun _ => ?_))
      | exact ih0 _ _ _
      | exact LeO.none _
      | refine LeO.ite ?_ ?_
      | refine LeO.bind ?_ (fun _ => ?_)
theorem sprig_trunc.mono : ∀ a0 a1 k, LeO (sprig_trunc.f k a0 a1) (sprig_trunc.f (k + 1) a0 a1) := by
  intro a0 a1 k
  have ih0 := sprig_trunc.mono_l k
  unfold sprig_trunc.f
  repeat' first
      | (with_reducible exact ih0 _ _ _)
      | (with_reducible exact LeO.refl _)
      | (with_reducible exact LeO.none _)
      | (with_reducible refine LeO.ite ?_ ?_)
      | (with_reducible refine LeO.bind ?_ (fun _ => ?_))
      | exact ih0 _ _ _
      | exact LeO.none _
      | refine LeO.ite ?_ ?_
      | refine LeO.bind ?_ (fun _ => ?_)
set_option maxHeartbeats 8000000 in
set_option maxRecDepth 100000 in
theorem sprig_trunc.calls (k : Nat) (a0 : Int) (a1 : ByteArray) (r : ByteArray) (w : World) (h : sprig_trunc.f k a0 a1 = some r) :
    Calls Try.prog 43 #[.int .i64 a0, .string a1] w fun e w' => e = .returned (.string r) ∧ Drawn0 w w' := by
  have H : (if a0 < 0 then (sprig_trunc.j0 k a0 a1 (decide ((wrap64 ((a1.size : Int) + a0)) > 0))) else (sprig_trunc.j0 k a0 a1 false)) = some r := h
  clear h
  have HC3 := Aside0.mk H
  clear H
  go_enter Try.func43, Try.ntmps43
  go_upto_region 1 with (fail)
  go_cut [13] (fun v13 wc => ∃ (kq : Nat) (x13_2 : Bool), v13 = .bool x13_2 ∧ Aside0 (sprig_trunc.j0 kq a0 a1 x13_2 = some r) ∧ Aside0 (kq ≤ k) ∧ Drawn0 w wc)
  case first =>
    have H := HC3.out
    clear HC3
    by_cases c4 : a0 < 0
    · rw [if_pos c4] at H
      have c4b0 : decide (a0 < 0) = true := decide_eq_true c4
      clear c4
      (first | rw [c4b0] | (simp only [i64_w, i32_w]; rw [c4b0]) | skip)
      have H' := Aside0.mk H
      clear H
      go_wp2
      go_meet
      case rel => exact ⟨_, (decide ((wrap64 ((a1.size : Int) + a0)) > 0)), (by first | rfl | (simp; done) | (simp [*]; done)), H', ⟨by first | omega | exact Nat.le_refl _⟩, by repeat (first | exact Drawn0.refl _ | apply Drawn0.step)⟩
    · rw [if_neg c4] at H
      have c4b0 : decide (a0 < 0) = false := decide_eq_false c4
      clear c4
      (first | rw [c4b0] | (simp only [i64_w, i32_w]; rw [c4b0]) | skip)
      have H' := Aside0.mk H
      clear H
      go_wp2
      go_meet
      case rel => exact ⟨_, (false), (by first | rfl | (simp; done) | (simp [*]; done)), H', ⟨by first | omega | exact Nat.le_refl _⟩, by repeat (first | exact Drawn0.refl _ | apply Drawn0.step)⟩
  case rest =>
    clear HC3
    try clear p2
    try clear c4
    try clear c4b0
    obtain ⟨kq, x13_2, rfl, HA, HJ2, ⟨mc2, rfl⟩⟩ := hcut
    cases kq with
    | zero => exact absurd HA.out (by simp [sprig_trunc.j0])
    | succ kj2 =>
      have H := HA.out
      clear HA
      simp only [sprig_trunc.j0] at H
      by_cases c5 : x13_2 = true
      · subst c5
        have H1 : (if 0 ≤ (wrap64 ((a1.size : Int) + a0)) then (if (wrap64 ((a1.size : Int) + a0)) ≤ (a1.size : Int) then (some (a1.extract ((wrap64 ((a1.size : Int) + a0)) : Int).toNat a1.size)) else (none)) else (none)) = some r := by rw [if_pos rfl] at H; exact H
        clear H
        have H := H1
        clear H1
        obtain ⟨ji6, hji6⟩ : ∃ j_ : Int, (wrap64 ((a1.size : Int) + a0)) = j_ := ⟨_, rfl⟩
        replace H : (if 0 ≤ (ji6) then (if (ji6) ≤ (a1.size : Int) then (some (a1.extract ((ji6) : Int).toNat a1.size)) else (none)) else (none)) = some r := by first | (rw [hji6] at H; exact H) | (simp only [hji6] at H ⊢; exact H)
        have hji6w : (IntKind.i64.wrap ((a1.size : Int) + a0)) = ji6 := (i64_w _).trans hji6
        by_cases c7 : 0 ≤ (ji6)
        · rw [if_pos c7] at H
          have c7b0 := eq_true c7
          have c7b1 : decide (0 ≤ (ji6)) = true := decide_eq_true c7
          clear c7
          by_cases c8 : (ji6) ≤ (a1.size : Int)
          · rw [if_pos c8] at H
            have c8b0 := eq_true c8
            have c8b1 : decide ((ji6) ≤ (a1.size : Int)) = true := decide_eq_true c8
            clear c8
            obtain rfl := Option.some.inj H
            go_wp2
            go_ret
            exact ⟨by first | rfl | (simp; done) | (simp only [← hji6] <;> (first | rfl | simp)) | (simp [*]; done), by repeat (first | exact Drawn0.refl _ | apply Drawn0.step)⟩
          · rw [if_neg c8] at H
            exact absurd H (by simp)
        · rw [if_neg c7] at H
          exact absurd H (by simp)
      · replace c5 := Bool.eq_false_iff.mpr c5
        subst c5
        have H1 : (if a0 ≥ 0 then (if (a1.size : Int) > a0 then (if 0 ≤ a0 then (if a0 ≤ (a1.size : Int) then (some (a1.extract 0 (a0 : Int).toNat)) else (none)) else (none)) else (some a1)) else (some a1)) = some r := by rw [if_neg (show ¬ (false = true) by decide)] at H; exact H
        clear H
        have H := H1
        clear H1
        by_cases c9 : a0 ≥ 0
        · rw [if_pos c9] at H
          have c9b0 : decide (0 ≤ a0) = true := decide_eq_true c9
          clear c9
          by_cases c10 : (a1.size : Int) > a0
          · rw [if_pos c10] at H
            have c10b0 : decide (a0 < (a1.size : Int)) = true := decide_eq_true c10
            clear c10
            by_cases c11 : 0 ≤ a0
            · rw [if_pos c11] at H
              have c11b0 := eq_true c11
              have c11b1 : decide (0 ≤ a0) = true := decide_eq_true c11
              clear c11
              by_cases c12 : a0 ≤ (a1.size : Int)
              · rw [if_pos c12] at H
                have c12b0 := eq_true c12
                have c12b1 : decide (a0 ≤ (a1.size : Int)) = true := decide_eq_true c12
                clear c12
                obtain rfl := Option.some.inj H
                go_wp2
                go_ret
                exact ⟨by first | rfl | (simp; done) | (simp [*]; done), by repeat (first | exact Drawn0.refl _ | apply Drawn0.step)⟩
              · rw [if_neg c12] at H
                exact absurd H (by simp)
            · rw [if_neg c11] at H
              exact absurd H (by simp)
          · rw [if_neg c10] at H
            have c10b0 : decide (a0 < (a1.size : Int)) = false := decide_eq_false c10
            clear c10
            obtain rfl := Option.some.inj H
            go_wp2
            go_ret
            exact ⟨by first | rfl | (simp; done) | (simp [*]; done), by repeat (first | exact Drawn0.refl _ | apply Drawn0.step)⟩
        · rw [if_neg c9] at H
          have c9b0 : decide (0 ≤ a0) = false := decide_eq_false c9
          clear c9
          obtain rfl := Option.some.inj H
          go_wp2
          go_ret
          exact ⟨by first | rfl | (simp; done) | (simp [*]; done), by repeat (first | exact Drawn0.refl _ | apply Drawn0.step)⟩

/-! ### sprig_Trunc: function 29 -/
def sprig_Trunc.f (k : Nat) (a0 : Int) (a1 : ByteArray) : Option (ByteArray) := (sprig_trunc.f k a0 a1).bind fun t101 => (some t101)
theorem sprig_Trunc.mono : ∀ a0 a1 k, LeO (sprig_Trunc.f k a0 a1) (sprig_Trunc.f (k + 1) a0 a1) := by
  intro a0 a1 k
  unfold sprig_Trunc.f
  repeat' first
      | (with_reducible exact sprig_trunc.mono _ _ _)
      | (with_reducible exact LeO.refl _)
      | (with_reducible exact LeO.none _)
      | (with_reducible refine LeO.ite ?_ ?_)
      | (with_reducible refine LeO.bind ?_ (fun _ => ?_))
      | exact sprig_trunc.mono _ _ _
      | exact LeO.none _
      | refine LeO.ite ?_ ?_
      | refine LeO.bind ?_ (fun _ => ?_)
set_option maxHeartbeats 8000000 in
set_option maxRecDepth 100000 in
theorem sprig_Trunc.calls (k : Nat) (a0 : Int) (a1 : ByteArray) (r : ByteArray) (w : World) (h : sprig_Trunc.f k a0 a1 = some r) :
    Calls Try.prog 29 #[.int .i64 a0, .string a1] w fun e w' => e = .returned (.string r) ∧ Drawn0 w w' := by
  have H : ((sprig_trunc.f k a0 a1).bind fun t101 => (some t101)) = some r := h
  clear h
  replace H := Option.bind_eq_some_iff.mp H
  obtain ⟨t101, A30, H⟩ := H
  replace H : (some t101) = some r := H
  have A3 := Aside0.mk A30
  clear A30
  obtain rfl := Option.some.inj H
  go_enter Try.func29, Try.ntmps29
  go_wp2_with (first | ((with_reducible refine gate_callee (f := 43) rfl ?_); refine goesL_ (some 7) rfl rfl Try.func43 (by kernel_rfl) rfl #[.int .i64 a0, .string a1] rfl (by (try simp only [List.map_toArray, List.map_cons, List.map_nil]); first | done | rfl | (simp only [List.length_drop, List.length_take]; rfl)) ?_; (with_reducible refine (sprig_trunc.calls k a0 a1 t101 _ A3.out).mono ?_); rintro e w' ⟨rfl, ⟨nd, rfl⟩⟩; refine ⟨_, rfl, ?_⟩))
  go_ret
  exact ⟨by first | rfl | (simp; done) | (simp [*]; done), by repeat (first | exact Drawn0.refl _ | apply Drawn0.step)⟩

-- NOT PRINTED: function 28 (impl_Trunc_1)

end Go.Proofs.Ytfnogloefimeiaa.P
