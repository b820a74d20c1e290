-- WRITTEN by xprint.py (a program of this session, over the kit's print) out of the translation. Not trusted: Lean checks it.
import Derived.Test.YtlhijjfbcgconaaGreatDoorZPx0
namespace Go.Proofs.YtlhijjfbcgconaaGreatDoor.P
open Go.RowKit Go.Proofs.YtlhijjfbcgconaaGreatDoorW.PrintWords Go.Proofs.YtlhijjfbcgconaaGreatDoorW.PrintLast Go.Proofs.YtlhijjfbcgconaaGreatDoorW.PrintMore
attribute [local go_sem] max2_int min2_int max_two min_two max_three min_three max_four min_four run_store_float   -- for this text's walks alone
set_option linter.unusedVariables false
set_option linter.unusedSimpArgs false

/-! ### semver_zzPart: function 61 -/
mutual
def semver_zzPart.l0 : Nat → ByteArray → Int → Option (Int)
  | 0, _, _ => none
  | k + 1, x0, x1 => if x1 < (x0.size : Int) then (if 0 ≤ x1 then (if (bt x0 x1) ≥ 48 then (if (bt x0 x1) ≤ 57 then (semver_zzPart.j1 k x0 x1 true) else (if (bt x0 x1) ≥ 97 then (if (bt x0 x1) ≤ 122 then (semver_zzPart.j1 k x0 x1 true) else (if (bt x0 x1) ≥ 65 then (if (bt x0 x1) ≤ 90 then (semver_zzPart.j1 k x0 x1 true) else (semver_zzPart.j1 k x0 x1 ((bt x0 x1) == 45))) else (semver_zzPart.j1 k x0 x1 ((bt x0 x1) == 45)))) else (if (bt x0 x1) ≥ 65 then (if (bt x0 x1) ≤ 90 then (semver_zzPart.j1 k x0 x1 true) else (semver_zzPart.j1 k x0 x1 ((bt x0 x1) == 45))) else (semver_zzPart.j1 k x0 x1 ((bt x0 x1) == 45))))) else (if (bt x0 x1) ≥ 97 then (if (bt x0 x1) ≤ 122 then (semver_zzPart.j1 k x0 x1 true) else (if (bt x0 x1) ≥ 65 then (if (bt x0 x1) ≤ 90 then (semver_zzPart.j1 k x0 x1 true) else (semver_zzPart.j1 k x0 x1 ((bt x0 x1) == 45))) else (semver_zzPart.j1 k x0 x1 ((bt x0 x1) == 45)))) else (if (bt x0 x1) ≥ 65 then (if (bt x0 x1) ≤ 90 then (semver_zzPart.j1 k x0 x1 true) else (semver_zzPart.j1 k x0 x1 ((bt x0 x1) == 45))) else (semver_zzPart.j1 k x0 x1 ((bt x0 x1) == 45))))) else (none)) else (semver_zzPart.j1 k x0 x1 false)
def semver_zzPart.j1 : Nat → ByteArray → Int → Bool → Option (Int)
  | 0, _, _, _ => none
  | k + 1, x0, x1, x50 => if x50 = true then (semver_zzPart.l0 k x0 (wrap64 (x1 + 1))) else (some x1)
end
def semver_zzPart.f (k : Nat) (a0 : ByteArray) (a1 : Int) : Option (Int) := semver_zzPart.l0 k a0 a1
theorem semver_zzPart.mono_l : ∀ k, (∀ y0 y1, LeO (semver_zzPart.l0 k y0 y1) (semver_zzPart.l0 (k + 1) y0 y1)) ∧ (∀ y0 y1 y2, LeO (semver_zzPart.j1 k y0 y1 y2) (semver_zzPart.j1 (k + 1) y0 y1 y2))
  | 0 => ⟨fun _ _ r h => by simp [semver_zzPart.l0] at h, fun _ _ _ r h => by simp [semver_zzPart.j1] at h⟩
  | k + 1 => by
    obtain ⟨ih0, ih1⟩ := semver_zzPart.mono_l k
    refine ⟨?_, ?_⟩
    · intro y0 y1
      unfold semver_zzPart.l0
      repeat' first
      | (with_reducible exact ih0 _ _)
      | (with_reducible exact ih1 _ _ _)
      | (with_reducible exact LeO.refl _)
      | (with_reducible exact LeO.none _)
      | (with_reducible refine LeO.ite ?_ ?_)
      | (with_reducible refine LeO.bind ?_ (fun _ => ?_))
      | exact ih0 _ _
      | exact ih1 _ _ _
      | exact LeO.none _
      | refine LeO.ite ?_ ?_
      | refine LeO.bind ?_ (fun _ => ?_)
    · intro y0 y1 y2
      unfold semver_zzPart.j1
      repeat' first
      | (with_reducible exact ih0 _ _)
      | (with_reducible exact ih1 _ _ _)
      | (with_reducible exact LeO.refl _)
      | (with_reducible exact LeO.none _)
      | (with_reducible refine LeO.ite ?_ ?_)
      | (with_reducible refine LeO.bind ?_ (fun _ => ?_))
      | exact ih0 _ _
      | exact ih1 _ _ _
      | exact LeO.none _
      | refine LeO.ite ?_ ?_
      | refine LeO.bind ?_ (fun _ => ?_)
theorem semver_zzPart.mono : ∀ a0 a1 k, LeO (semver_zzPart.f k a0 a1) (semver_zzPart.f (k + 1) a0 a1) := by
  intro a0 a1 k
  obtain ⟨ih0, ih1⟩ := semver_zzPart.mono_l k
  unfold semver_zzPart.f
  repeat' first
      | (with_reducible exact ih0 _ _)
      | (with_reducible exact ih1 _ _ _)
      | (with_reducible exact LeO.refl _)
      | (with_reducible exact LeO.none _)
      | (with_reducible refine LeO.ite ?_ ?_)
      | (with_reducible refine LeO.bind ?_ (fun _ => ?_))
      | exact ih0 _ _
      | exact ih1 _ _ _
      | exact LeO.none _
      | refine LeO.ite ?_ ?_
      | refine LeO.bind ?_ (fun _ => ?_)
set_option maxHeartbeats 8000000 in
set_option maxRecDepth 100000 in
theorem semver_zzPart.calls (k : Nat) (a0 : ByteArray) (a1 : Int) (r : Int) (w : World) (h : semver_zzPart.f k a0 a1 = some r) :
    Calls Tryz.prog 61 #[.string a0, .int .i64 a1] w fun e w' => e = .returned (.int .i64 r) ∧ Drawn0 w w' := by
  have H : (semver_zzPart.l0 k a0 a1) = some r := h
  clear h
  have H' := Aside0.mk H
  clear H
  go_enter Tryz.func61, Tryz.ntmps61
  go_wp2
  go_loopg [1] k (fun kq v1 w' => ∃ (x1_1 : Int), v1 = .int .i64 x1_1 ∧ Aside0 (semver_zzPart.l0 kq a0 x1_1 = some r) ∧ Aside0 (kq ≤ k) ∧ Drawn0 w w')
  case atStart => exact ⟨(a1), (by first | rfl | (simp only [bytesLe_not]; done) | (simp; done) | (simp [*]; done)), H', ⟨Nat.le_refl _⟩, by repeat (first | exact Drawn0.refl _ | apply Drawn0.step)⟩
  case round =>
    clear H'
    try clear p2
    obtain ⟨x1_1, rfl, HA, HK1, ⟨m1, rfl⟩⟩ := hrel
    cases gk with
    | zero => exact absurd HA.out (by simp [semver_zzPart.l0])
    | succ k1 =>
      have H := HA.out
      clear HA
      simp only [semver_zzPart.l0] at H
      have HC3 := Aside0.mk H
      clear H
      go_upto_region 1 with (fail)
      go_cut [50] (fun v50 wc => ∃ (kq : Nat) (x50_2 : Bool), v50 = .bool x50_2 ∧ Aside0 (semver_zzPart.j1 kq a0 x1_1 x50_2 = some r) ∧ Aside0 (kq ≤ k1) ∧ Drawn0 w wc)
      case first =>
        have H := HC3.out
        clear HC3
        by_cases c4 : x1_1 < (a0.size : Int)
        · rw [if_pos c4] at H
          have c4b0 : decide (x1_1 < (a0.size : Int)) = true := decide_eq_true c4
          clear c4
          (first | rw [c4b0] | (simp only [i64_w, i32_w]; rw [c4b0]) | skip)
          by_cases c5 : 0 ≤ x1_1
          · rw [if_pos c5] at H
            have c5b0 : decide (0 ≤ x1_1) = true := decide_eq_true c5
            clear c5
            by_cases c7 : (bt a0 x1_1) ≥ 48
            · rw [if_pos c7] at H
              have c7b0 : decide (48 ≤ (bt a0 x1_1)) = true := decide_eq_true c7
              clear c7
              by_cases c9 : (bt a0 x1_1) ≤ 57
              · rw [if_pos c9] at H
                have c9b0 : decide ((bt a0 x1_1) ≤ 57) = true := decide_eq_true c9
                clear c9
                as_aux_lemma =>
                  have H' := Aside0.mk H
                  clear H
                  have p6 : 0 ≤ (x1_1 : Int) := of_decide_eq_true (by first | (with_reducible assumption) | assumption)
                  have q6 : x1_1 < (a0.size : Int) := of_decide_eq_true (by first | (with_reducible assumption) | assumption)
                  have hx6 := bt_at a0 x1_1
                  replace p6 := eq_true p6
                  replace q6 := eq_true q6
                  have p8 : 0 ≤ (x1_1 : Int) := of_decide_eq_true (by first | (with_reducible assumption) | assumption)
                  have q8 : x1_1 < (a0.size : Int) := of_decide_eq_true (by first | (with_reducible assumption) | assumption)
                  have hx8 := bt_at a0 x1_1
                  replace p8 := eq_true p8
                  replace q8 := eq_true q8
                  go_wp2
                  go_meet
                  case rel => exact ⟨_, (true), (by first | rfl | (simp only [bytesLe_not]; done) | (simp; done) | (simp [*]; done)), H', ⟨by have := HK1.out; first | omega | exact Nat.le_refl _⟩, by repeat (first | exact Drawn0.refl _ | apply Drawn0.step)⟩
              · rw [if_neg c9] at H
                have c9b0 : decide ((bt a0 x1_1) ≤ 57) = false := decide_eq_false c9
                clear c9
                by_cases c11 : (bt a0 x1_1) ≥ 97
                · rw [if_pos c11] at H
                  have c11b0 : decide (97 ≤ (bt a0 x1_1)) = true := decide_eq_true c11
                  clear c11
                  by_cases c13 : (bt a0 x1_1) ≤ 122
                  · rw [if_pos c13] at H
                    have c13b0 : decide ((bt a0 x1_1) ≤ 122) = true := decide_eq_true c13
                    clear c13
                    as_aux_lemma =>
                      have H' := Aside0.mk H
                      clear H
                      have p6 : 0 ≤ (x1_1 : Int) := of_decide_eq_true (by first | (with_reducible assumption) | assumption)
                      have q6 : x1_1 < (a0.size : Int) := of_decide_eq_true (by first | (with_reducible assumption) | assumption)
                      have hx6 := bt_at a0 x1_1
                      replace p6 := eq_true p6
                      replace q6 := eq_true q6
                      have p8 : 0 ≤ (x1_1 : Int) := of_decide_eq_true (by first | (with_reducible assumption) | assumption)
                      have q8 : x1_1 < (a0.size : Int) := of_decide_eq_true (by first | (with_reducible assumption) | assumption)
                      have hx8 := bt_at a0 x1_1
                      replace p8 := eq_true p8
                      replace q8 := eq_true q8
                      have p10 : 0 ≤ (x1_1 : Int) := of_decide_eq_true (by first | (with_reducible assumption) | assumption)
                      have q10 : x1_1 < (a0.size : Int) := of_decide_eq_true (by first | (with_reducible assumption) | assumption)
                      have hx10 := bt_at a0 x1_1
                      replace p10 := eq_true p10
                      replace q10 := eq_true q10
                      have p12 : 0 ≤ (x1_1 : Int) := of_decide_eq_true (by first | (with_reducible assumption) | assumption)
                      have q12 : x1_1 < (a0.size : Int) := of_decide_eq_true (by first | (with_reducible assumption) | assumption)
                      have hx12 := bt_at a0 x1_1
                      replace p12 := eq_true p12
                      replace q12 := eq_true q12
                      go_wp2
                      go_meet
                      case rel => exact ⟨_, (true), (by first | rfl | (simp only [bytesLe_not]; done) | (simp; done) | (simp [*]; done)), H', ⟨by have := HK1.out; first | omega | exact Nat.le_refl _⟩, by repeat (first | exact Drawn0.refl _ | apply Drawn0.step)⟩
                  · rw [if_neg c13] at H
                    have c13b0 : decide ((bt a0 x1_1) ≤ 122) = false := decide_eq_false c13
                    clear c13
                    by_cases c15 : (bt a0 x1_1) ≥ 65
                    · rw [if_pos c15] at H
                      have c15b0 : decide (65 ≤ (bt a0 x1_1)) = true := decide_eq_true c15
                      clear c15
                      by_cases c17 : (bt a0 x1_1) ≤ 90
                      · rw [if_pos c17] at H
                        have c17b0 : decide ((bt a0 x1_1) ≤ 90) = true := decide_eq_true c17
                        clear c17
                        as_aux_lemma =>
                          have H' := Aside0.mk H
                          clear H
                          have p6 : 0 ≤ (x1_1 : Int) := of_decide_eq_true (by first | (with_reducible assumption) | assumption)
                          have q6 : x1_1 < (a0.size : Int) := of_decide_eq_true (by first | (with_reducible assumption) | assumption)
                          have hx6 := bt_at a0 x1_1
                          replace p6 := eq_true p6
                          replace q6 := eq_true q6
                          have p8 : 0 ≤ (x1_1 : Int) := of_decide_eq_true (by first | (with_reducible assumption) | assumption)
                          have q8 : x1_1 < (a0.size : Int) := of_decide_eq_true (by first | (with_reducible assumption) | assumption)
                          have hx8 := bt_at a0 x1_1
                          replace p8 := eq_true p8
                          replace q8 := eq_true q8
                          have p10 : 0 ≤ (x1_1 : Int) := of_decide_eq_true (by first | (with_reducible assumption) | assumption)
                          have q10 : x1_1 < (a0.size : Int) := of_decide_eq_true (by first | (with_reducible assumption) | assumption)
                          have hx10 := bt_at a0 x1_1
                          replace p10 := eq_true p10
                          replace q10 := eq_true q10
                          have p12 : 0 ≤ (x1_1 : Int) := of_decide_eq_true (by first | (with_reducible assumption) | assumption)
                          have q12 : x1_1 < (a0.size : Int) := of_decide_eq_true (by first | (with_reducible assumption) | assumption)
                          have hx12 := bt_at a0 x1_1
                          replace p12 := eq_true p12
                          replace q12 := eq_true q12
                          have p14 : 0 ≤ (x1_1 : Int) := of_decide_eq_true (by first | (with_reducible assumption) | assumption)
                          have q14 : x1_1 < (a0.size : Int) := of_decide_eq_true (by first | (with_reducible assumption) | assumption)
                          have hx14 := bt_at a0 x1_1
                          replace p14 := eq_true p14
                          replace q14 := eq_true q14
                          have p16 : 0 ≤ (x1_1 : Int) := of_decide_eq_true (by first | (with_reducible assumption) | assumption)
                          have q16 : x1_1 < (a0.size : Int) := of_decide_eq_true (by first | (with_reducible assumption) | assumption)
                          have hx16 := bt_at a0 x1_1
                          replace p16 := eq_true p16
                          replace q16 := eq_true q16
                          go_wp2
                          go_meet
                          case rel => exact ⟨_, (true), (by first | rfl | (simp only [bytesLe_not]; done) | (simp; done) | (simp [*]; done)), H', ⟨by have := HK1.out; first | omega | exact Nat.le_refl _⟩, by repeat (first | exact Drawn0.refl _ | apply Drawn0.step)⟩
                      · rw [if_neg c17] at H
                        have c17b0 : decide ((bt a0 x1_1) ≤ 90) = false := decide_eq_false c17
                        clear c17
                        as_aux_lemma =>
                          have H' := Aside0.mk H
                          clear H
                          have p6 : 0 ≤ (x1_1 : Int) := of_decide_eq_true (by first | (with_reducible assumption) | assumption)
                          have q6 : x1_1 < (a0.size : Int) := of_decide_eq_true (by first | (with_reducible assumption) | assumption)
                          have hx6 := bt_at a0 x1_1
                          replace p6 := eq_true p6
                          replace q6 := eq_true q6
                          have p8 : 0 ≤ (x1_1 : Int) := of_decide_eq_true (by first | (with_reducible assumption) | assumption)
                          have q8 : x1_1 < (a0.size : Int) := of_decide_eq_true (by first | (with_reducible assumption) | assumption)
                          have hx8 := bt_at a0 x1_1
                          replace p8 := eq_true p8
                          replace q8 := eq_true q8
                          have p10 : 0 ≤ (x1_1 : Int) := of_decide_eq_true (by first | (with_reducible assumption) | assumption)
                          have q10 : x1_1 < (a0.size : Int) := of_decide_eq_true (by first | (with_reducible assumption) | assumption)
                          have hx10 := bt_at a0 x1_1
                          replace p10 := eq_true p10
                          replace q10 := eq_true q10
                          have p12 : 0 ≤ (x1_1 : Int) := of_decide_eq_true (by first | (with_reducible assumption) | assumption)
                          have q12 : x1_1 < (a0.size : Int) := of_decide_eq_true (by first | (with_reducible assumption) | assumption)
                          have hx12 := bt_at a0 x1_1
                          replace p12 := eq_true p12
                          replace q12 := eq_true q12
                          have p14 : 0 ≤ (x1_1 : Int) := of_decide_eq_true (by first | (with_reducible assumption) | assumption)
                          have q14 : x1_1 < (a0.size : Int) := of_decide_eq_true (by first | (with_reducible assumption) | assumption)
                          have hx14 := bt_at a0 x1_1
                          replace p14 := eq_true p14
                          replace q14 := eq_true q14
                          have p16 : 0 ≤ (x1_1 : Int) := of_decide_eq_true (by first | (with_reducible assumption) | assumption)
                          have q16 : x1_1 < (a0.size : Int) := of_decide_eq_true (by first | (with_reducible assumption) | assumption)
                          have hx16 := bt_at a0 x1_1
                          replace p16 := eq_true p16
                          replace q16 := eq_true q16
                          have p18 : 0 ≤ (x1_1 : Int) := of_decide_eq_true (by first | (with_reducible assumption) | assumption)
                          have q18 : x1_1 < (a0.size : Int) := of_decide_eq_true (by first | (with_reducible assumption) | assumption)
                          have hx18 := bt_at a0 x1_1
                          replace p18 := eq_true p18
                          replace q18 := eq_true q18
                          go_wp2
                          go_meet
                          case rel => exact ⟨_, (((bt a0 x1_1) == 45)), (by first | rfl | (simp only [bytesLe_not]; done) | (simp; done) | (simp [*]; done)), H', ⟨by have := HK1.out; first | omega | exact Nat.le_refl _⟩, by repeat (first | exact Drawn0.refl _ | apply Drawn0.step)⟩
                    · rw [if_neg c15] at H
                      have c15b0 : decide (65 ≤ (bt a0 x1_1)) = false := decide_eq_false c15
                      clear c15
                      as_aux_lemma =>
                        have H' := Aside0.mk H
                        clear H
                        have p6 : 0 ≤ (x1_1 : Int) := of_decide_eq_true (by first | (with_reducible assumption) | assumption)
                        have q6 : x1_1 < (a0.size : Int) := of_decide_eq_true (by first | (with_reducible assumption) | assumption)
                        have hx6 := bt_at a0 x1_1
                        replace p6 := eq_true p6
                        replace q6 := eq_true q6
                        have p8 : 0 ≤ (x1_1 : Int) := of_decide_eq_true (by first | (with_reducible assumption) | assumption)
                        have q8 : x1_1 < (a0.size : Int) := of_decide_eq_true (by first | (with_reducible assumption) | assumption)
                        have hx8 := bt_at a0 x1_1
                        replace p8 := eq_true p8
                        replace q8 := eq_true q8
                        have p10 : 0 ≤ (x1_1 : Int) := of_decide_eq_true (by first | (with_reducible assumption) | assumption)
                        have q10 : x1_1 < (a0.size : Int) := of_decide_eq_true (by first | (with_reducible assumption) | assumption)
                        have hx10 := bt_at a0 x1_1
                        replace p10 := eq_true p10
                        replace q10 := eq_true q10
                        have p12 : 0 ≤ (x1_1 : Int) := of_decide_eq_true (by first | (with_reducible assumption) | assumption)
                        have q12 : x1_1 < (a0.size : Int) := of_decide_eq_true (by first | (with_reducible assumption) | assumption)
                        have hx12 := bt_at a0 x1_1
                        replace p12 := eq_true p12
                        replace q12 := eq_true q12
                        have p14 : 0 ≤ (x1_1 : Int) := of_decide_eq_true (by first | (with_reducible assumption) | assumption)
                        have q14 : x1_1 < (a0.size : Int) := of_decide_eq_true (by first | (with_reducible assumption) | assumption)
                        have hx14 := bt_at a0 x1_1
                        replace p14 := eq_true p14
                        replace q14 := eq_true q14
                        have p19 : 0 ≤ (x1_1 : Int) := of_decide_eq_true (by first | (with_reducible assumption) | assumption)
                        have q19 : x1_1 < (a0.size : Int) := of_decide_eq_true (by first | (with_reducible assumption) | assumption)
                        have hx19 := bt_at a0 x1_1
                        replace p19 := eq_true p19
                        replace q19 := eq_true q19
                        go_wp2
                        go_meet
                        case rel => exact ⟨_, (((bt a0 x1_1) == 45)), (by first | rfl | (simp only [bytesLe_not]; done) | (simp; done) | (simp [*]; done)), H', ⟨by have := HK1.out; first | omega | exact Nat.le_refl _⟩, by repeat (first | exact Drawn0.refl _ | apply Drawn0.step)⟩
                · rw [if_neg c11] at H
                  have c11b0 : decide (97 ≤ (bt a0 x1_1)) = false := decide_eq_false c11
                  clear c11
                  by_cases c21 : (bt a0 x1_1) ≥ 65
                  · rw [if_pos c21] at H
                    have c21b0 : decide (65 ≤ (bt a0 x1_1)) = true := decide_eq_true c21
                    clear c21
                    by_cases c23 : (bt a0 x1_1) ≤ 90
                    · rw [if_pos c23] at H
                      have c23b0 : decide ((bt a0 x1_1) ≤ 90) = true := decide_eq_true c23
                      clear c23
                      as_aux_lemma =>
                        have H' := Aside0.mk H
                        clear H
                        have p6 : 0 ≤ (x1_1 : Int) := of_decide_eq_true (by first | (with_reducible assumption) | assumption)
                        have q6 : x1_1 < (a0.size : Int) := of_decide_eq_true (by first | (with_reducible assumption) | assumption)
                        have hx6 := bt_at a0 x1_1
                        replace p6 := eq_true p6
                        replace q6 := eq_true q6
                        have p8 : 0 ≤ (x1_1 : Int) := of_decide_eq_true (by first | (with_reducible assumption) | assumption)
                        have q8 : x1_1 < (a0.size : Int) := of_decide_eq_true (by first | (with_reducible assumption) | assumption)
                        have hx8 := bt_at a0 x1_1
                        replace p8 := eq_true p8
                        replace q8 := eq_true q8
                        have p10 : 0 ≤ (x1_1 : Int) := of_decide_eq_true (by first | (with_reducible assumption) | assumption)
                        have q10 : x1_1 < (a0.size : Int) := of_decide_eq_true (by first | (with_reducible assumption) | assumption)
                        have hx10 := bt_at a0 x1_1
                        replace p10 := eq_true p10
                        replace q10 := eq_true q10
                        have p20 : 0 ≤ (x1_1 : Int) := of_decide_eq_true (by first | (with_reducible assumption) | assumption)
                        have q20 : x1_1 < (a0.size : Int) := of_decide_eq_true (by first | (with_reducible assumption) | assumption)
                        have hx20 := bt_at a0 x1_1
                        replace p20 := eq_true p20
                        replace q20 := eq_true q20
                        have p22 : 0 ≤ (x1_1 : Int) := of_decide_eq_true (by first | (with_reducible assumption) | assumption)
                        have q22 : x1_1 < (a0.size : Int) := of_decide_eq_true (by first | (with_reducible assumption) | assumption)
                        have hx22 := bt_at a0 x1_1
                        replace p22 := eq_true p22
                        replace q22 := eq_true q22
                        go_wp2
                        go_meet
                        case rel => exact ⟨_, (true), (by first | rfl | (simp only [bytesLe_not]; done) | (simp; done) | (simp [*]; done)), H', ⟨by have := HK1.out; first | omega | exact Nat.le_refl _⟩, by repeat (first | exact Drawn0.refl _ | apply Drawn0.step)⟩
                    · rw [if_neg c23] at H
                      have c23b0 : decide ((bt a0 x1_1) ≤ 90) = false := decide_eq_false c23
                      clear c23
                      as_aux_lemma =>
                        have H' := Aside0.mk H
                        clear H
                        have p6 : 0 ≤ (x1_1 : Int) := of_decide_eq_true (by first | (with_reducible assumption) | assumption)
                        have q6 : x1_1 < (a0.size : Int) := of_decide_eq_true (by first | (with_reducible assumption) | assumption)
                        have hx6 := bt_at a0 x1_1
                        replace p6 := eq_true p6
                        replace q6 := eq_true q6
                        have p8 : 0 ≤ (x1_1 : Int) := of_decide_eq_true (by first | (with_reducible assumption) | assumption)
                        have q8 : x1_1 < (a0.size : Int) := of_decide_eq_true (by first | (with_reducible assumption) | assumption)
                        have hx8 := bt_at a0 x1_1
                        replace p8 := eq_true p8
                        replace q8 := eq_true q8
                        have p10 : 0 ≤ (x1_1 : Int) := of_decide_eq_true (by first | (with_reducible assumption) | assumption)
                        have q10 : x1_1 < (a0.size : Int) := of_decide_eq_true (by first | (with_reducible assumption) | assumption)
                        have hx10 := bt_at a0 x1_1
                        replace p10 := eq_true p10
                        replace q10 := eq_true q10
                        have p20 : 0 ≤ (x1_1 : Int) := of_decide_eq_true (by first | (with_reducible assumption) | assumption)
                        have q20 : x1_1 < (a0.size : Int) := of_decide_eq_true (by first | (with_reducible assumption) | assumption)
                        have hx20 := bt_at a0 x1_1
                        replace p20 := eq_true p20
                        replace q20 := eq_true q20
                        have p22 : 0 ≤ (x1_1 : Int) := of_decide_eq_true (by first | (with_reducible assumption) | assumption)
                        have q22 : x1_1 < (a0.size : Int) := of_decide_eq_true (by first | (with_reducible assumption) | assumption)
                        have hx22 := bt_at a0 x1_1
                        replace p22 := eq_true p22
                        replace q22 := eq_true q22
                        have p24 : 0 ≤ (x1_1 : Int) := of_decide_eq_true (by first | (with_reducible assumption) | assumption)
                        have q24 : x1_1 < (a0.size : Int) := of_decide_eq_true (by first | (with_reducible assumption) | assumption)
                        have hx24 := bt_at a0 x1_1
                        replace p24 := eq_true p24
                        replace q24 := eq_true q24
                        go_wp2
                        go_meet
                        case rel => exact ⟨_, (((bt a0 x1_1) == 45)), (by first | rfl | (simp only [bytesLe_not]; done) | (simp; done) | (simp [*]; done)), H', ⟨by have := HK1.out; first | omega | exact Nat.le_refl _⟩, by repeat (first | exact Drawn0.refl _ | apply Drawn0.step)⟩
                  · rw [if_neg c21] at H
                    have c21b0 : decide (65 ≤ (bt a0 x1_1)) = false := decide_eq_false c21
                    clear c21
                    as_aux_lemma =>
                      have H' := Aside0.mk H
                      clear H
                      have p6 : 0 ≤ (x1_1 : Int) := of_decide_eq_true (by first | (with_reducible assumption) | assumption)
                      have q6 : x1_1 < (a0.size : Int) := of_decide_eq_true (by first | (with_reducible assumption) | assumption)
                      have hx6 := bt_at a0 x1_1
                      replace p6 := eq_true p6
                      replace q6 := eq_true q6
                      have p8 : 0 ≤ (x1_1 : Int) := of_decide_eq_true (by first | (with_reducible assumption) | assumption)
                      have q8 : x1_1 < (a0.size : Int) := of_decide_eq_true (by first | (with_reducible assumption) | assumption)
                      have hx8 := bt_at a0 x1_1
                      replace p8 := eq_true p8
                      replace q8 := eq_true q8
                      have p10 : 0 ≤ (x1_1 : Int) := of_decide_eq_true (by first | (with_reducible assumption) | assumption)
                      have q10 : x1_1 < (a0.size : Int) := of_decide_eq_true (by first | (with_reducible assumption) | assumption)
                      have hx10 := bt_at a0 x1_1
                      replace p10 := eq_true p10
                      replace q10 := eq_true q10
                      have p20 : 0 ≤ (x1_1 : Int) := of_decide_eq_true (by first | (with_reducible assumption) | assumption)
                      have q20 : x1_1 < (a0.size : Int) := of_decide_eq_true (by first | (with_reducible assumption) | assumption)
                      have hx20 := bt_at a0 x1_1
                      replace p20 := eq_true p20
                      replace q20 := eq_true q20
                      have p25 : 0 ≤ (x1_1 : Int) := of_decide_eq_true (by first | (with_reducible assumption) | assumption)
                      have q25 : x1_1 < (a0.size : Int) := of_decide_eq_true (by first | (with_reducible assumption) | assumption)
                      have hx25 := bt_at a0 x1_1
                      replace p25 := eq_true p25
                      replace q25 := eq_true q25
                      go_wp2
                      go_meet
                      case rel => exact ⟨_, (((bt a0 x1_1) == 45)), (by first | rfl | (simp only [bytesLe_not]; done) | (simp; done) | (simp [*]; done)), H', ⟨by have := HK1.out; first | omega | exact Nat.le_refl _⟩, by repeat (first | exact Drawn0.refl _ | apply Drawn0.step)⟩
            · rw [if_neg c7] at H
              have c7b0 : decide (48 ≤ (bt a0 x1_1)) = false := decide_eq_false c7
              clear c7
              by_cases c27 : (bt a0 x1_1) ≥ 97
              · rw [if_pos c27] at H
                have c27b0 : decide (97 ≤ (bt a0 x1_1)) = true := decide_eq_true c27
                clear c27
                by_cases c29 : (bt a0 x1_1) ≤ 122
                · rw [if_pos c29] at H
                  have c29b0 : decide ((bt a0 x1_1) ≤ 122) = true := decide_eq_true c29
                  clear c29
                  as_aux_lemma =>
                    have H' := Aside0.mk H
                    clear H
                    have p6 : 0 ≤ (x1_1 : Int) := of_decide_eq_true (by first | (with_reducible assumption) | assumption)
                    have q6 : x1_1 < (a0.size : Int) := of_decide_eq_true (by first | (with_reducible assumption) | assumption)
                    have hx6 := bt_at a0 x1_1
                    replace p6 := eq_true p6
                    replace q6 := eq_true q6
                    have p26 : 0 ≤ (x1_1 : Int) := of_decide_eq_true (by first | (with_reducible assumption) | assumption)
                    have q26 : x1_1 < (a0.size : Int) := of_decide_eq_true (by first | (with_reducible assumption) | assumption)
                    have hx26 := bt_at a0 x1_1
                    replace p26 := eq_true p26
                    replace q26 := eq_true q26
                    have p28 : 0 ≤ (x1_1 : Int) := of_decide_eq_true (by first | (with_reducible assumption) | assumption)
                    have q28 : x1_1 < (a0.size : Int) := of_decide_eq_true (by first | (with_reducible assumption) | assumption)
                    have hx28 := bt_at a0 x1_1
                    replace p28 := eq_true p28
                    replace q28 := eq_true q28
                    go_wp2
                    go_meet
                    case rel => exact ⟨_, (true), (by first | rfl | (simp only [bytesLe_not]; done) | (simp; done) | (simp [*]; done)), H', ⟨by have := HK1.out; first | omega | exact Nat.le_refl _⟩, by repeat (first | exact Drawn0.refl _ | apply Drawn0.step)⟩
                · rw [if_neg c29] at H
                  have c29b0 : decide ((bt a0 x1_1) ≤ 122) = false := decide_eq_false c29
                  clear c29
                  by_cases c31 : (bt a0 x1_1) ≥ 65
                  · rw [if_pos c31] at H
                    have c31b0 : decide (65 ≤ (bt a0 x1_1)) = true := decide_eq_true c31
                    clear c31
                    by_cases c33 : (bt a0 x1_1) ≤ 90
                    · rw [if_pos c33] at H
                      have c33b0 : decide ((bt a0 x1_1) ≤ 90) = true := decide_eq_true c33
                      clear c33
                      as_aux_lemma =>
                        have H' := Aside0.mk H
                        clear H
                        have p6 : 0 ≤ (x1_1 : Int) := of_decide_eq_true (by first | (with_reducible assumption) | assumption)
                        have q6 : x1_1 < (a0.size : Int) := of_decide_eq_true (by first | (with_reducible assumption) | assumption)
                        have hx6 := bt_at a0 x1_1
                        replace p6 := eq_true p6
                        replace q6 := eq_true q6
                        have p26 : 0 ≤ (x1_1 : Int) := of_decide_eq_true (by first | (with_reducible assumption) | assumption)
                        have q26 : x1_1 < (a0.size : Int) := of_decide_eq_true (by first | (with_reducible assumption) | assumption)
                        have hx26 := bt_at a0 x1_1
                        replace p26 := eq_true p26
                        replace q26 := eq_true q26
                        have p28 : 0 ≤ (x1_1 : Int) := of_decide_eq_true (by first | (with_reducible assumption) | assumption)
                        have q28 : x1_1 < (a0.size : Int) := of_decide_eq_true (by first | (with_reducible assumption) | assumption)
                        have hx28 := bt_at a0 x1_1
                        replace p28 := eq_true p28
                        replace q28 := eq_true q28
                        have p30 : 0 ≤ (x1_1 : Int) := of_decide_eq_true (by first | (with_reducible assumption) | assumption)
                        have q30 : x1_1 < (a0.size : Int) := of_decide_eq_true (by first | (with_reducible assumption) | assumption)
                        have hx30 := bt_at a0 x1_1
                        replace p30 := eq_true p30
                        replace q30 := eq_true q30
                        have p32 : 0 ≤ (x1_1 : Int) := of_decide_eq_true (by first | (with_reducible assumption) | assumption)
                        have q32 : x1_1 < (a0.size : Int) := of_decide_eq_true (by first | (with_reducible assumption) | assumption)
                        have hx32 := bt_at a0 x1_1
                        replace p32 := eq_true p32
                        replace q32 := eq_true q32
                        go_wp2
                        go_meet
                        case rel => exact ⟨_, (true), (by first | rfl | (simp only [bytesLe_not]; done) | (simp; done) | (simp [*]; done)), H', ⟨by have := HK1.out; first | omega | exact Nat.le_refl _⟩, by repeat (first | exact Drawn0.refl _ | apply Drawn0.step)⟩
                    · rw [if_neg c33] at H
                      have c33b0 : decide ((bt a0 x1_1) ≤ 90) = false := decide_eq_false c33
                      clear c33
                      as_aux_lemma =>
                        have H' := Aside0.mk H
                        clear H
                        have p6 : 0 ≤ (x1_1 : Int) := of_decide_eq_true (by first | (with_reducible assumption) | assumption)
                        have q6 : x1_1 < (a0.size : Int) := of_decide_eq_true (by first | (with_reducible assumption) | assumption)
                        have hx6 := bt_at a0 x1_1
                        replace p6 := eq_true p6
                        replace q6 := eq_true q6
                        have p26 : 0 ≤ (x1_1 : Int) := of_decide_eq_true (by first | (with_reducible assumption) | assumption)
                        have q26 : x1_1 < (a0.size : Int) := of_decide_eq_true (by first | (with_reducible assumption) | assumption)
                        have hx26 := bt_at a0 x1_1
                        replace p26 := eq_true p26
                        replace q26 := eq_true q26
                        have p28 : 0 ≤ (x1_1 : Int) := of_decide_eq_true (by first | (with_reducible assumption) | assumption)
                        have q28 : x1_1 < (a0.size : Int) := of_decide_eq_true (by first | (with_reducible assumption) | assumption)
                        have hx28 := bt_at a0 x1_1
                        replace p28 := eq_true p28
                        replace q28 := eq_true q28
                        have p30 : 0 ≤ (x1_1 : Int) := of_decide_eq_true (by first | (with_reducible assumption) | assumption)
                        have q30 : x1_1 < (a0.size : Int) := of_decide_eq_true (by first | (with_reducible assumption) | assumption)
                        have hx30 := bt_at a0 x1_1
                        replace p30 := eq_true p30
                        replace q30 := eq_true q30
                        have p32 : 0 ≤ (x1_1 : Int) := of_decide_eq_true (by first | (with_reducible assumption) | assumption)
                        have q32 : x1_1 < (a0.size : Int) := of_decide_eq_true (by first | (with_reducible assumption) | assumption)
                        have hx32 := bt_at a0 x1_1
                        replace p32 := eq_true p32
                        replace q32 := eq_true q32
                        have p34 : 0 ≤ (x1_1 : Int) := of_decide_eq_true (by first | (with_reducible assumption) | assumption)
                        have q34 : x1_1 < (a0.size : Int) := of_decide_eq_true (by first | (with_reducible assumption) | assumption)
                        have hx34 := bt_at a0 x1_1
                        replace p34 := eq_true p34
                        replace q34 := eq_true q34
                        go_wp2
                        go_meet
                        case rel => exact ⟨_, (((bt a0 x1_1) == 45)), (by first | rfl | (simp only [bytesLe_not]; done) | (simp; done) | (simp [*]; done)), H', ⟨by have := HK1.out; first | omega | exact Nat.le_refl _⟩, by repeat (first | exact Drawn0.refl _ | apply Drawn0.step)⟩
                  · rw [if_neg c31] at H
                    have c31b0 : decide (65 ≤ (bt a0 x1_1)) = false := decide_eq_false c31
                    clear c31
                    as_aux_lemma =>
                      have H' := Aside0.mk H
                      clear H
                      have p6 : 0 ≤ (x1_1 : Int) := of_decide_eq_true (by first | (with_reducible assumption) | assumption)
                      have q6 : x1_1 < (a0.size : Int) := of_decide_eq_true (by first | (with_reducible assumption) | assumption)
                      have hx6 := bt_at a0 x1_1
                      replace p6 := eq_true p6
                      replace q6 := eq_true q6
                      have p26 : 0 ≤ (x1_1 : Int) := of_decide_eq_true (by first | (with_reducible assumption) | assumption)
                      have q26 : x1_1 < (a0.size : Int) := of_decide_eq_true (by first | (with_reducible assumption) | assumption)
                      have hx26 := bt_at a0 x1_1
                      replace p26 := eq_true p26
                      replace q26 := eq_true q26
                      have p28 : 0 ≤ (x1_1 : Int) := of_decide_eq_true (by first | (with_reducible assumption) | assumption)
                      have q28 : x1_1 < (a0.size : Int) := of_decide_eq_true (by first | (with_reducible assumption) | assumption)
                      have hx28 := bt_at a0 x1_1
                      replace p28 := eq_true p28
                      replace q28 := eq_true q28
                      have p30 : 0 ≤ (x1_1 : Int) := of_decide_eq_true (by first | (with_reducible assumption) | assumption)
                      have q30 : x1_1 < (a0.size : Int) := of_decide_eq_true (by first | (with_reducible assumption) | assumption)
                      have hx30 := bt_at a0 x1_1
                      replace p30 := eq_true p30
                      replace q30 := eq_true q30
                      have p35 : 0 ≤ (x1_1 : Int) := of_decide_eq_true (by first | (with_reducible assumption) | assumption)
                      have q35 : x1_1 < (a0.size : Int) := of_decide_eq_true (by first | (with_reducible assumption) | assumption)
                      have hx35 := bt_at a0 x1_1
                      replace p35 := eq_true p35
                      replace q35 := eq_true q35
                      go_wp2
                      go_meet
                      case rel => exact ⟨_, (((bt a0 x1_1) == 45)), (by first | rfl | (simp only [bytesLe_not]; done) | (simp; done) | (simp [*]; done)), H', ⟨by have := HK1.out; first | omega | exact Nat.le_refl _⟩, by repeat (first | exact Drawn0.refl _ | apply Drawn0.step)⟩
              · rw [if_neg c27] at H
                have c27b0 : decide (97 ≤ (bt a0 x1_1)) = false := decide_eq_false c27
                clear c27
                by_cases c37 : (bt a0 x1_1) ≥ 65
                · rw [if_pos c37] at H
                  have c37b0 : decide (65 ≤ (bt a0 x1_1)) = true := decide_eq_true c37
                  clear c37
                  by_cases c39 : (bt a0 x1_1) ≤ 90
                  · rw [if_pos c39] at H
                    have c39b0 : decide ((bt a0 x1_1) ≤ 90) = true := decide_eq_true c39
                    clear c39
                    as_aux_lemma =>
                      have H' := Aside0.mk H
                      clear H
                      have p6 : 0 ≤ (x1_1 : Int) := of_decide_eq_true (by first | (with_reducible assumption) | assumption)
                      have q6 : x1_1 < (a0.size : Int) := of_decide_eq_true (by first | (with_reducible assumption) | assumption)
                      have hx6 := bt_at a0 x1_1
                      replace p6 := eq_true p6
                      replace q6 := eq_true q6
                      have p26 : 0 ≤ (x1_1 : Int) := of_decide_eq_true (by first | (with_reducible assumption) | assumption)
                      have q26 : x1_1 < (a0.size : Int) := of_decide_eq_true (by first | (with_reducible assumption) | assumption)
                      have hx26 := bt_at a0 x1_1
                      replace p26 := eq_true p26
                      replace q26 := eq_true q26
                      have p36 : 0 ≤ (x1_1 : Int) := of_decide_eq_true (by first | (with_reducible assumption) | assumption)
                      have q36 : x1_1 < (a0.size : Int) := of_decide_eq_true (by first | (with_reducible assumption) | assumption)
                      have hx36 := bt_at a0 x1_1
                      replace p36 := eq_true p36
                      replace q36 := eq_true q36
                      have p38 : 0 ≤ (x1_1 : Int) := of_decide_eq_true (by first | (with_reducible assumption) | assumption)
                      have q38 : x1_1 < (a0.size : Int) := of_decide_eq_true (by first | (with_reducible assumption) | assumption)
                      have hx38 := bt_at a0 x1_1
                      replace p38 := eq_true p38
                      replace q38 := eq_true q38
                      go_wp2
                      go_meet
                      case rel => exact ⟨_, (true), (by first | rfl | (simp only [bytesLe_not]; done) | (simp; done) | (simp [*]; done)), H', ⟨by have := HK1.out; first | omega | exact Nat.le_refl _⟩, by repeat (first | exact Drawn0.refl _ | apply Drawn0.step)⟩
                  · rw [if_neg c39] at H
                    have c39b0 : decide ((bt a0 x1_1) ≤ 90) = false := decide_eq_false c39
                    clear c39
                    as_aux_lemma =>
                      have H' := Aside0.mk H
                      clear H
                      have p6 : 0 ≤ (x1_1 : Int) := of_decide_eq_true (by first | (with_reducible assumption) | assumption)
                      have q6 : x1_1 < (a0.size : Int) := of_decide_eq_true (by first | (with_reducible assumption) | assumption)
                      have hx6 := bt_at a0 x1_1
                      replace p6 := eq_true p6
                      replace q6 := eq_true q6
                      have p26 : 0 ≤ (x1_1 : Int) := of_decide_eq_true (by first | (with_reducible assumption) | assumption)
                      have q26 : x1_1 < (a0.size : Int) := of_decide_eq_true (by first | (with_reducible assumption) | assumption)
                      have hx26 := bt_at a0 x1_1
                      replace p26 := eq_true p26
                      replace q26 := eq_true q26
                      have p36 : 0 ≤ (x1_1 : Int) := of_decide_eq_true (by first | (with_reducible assumption) | assumption)
                      have q36 : x1_1 < (a0.size : Int) := of_decide_eq_true (by first | (with_reducible assumption) | assumption)
                      have hx36 := bt_at a0 x1_1
                      replace p36 := eq_true p36
                      replace q36 := eq_true q36
                      have p38 : 0 ≤ (x1_1 : Int) := of_decide_eq_true (by first | (with_reducible assumption) | assumption)
                      have q38 : x1_1 < (a0.size : Int) := of_decide_eq_true (by first | (with_reducible assumption) | assumption)
                      have hx38 := bt_at a0 x1_1
                      replace p38 := eq_true p38
                      replace q38 := eq_true q38
                      have p40 : 0 ≤ (x1_1 : Int) := of_decide_eq_true (by first | (with_reducible assumption) | assumption)
                      have q40 : x1_1 < (a0.size : Int) := of_decide_eq_true (by first | (with_reducible assumption) | assumption)
                      have hx40 := bt_at a0 x1_1
                      replace p40 := eq_true p40
                      replace q40 := eq_true q40
                      go_wp2
                      go_meet
                      case rel => exact ⟨_, (((bt a0 x1_1) == 45)), (by first | rfl | (simp only [bytesLe_not]; done) | (simp; done) | (simp [*]; done)), H', ⟨by have := HK1.out; first | omega | exact Nat.le_refl _⟩, by repeat (first | exact Drawn0.refl _ | apply Drawn0.step)⟩
                · rw [if_neg c37] at H
                  have c37b0 : decide (65 ≤ (bt a0 x1_1)) = false := decide_eq_false c37
                  clear c37
                  as_aux_lemma =>
                    have H' := Aside0.mk H
                    clear H
                    have p6 : 0 ≤ (x1_1 : Int) := of_decide_eq_true (by first | (with_reducible assumption) | assumption)
                    have q6 : x1_1 < (a0.size : Int) := of_decide_eq_true (by first | (with_reducible assumption) | assumption)
                    have hx6 := bt_at a0 x1_1
                    replace p6 := eq_true p6
                    replace q6 := eq_true q6
                    have p26 : 0 ≤ (x1_1 : Int) := of_decide_eq_true (by first | (with_reducible assumption) | assumption)
                    have q26 : x1_1 < (a0.size : Int) := of_decide_eq_true (by first | (with_reducible assumption) | assumption)
                    have hx26 := bt_at a0 x1_1
                    replace p26 := eq_true p26
                    replace q26 := eq_true q26
                    have p36 : 0 ≤ (x1_1 : Int) := of_decide_eq_true (by first | (with_reducible assumption) | assumption)
                    have q36 : x1_1 < (a0.size : Int) := of_decide_eq_true (by first | (with_reducible assumption) | assumption)
                    have hx36 := bt_at a0 x1_1
                    replace p36 := eq_true p36
                    replace q36 := eq_true q36
                    have p41 : 0 ≤ (x1_1 : Int) := of_decide_eq_true (by first | (with_reducible assumption) | assumption)
                    have q41 : x1_1 < (a0.size : Int) := of_decide_eq_true (by first | (with_reducible assumption) | assumption)
                    have hx41 := bt_at a0 x1_1
                    replace p41 := eq_true p41
                    replace q41 := eq_true q41
                    go_wp2
                    go_meet
                    case rel => exact ⟨_, (((bt a0 x1_1) == 45)), (by first | rfl | (simp only [bytesLe_not]; done) | (simp; done) | (simp [*]; done)), H', ⟨by have := HK1.out; first | omega | exact Nat.le_refl _⟩, by repeat (first | exact Drawn0.refl _ | apply Drawn0.step)⟩
          · rw [if_neg c5] at H
            exact absurd H (by simp)
        · rw [if_neg c4] at H
          have c4b0 : decide (x1_1 < (a0.size : Int)) = false := decide_eq_false c4
          clear c4
          (first | rw [c4b0] | (simp only [i64_w, i32_w]; rw [c4b0]) | skip)
          as_aux_lemma =>
            have H' := Aside0.mk H
            clear H
            go_wp2
            go_meet
            case rel => exact ⟨_, (false), (by first | rfl | (simp only [bytesLe_not]; done) | (simp; done) | (simp [*]; done)), H', ⟨by have := HK1.out; first | omega | exact Nat.le_refl _⟩, by repeat (first | exact Drawn0.refl _ | apply Drawn0.step)⟩
      case rest =>
        clear HC3
        try clear c1
        try clear p1
        try clear q1
        try clear hx1
        try clear c2
        try clear p2
        try clear q2
        try clear hx2
        try clear c3
        try clear p3
        try clear q3
        try clear hx3
        try clear c4
        try clear c4b0
        try clear p4
        try clear q4
        try clear hx4
        try clear c5
        try clear c5b0
        try clear c6
        try clear p6
        try clear q6
        try clear hx6
        try clear c7
        try clear c7b0
        try clear p8
        try clear q8
        try clear hx8
        try clear c9
        try clear c9b0
        try clear p10
        try clear q10
        try clear hx10
        try clear c11
        try clear c11b0
        try clear p12
        try clear q12
        try clear hx12
        try clear c13
        try clear c13b0
        try clear p14
        try clear q14
        try clear hx14
        try clear c15
        try clear c15b0
        try clear p16
        try clear q16
        try clear hx16
        try clear c17
        try clear c17b0
        try clear p18
        try clear q18
        try clear hx18
        try clear p19
        try clear q19
        try clear hx19
        try clear p20
        try clear q20
        try clear hx20
        try clear c21
        try clear c21b0
        try clear p22
        try clear q22
        try clear hx22
        try clear c23
        try clear c23b0
        try clear p24
        try clear q24
        try clear hx24
        try clear p25
        try clear q25
        try clear hx25
        try clear p26
        try clear q26
        try clear hx26
        try clear c27
        try clear c27b0
        try clear p28
        try clear q28
        try clear hx28
        try clear c29
        try clear c29b0
        try clear p30
        try clear q30
        try clear hx30
        try clear c31
        try clear c31b0
        try clear p32
        try clear q32
        try clear hx32
        try clear c33
        try clear c33b0
        try clear p34
        try clear q34
        try clear hx34
        try clear p35
        try clear q35
        try clear hx35
        try clear p36
        try clear q36
        try clear hx36
        try clear c37
        try clear c37b0
        try clear p38
        try clear q38
        try clear hx38
        try clear c39
        try clear c39b0
        try clear p40
        try clear q40
        try clear hx40
        try clear p41
        try clear q41
        try clear hx41
        try clear p10
        try clear p12
        try clear p14
        try clear p16
        try clear p18
        try clear p19
        try clear p2
        try clear p20
        try clear p22
        try clear p24
        try clear p25
        try clear p26
        try clear p28
        try clear p30
        try clear p32
        try clear p34
        try clear p35
        try clear p36
        try clear p38
        try clear p40
        try clear p41
        try clear p6
        try clear p8
        try clear q10
        try clear q12
        try clear q14
        try clear q16
        try clear q18
        try clear q19
        try clear q20
        try clear q22
        try clear q24
        try clear q25
        try clear q26
        try clear q28
        try clear q30
        try clear q32
        try clear q34
        try clear q35
        try clear q36
        try clear q38
        try clear q40
        try clear q41
        try clear q6
        try clear q8
        obtain ⟨kq, x50_2, rfl, HA, HJ2, ⟨mc2, rfl⟩⟩ := hcut
        cases kq with
        | zero => exact absurd HA.out (by simp [semver_zzPart.j1])
        | succ kj2 =>
          have H := HA.out
          clear HA
          simp only [semver_zzPart.j1] at H
          by_cases c42 : x50_2 = true
          · subst c42
            have H1 : (semver_zzPart.l0 kj2 a0 (wrap64 (x1_1 + 1))) = some r := by rw [if_pos rfl] at H; exact H
            clear H
            have H := H1
            clear H1
            as_aux_lemma =>
              have H' := Aside0.mk H
              clear H
              go_wp2
              go_roundg kj2
              case measure => have := HK1.out; have := HJ2.out; omega
              case rel => exact ⟨(wrap64 (x1_1 + 1)), (by first | rfl | (simp only [bytesLe_not]; done) | (simp; done) | (simp [*]; done)), H', ⟨by have := HK1.out; have := HJ2.out; omega⟩, by repeat (first | exact Drawn0.refl _ | apply Drawn0.step)⟩
          · replace c42 := Bool.eq_false_iff.mpr c42
            subst c42
            have H1 : (some x1_1) = some r := by rw [if_neg (show ¬ (false = true) by decide)] at H; exact H
            clear H
            have H := H1
            clear H1
            as_aux_lemma =>
              obtain rfl := Option.some.inj H
              go_wp2
              go_ret
              exact ⟨by first | rfl | (simp only [bytesLe_not]; done) | (simp; done) | (simp [*]; done), by repeat (first | exact Drawn0.refl _ | apply Drawn0.step)⟩

end Go.Proofs.YtlhijjfbcgconaaGreatDoor.P

