-- WRITTEN by xprint.py (a program of this session, over the kit's print) out of the translation. Not trusted: Lean checks it.
import Derived.Test.YtlhijjfbcgconaaGreatDoorZPx0
namespace Go.Proofs.YtlhijjfbcgconaaGreatDoor.P
open Go.RowKit Go.Proofs.YtlhijjfbcgconaaGreatDoorW.PrintWords Go.Proofs.YtlhijjfbcgconaaGreatDoorW.PrintLast Go.Proofs.YtlhijjfbcgconaaGreatDoorW.PrintMore
attribute [local go_sem] max2_int min2_int max_two min_two max_three min_three max_four min_four run_store_float   -- for this text's walks alone
set_option linter.unusedVariables false
set_option linter.unusedSimpArgs false

/-! ### semver_zzMark: function 43 -/
mutual
def semver_zzMark.l0 : Nat → ByteArray → Int → Option (Int)
  | 0, _, _ => none
  | k + 1, x0, x1 => if x1 < (x0.size : Int) then (if 0 ≤ x1 then (if (bt x0 x1) ≥ 48 then (if (bt x0 x1) ≤ 57 then (semver_zzMark.j1 k x0 x1 true) else (if (bt x0 x1) = 120 then (semver_zzMark.j1 k x0 x1 true) else (if (bt x0 x1) = 88 then (semver_zzMark.j1 k x0 x1 true) else (if (bt x0 x1) = 42 then (semver_zzMark.j1 k x0 x1 true) else (semver_zzMark.j1 k x0 x1 ((bt x0 x1) == 124)))))) else (if (bt x0 x1) = 120 then (semver_zzMark.j1 k x0 x1 true) else (if (bt x0 x1) = 88 then (semver_zzMark.j1 k x0 x1 true) else (if (bt x0 x1) = 42 then (semver_zzMark.j1 k x0 x1 true) else (semver_zzMark.j1 k x0 x1 ((bt x0 x1) == 124)))))) else (none)) else (semver_zzMark.j1 k x0 x1 false)
def semver_zzMark.j1 : Nat → ByteArray → Int → Bool → Option (Int)
  | 0, _, _, _ => none
  | k + 1, x0, x1, x44 => if x44 = true then (semver_zzMark.l0 k x0 (wrap64 (x1 + 1))) else (some x1)
end
def semver_zzMark.f (k : Nat) (a0 : ByteArray) (a1 : Int) : Option (Int) := semver_zzMark.l0 k a0 a1
theorem semver_zzMark.mono_l : ∀ k, (∀ y0 y1, LeO (semver_zzMark.l0 k y0 y1) (semver_zzMark.l0 (k + 1) y0 y1)) ∧ (∀ y0 y1 y2, LeO (semver_zzMark.j1 k y0 y1 y2) (semver_zzMark.j1 (k + 1) y0 y1 y2))
  | 0 => ⟨fun _ _ r h => by simp [semver_zzMark.l0] at h, fun _ _ _ r h => by simp [semver_zzMark.j1] at h⟩
  | k + 1 => by
    obtain ⟨ih0, ih1⟩ := semver_zzMark.mono_l k
    refine ⟨?_, ?_⟩
    · intro y0 y1
      unfold semver_zzMark.l0
      repeat' first
      | (with_reducible exact ih0 _ _)
      | (with_reducible exact ih1 _ _ _)
      | (with_reducible exact LeO.refl _)
      | (with_reducible exact LeO.none _)
      | (with_reducible refine LeO.ite ?_ ?_)
      | (with_reducible refine LeO.bind ?_ (fun _ => ?_))
      | exact ih0 _ _
      | exact ih1 _ _ _
      | exact LeO.none _
      | refine LeO.ite ?_ ?_
      | refine LeO.bind ?_ (fun _ => ?_)
    · intro y0 y1 y2
      unfold semver_zzMark.j1
      repeat' first
      | (with_reducible exact ih0 _ _)
      | (with_reducible exact ih1 _ _ _)
      | (with_reducible exact LeO.refl _)
      | (with_reducible exact LeO.none _)
      | (with_reducible refine LeO.ite ?_ ?_)
      | (with_reducible refine LeO.bind ?_ (fun _ => ?_))
      | exact ih0 _ _
      | exact ih1 _ _ _
      | exact LeO.none _
      | refine LeO.ite ?_ ?_
      | refine LeO.bind ?_ (fun _ => ?_)
theorem semver_zzMark.mono : ∀ a0 a1 k, LeO (semver_zzMark.f k a0 a1) (semver_zzMark.f (k + 1) a0 a1) := by
  intro a0 a1 k
  obtain ⟨ih0, ih1⟩ := semver_zzMark.mono_l k
  unfold semver_zzMark.f
  repeat' first
      | (with_reducible exact ih0 _ _)
      | (with_reducible exact ih1 _ _ _)
      | (with_reducible exact LeO.refl _)
      | (with_reducible exact LeO.none _)
      | (with_reducible refine LeO.ite ?_ ?_)
      | (with_reducible refine LeO.bind ?_ (fun _ => ?_))
      | exact ih0 _ _
      | exact ih1 _ _ _
      | exact LeO.none _
      | refine LeO.ite ?_ ?_
      | refine LeO.bind ?_ (fun _ => ?_)
set_option maxHeartbeats 8000000 in
set_option maxRecDepth 100000 in
theorem semver_zzMark.calls (k : Nat) (a0 : ByteArray) (a1 : Int) (r : Int) (w : World) (h : semver_zzMark.f k a0 a1 = some r) :
    Calls Tryz.prog 43 #[.string a0, .int .i64 a1] w fun e w' => e = .returned (.int .i64 r) ∧ Drawn0 w w' := by
  have H : (semver_zzMark.l0 k a0 a1) = some r := h
  clear h
  have H' := Aside0.mk H
  clear H
  go_enter Tryz.func43, Tryz.ntmps43
  go_wp2
  go_loopg [1] k (fun kq v1 w' => ∃ (x1_1 : Int), v1 = .int .i64 x1_1 ∧ Aside0 (semver_zzMark.l0 kq a0 x1_1 = some r) ∧ Aside0 (kq ≤ k) ∧ Drawn0 w w')
  case atStart => exact ⟨(a1), (by first | rfl | (simp only [bytesLe_not]; done) | (simp; done) | (simp [*]; done)), H', ⟨Nat.le_refl _⟩, by repeat (first | exact Drawn0.refl _ | apply Drawn0.step)⟩
  case round =>
    clear H'
    try clear p2
    obtain ⟨x1_1, rfl, HA, HK1, ⟨m1, rfl⟩⟩ := hrel
    cases gk with
    | zero => exact absurd HA.out (by simp [semver_zzMark.l0])
    | succ k1 =>
      have H := HA.out
      clear HA
      simp only [semver_zzMark.l0] at H
      have HC3 := Aside0.mk H
      clear H
      go_upto_region 1 with (fail)
      go_cut [44] (fun v44 wc => ∃ (kq : Nat) (x44_2 : Bool), v44 = .bool x44_2 ∧ Aside0 (semver_zzMark.j1 kq a0 x1_1 x44_2 = some r) ∧ Aside0 (kq ≤ k1) ∧ Drawn0 w wc)
      case first =>
        have H := HC3.out
        clear HC3
        by_cases c4 : x1_1 < (a0.size : Int)
        · rw [if_pos c4] at H
          have c4b0 : decide (x1_1 < (a0.size : Int)) = true := decide_eq_true c4
          clear c4
          (first | rw [c4b0] | (simp only [i64_w, i32_w]; rw [c4b0]) | skip)
          by_cases c5 : 0 ≤ x1_1
          · rw [if_pos c5] at H
            have c5b0 : decide (0 ≤ x1_1) = true := decide_eq_true c5
            clear c5
            by_cases c7 : (bt a0 x1_1) ≥ 48
            · rw [if_pos c7] at H
              have c7b0 : decide (48 ≤ (bt a0 x1_1)) = true := decide_eq_true c7
              clear c7
              by_cases c9 : (bt a0 x1_1) ≤ 57
              · rw [if_pos c9] at H
                have c9b0 : decide ((bt a0 x1_1) ≤ 57) = true := decide_eq_true c9
                clear c9
                as_aux_lemma =>
                  have H' := Aside0.mk H
                  clear H
                  have p6 : 0 ≤ (x1_1 : Int) := of_decide_eq_true (by first | (with_reducible assumption) | assumption)
                  have q6 : x1_1 < (a0.size : Int) := of_decide_eq_true (by first | (with_reducible assumption) | assumption)
                  have hx6 := bt_at a0 x1_1
                  replace p6 := eq_true p6
                  replace q6 := eq_true q6
                  have p8 : 0 ≤ (x1_1 : Int) := of_decide_eq_true (by first | (with_reducible assumption) | assumption)
                  have q8 : x1_1 < (a0.size : Int) := of_decide_eq_true (by first | (with_reducible assumption) | assumption)
                  have hx8 := bt_at a0 x1_1
                  replace p8 := eq_true p8
                  replace q8 := eq_true q8
                  go_wp2
                  go_meet
                  case rel => exact ⟨_, (true), (by first | rfl | (simp only [bytesLe_not]; done) | (simp; done) | (simp [*]; done)), H', ⟨by have := HK1.out; first | omega | exact Nat.le_refl _⟩, by repeat (first | exact Drawn0.refl _ | apply Drawn0.step)⟩
              · rw [if_neg c9] at H
                have c9b0 : decide ((bt a0 x1_1) ≤ 57) = false := decide_eq_false c9
                clear c9
                by_cases c11 : (bt a0 x1_1) = 120
                · rw [if_pos c11] at H
                  have c11b0 : ((bt a0 x1_1) == 120) = true := beq_iff_eq.mpr c11
                  have c11b1 : ((bt a0 x1_1) != 120) = false := bne_eq_false_iff_eq.mpr c11
                  clear c11
                  as_aux_lemma =>
                    have H' := Aside0.mk H
                    clear H
                    have p6 : 0 ≤ (x1_1 : Int) := of_decide_eq_true (by first | (with_reducible assumption) | assumption)
                    have q6 : x1_1 < (a0.size : Int) := of_decide_eq_true (by first | (with_reducible assumption) | assumption)
                    have hx6 := bt_at a0 x1_1
                    replace p6 := eq_true p6
                    replace q6 := eq_true q6
                    have p8 : 0 ≤ (x1_1 : Int) := of_decide_eq_true (by first | (with_reducible assumption) | assumption)
                    have q8 : x1_1 < (a0.size : Int) := of_decide_eq_true (by first | (with_reducible assumption) | assumption)
                    have hx8 := bt_at a0 x1_1
                    replace p8 := eq_true p8
                    replace q8 := eq_true q8
                    have p10 : 0 ≤ (x1_1 : Int) := of_decide_eq_true (by first | (with_reducible assumption) | assumption)
                    have q10 : x1_1 < (a0.size : Int) := of_decide_eq_true (by first | (with_reducible assumption) | assumption)
                    have hx10 := bt_at a0 x1_1
                    replace p10 := eq_true p10
                    replace q10 := eq_true q10
                    go_wp2
                    go_meet
                    case rel => exact ⟨_, (true), (by first | rfl | (simp only [bytesLe_not]; done) | (simp; done) | (simp [*]; done)), H', ⟨by have := HK1.out; first | omega | exact Nat.le_refl _⟩, by repeat (first | exact Drawn0.refl _ | apply Drawn0.step)⟩
                · rw [if_neg c11] at H
                  have c11b0 : ((bt a0 x1_1) == 120) = false := beq_eq_false_iff_ne.mpr c11
                  have c11b1 : ((bt a0 x1_1) != 120) = true := bne_iff_ne.mpr c11
                  by_cases c13 : (bt a0 x1_1) = 88
                  · rw [if_pos c13] at H
                    have c13b0 : ((bt a0 x1_1) == 88) = true := beq_iff_eq.mpr c13
                    have c13b1 : ((bt a0 x1_1) != 88) = false := bne_eq_false_iff_eq.mpr c13
                    clear c13
                    as_aux_lemma =>
                      have H' := Aside0.mk H
                      clear H
                      have p6 : 0 ≤ (x1_1 : Int) := of_decide_eq_true (by first | (with_reducible assumption) | assumption)
                      have q6 : x1_1 < (a0.size : Int) := of_decide_eq_true (by first | (with_reducible assumption) | assumption)
                      have hx6 := bt_at a0 x1_1
                      replace p6 := eq_true p6
                      replace q6 := eq_true q6
                      have p8 : 0 ≤ (x1_1 : Int) := of_decide_eq_true (by first | (with_reducible assumption) | assumption)
                      have q8 : x1_1 < (a0.size : Int) := of_decide_eq_true (by first | (with_reducible assumption) | assumption)
                      have hx8 := bt_at a0 x1_1
                      replace p8 := eq_true p8
                      replace q8 := eq_true q8
                      have p10 : 0 ≤ (x1_1 : Int) := of_decide_eq_true (by first | (with_reducible assumption) | assumption)
                      have q10 : x1_1 < (a0.size : Int) := of_decide_eq_true (by first | (with_reducible assumption) | assumption)
                      have hx10 := bt_at a0 x1_1
                      replace p10 := eq_true p10
                      replace q10 := eq_true q10
                      have p12 : 0 ≤ (x1_1 : Int) := of_decide_eq_true (by first | (with_reducible assumption) | assumption)
                      have q12 : x1_1 < (a0.size : Int) := of_decide_eq_true (by first | (with_reducible assumption) | assumption)
                      have hx12 := bt_at a0 x1_1
                      replace p12 := eq_true p12
                      replace q12 := eq_true q12
                      go_wp2
                      go_meet
                      case rel => exact ⟨_, (true), (by first | rfl | (simp only [bytesLe_not]; done) | (simp; done) | (simp [*]; done)), H', ⟨by have := HK1.out; first | omega | exact Nat.le_refl _⟩, by repeat (first | exact Drawn0.refl _ | apply Drawn0.step)⟩
                  · rw [if_neg c13] at H
                    have c13b0 : ((bt a0 x1_1) == 88) = false := beq_eq_false_iff_ne.mpr c13
                    have c13b1 : ((bt a0 x1_1) != 88) = true := bne_iff_ne.mpr c13
                    by_cases c15 : (bt a0 x1_1) = 42
                    · rw [if_pos c15] at H
                      have c15b0 : ((bt a0 x1_1) == 42) = true := beq_iff_eq.mpr c15
                      have c15b1 : ((bt a0 x1_1) != 42) = false := bne_eq_false_iff_eq.mpr c15
                      clear c15
                      as_aux_lemma =>
                        have H' := Aside0.mk H
                        clear H
                        have p6 : 0 ≤ (x1_1 : Int) := of_decide_eq_true (by first | (with_reducible assumption) | assumption)
                        have q6 : x1_1 < (a0.size : Int) := of_decide_eq_true (by first | (with_reducible assumption) | assumption)
                        have hx6 := bt_at a0 x1_1
                        replace p6 := eq_true p6
                        replace q6 := eq_true q6
                        have p8 : 0 ≤ (x1_1 : Int) := of_decide_eq_true (by first | (with_reducible assumption) | assumption)
                        have q8 : x1_1 < (a0.size : Int) := of_decide_eq_true (by first | (with_reducible assumption) | assumption)
                        have hx8 := bt_at a0 x1_1
                        replace p8 := eq_true p8
                        replace q8 := eq_true q8
                        have p10 : 0 ≤ (x1_1 : Int) := of_decide_eq_true (by first | (with_reducible assumption) | assumption)
                        have q10 : x1_1 < (a0.size : Int) := of_decide_eq_true (by first | (with_reducible assumption) | assumption)
                        have hx10 := bt_at a0 x1_1
                        replace p10 := eq_true p10
                        replace q10 := eq_true q10
                        have p12 : 0 ≤ (x1_1 : Int) := of_decide_eq_true (by first | (with_reducible assumption) | assumption)
                        have q12 : x1_1 < (a0.size : Int) := of_decide_eq_true (by first | (with_reducible assumption) | assumption)
                        have hx12 := bt_at a0 x1_1
                        replace p12 := eq_true p12
                        replace q12 := eq_true q12
                        have p14 : 0 ≤ (x1_1 : Int) := of_decide_eq_true (by first | (with_reducible assumption) | assumption)
                        have q14 : x1_1 < (a0.size : Int) := of_decide_eq_true (by first | (with_reducible assumption) | assumption)
                        have hx14 := bt_at a0 x1_1
                        replace p14 := eq_true p14
                        replace q14 := eq_true q14
                        go_wp2
                        go_meet
                        case rel => exact ⟨_, (true), (by first | rfl | (simp only [bytesLe_not]; done) | (simp; done) | (simp [*]; done)), H', ⟨by have := HK1.out; first | omega | exact Nat.le_refl _⟩, by repeat (first | exact Drawn0.refl _ | apply Drawn0.step)⟩
                    · rw [if_neg c15] at H
                      have c15b0 : ((bt a0 x1_1) == 42) = false := beq_eq_false_iff_ne.mpr c15
                      have c15b1 : ((bt a0 x1_1) != 42) = true := bne_iff_ne.mpr c15
                      as_aux_lemma =>
                        have H' := Aside0.mk H
                        clear H
                        have p6 : 0 ≤ (x1_1 : Int) := of_decide_eq_true (by first | (with_reducible assumption) | assumption)
                        have q6 : x1_1 < (a0.size : Int) := of_decide_eq_true (by first | (with_reducible assumption) | assumption)
                        have hx6 := bt_at a0 x1_1
                        replace p6 := eq_true p6
                        replace q6 := eq_true q6
                        have p8 : 0 ≤ (x1_1 : Int) := of_decide_eq_true (by first | (with_reducible assumption) | assumption)
                        have q8 : x1_1 < (a0.size : Int) := of_decide_eq_true (by first | (with_reducible assumption) | assumption)
                        have hx8 := bt_at a0 x1_1
                        replace p8 := eq_true p8
                        replace q8 := eq_true q8
                        have p10 : 0 ≤ (x1_1 : Int) := of_decide_eq_true (by first | (with_reducible assumption) | assumption)
                        have q10 : x1_1 < (a0.size : Int) := of_decide_eq_true (by first | (with_reducible assumption) | assumption)
                        have hx10 := bt_at a0 x1_1
                        replace p10 := eq_true p10
                        replace q10 := eq_true q10
                        have p12 : 0 ≤ (x1_1 : Int) := of_decide_eq_true (by first | (with_reducible assumption) | assumption)
                        have q12 : x1_1 < (a0.size : Int) := of_decide_eq_true (by first | (with_reducible assumption) | assumption)
                        have hx12 := bt_at a0 x1_1
                        replace p12 := eq_true p12
                        replace q12 := eq_true q12
                        have p14 : 0 ≤ (x1_1 : Int) := of_decide_eq_true (by first | (with_reducible assumption) | assumption)
                        have q14 : x1_1 < (a0.size : Int) := of_decide_eq_true (by first | (with_reducible assumption) | assumption)
                        have hx14 := bt_at a0 x1_1
                        replace p14 := eq_true p14
                        replace q14 := eq_true q14
                        have p16 : 0 ≤ (x1_1 : Int) := of_decide_eq_true (by first | (with_reducible assumption) | assumption)
                        have q16 : x1_1 < (a0.size : Int) := of_decide_eq_true (by first | (with_reducible assumption) | assumption)
                        have hx16 := bt_at a0 x1_1
                        replace p16 := eq_true p16
                        replace q16 := eq_true q16
                        go_wp2
                        go_meet
                        case rel => exact ⟨_, (((bt a0 x1_1) == 124)), (by first | rfl | (simp only [bytesLe_not]; done) | (simp; done) | (simp [*]; done)), H', ⟨by have := HK1.out; first | omega | exact Nat.le_refl _⟩, by repeat (first | exact Drawn0.refl _ | apply Drawn0.step)⟩
            · rw [if_neg c7] at H
              have c7b0 : decide (48 ≤ (bt a0 x1_1)) = false := decide_eq_false c7
              clear c7
              by_cases c18 : (bt a0 x1_1) = 120
              · rw [if_pos c18] at H
                have c18b0 : ((bt a0 x1_1) == 120) = true := beq_iff_eq.mpr c18
                have c18b1 : ((bt a0 x1_1) != 120) = false := bne_eq_false_iff_eq.mpr c18
                clear c18
                as_aux_lemma =>
                  have H' := Aside0.mk H
                  clear H
                  have p6 : 0 ≤ (x1_1 : Int) := of_decide_eq_true (by first | (with_reducible assumption) | assumption)
                  have q6 : x1_1 < (a0.size : Int) := of_decide_eq_true (by first | (with_reducible assumption) | assumption)
                  have hx6 := bt_at a0 x1_1
                  replace p6 := eq_true p6
                  replace q6 := eq_true q6
                  have p17 : 0 ≤ (x1_1 : Int) := of_decide_eq_true (by first | (with_reducible assumption) | assumption)
                  have q17 : x1_1 < (a0.size : Int) := of_decide_eq_true (by first | (with_reducible assumption) | assumption)
                  have hx17 := bt_at a0 x1_1
                  replace p17 := eq_true p17
                  replace q17 := eq_true q17
                  go_wp2
                  go_meet
                  case rel => exact ⟨_, (true), (by first | rfl | (simp only [bytesLe_not]; done) | (simp; done) | (simp [*]; done)), H', ⟨by have := HK1.out; first | omega | exact Nat.le_refl _⟩, by repeat (first | exact Drawn0.refl _ | apply Drawn0.step)⟩
              · rw [if_neg c18] at H
                have c18b0 : ((bt a0 x1_1) == 120) = false := beq_eq_false_iff_ne.mpr c18
                have c18b1 : ((bt a0 x1_1) != 120) = true := bne_iff_ne.mpr c18
                by_cases c20 : (bt a0 x1_1) = 88
                · rw [if_pos c20] at H
                  have c20b0 : ((bt a0 x1_1) == 88) = true := beq_iff_eq.mpr c20
                  have c20b1 : ((bt a0 x1_1) != 88) = false := bne_eq_false_iff_eq.mpr c20
                  clear c20
                  as_aux_lemma =>
                    have H' := Aside0.mk H
                    clear H
                    have p6 : 0 ≤ (x1_1 : Int) := of_decide_eq_true (by first | (with_reducible assumption) | assumption)
                    have q6 : x1_1 < (a0.size : Int) := of_decide_eq_true (by first | (with_reducible assumption) | assumption)
                    have hx6 := bt_at a0 x1_1
                    replace p6 := eq_true p6
                    replace q6 := eq_true q6
                    have p17 : 0 ≤ (x1_1 : Int) := of_decide_eq_true (by first | (with_reducible assumption) | assumption)
                    have q17 : x1_1 < (a0.size : Int) := of_decide_eq_true (by first | (with_reducible assumption) | assumption)
                    have hx17 := bt_at a0 x1_1
                    replace p17 := eq_true p17
                    replace q17 := eq_true q17
                    have p19 : 0 ≤ (x1_1 : Int) := of_decide_eq_true (by first | (with_reducible assumption) | assumption)
                    have q19 : x1_1 < (a0.size : Int) := of_decide_eq_true (by first | (with_reducible assumption) | assumption)
                    have hx19 := bt_at a0 x1_1
                    replace p19 := eq_true p19
                    replace q19 := eq_true q19
                    go_wp2
                    go_meet
                    case rel => exact ⟨_, (true), (by first | rfl | (simp only [bytesLe_not]; done) | (simp; done) | (simp [*]; done)), H', ⟨by have := HK1.out; first | omega | exact Nat.le_refl _⟩, by repeat (first | exact Drawn0.refl _ | apply Drawn0.step)⟩
                · rw [if_neg c20] at H
                  have c20b0 : ((bt a0 x1_1) == 88) = false := beq_eq_false_iff_ne.mpr c20
                  have c20b1 : ((bt a0 x1_1) != 88) = true := bne_iff_ne.mpr c20
                  by_cases c22 : (bt a0 x1_1) = 42
                  · rw [if_pos c22] at H
                    have c22b0 : ((bt a0 x1_1) == 42) = true := beq_iff_eq.mpr c22
                    have c22b1 : ((bt a0 x1_1) != 42) = false := bne_eq_false_iff_eq.mpr c22
                    clear c22
                    as_aux_lemma =>
                      have H' := Aside0.mk H
                      clear H
                      have p6 : 0 ≤ (x1_1 : Int) := of_decide_eq_true (by first | (with_reducible assumption) | assumption)
                      have q6 : x1_1 < (a0.size : Int) := of_decide_eq_true (by first | (with_reducible assumption) | assumption)
                      have hx6 := bt_at a0 x1_1
                      replace p6 := eq_true p6
                      replace q6 := eq_true q6
                      have p17 : 0 ≤ (x1_1 : Int) := of_decide_eq_true (by first | (with_reducible assumption) | assumption)
                      have q17 : x1_1 < (a0.size : Int) := of_decide_eq_true (by first | (with_reducible assumption) | assumption)
                      have hx17 := bt_at a0 x1_1
                      replace p17 := eq_true p17
                      replace q17 := eq_true q17
                      have p19 : 0 ≤ (x1_1 : Int) := of_decide_eq_true (by first | (with_reducible assumption) | assumption)
                      have q19 : x1_1 < (a0.size : Int) := of_decide_eq_true (by first | (with_reducible assumption) | assumption)
                      have hx19 := bt_at a0 x1_1
                      replace p19 := eq_true p19
                      replace q19 := eq_true q19
                      have p21 : 0 ≤ (x1_1 : Int) := of_decide_eq_true (by first | (with_reducible assumption) | assumption)
                      have q21 : x1_1 < (a0.size : Int) := of_decide_eq_true (by first | (with_reducible assumption) | assumption)
                      have hx21 := bt_at a0 x1_1
                      replace p21 := eq_true p21
                      replace q21 := eq_true q21
                      go_wp2
                      go_meet
                      case rel => exact ⟨_, (true), (by first | rfl | (simp only [bytesLe_not]; done) | (simp; done) | (simp [*]; done)), H', ⟨by have := HK1.out; first | omega | exact Nat.le_refl _⟩, by repeat (first | exact Drawn0.refl _ | apply Drawn0.step)⟩
                  · rw [if_neg c22] at H
                    have c22b0 : ((bt a0 x1_1) == 42) = false := beq_eq_false_iff_ne.mpr c22
                    have c22b1 : ((bt a0 x1_1) != 42) = true := bne_iff_ne.mpr c22
                    as_aux_lemma =>
                      have H' := Aside0.mk H
                      clear H
                      have p6 : 0 ≤ (x1_1 : Int) := of_decide_eq_true (by first | (with_reducible assumption) | assumption)
                      have q6 : x1_1 < (a0.size : Int) := of_decide_eq_true (by first | (with_reducible assumption) | assumption)
                      have hx6 := bt_at a0 x1_1
                      replace p6 := eq_true p6
                      replace q6 := eq_true q6
                      have p17 : 0 ≤ (x1_1 : Int) := of_decide_eq_true (by first | (with_reducible assumption) | assumption)
                      have q17 : x1_1 < (a0.size : Int) := of_decide_eq_true (by first | (with_reducible assumption) | assumption)
                      have hx17 := bt_at a0 x1_1
                      replace p17 := eq_true p17
                      replace q17 := eq_true q17
                      have p19 : 0 ≤ (x1_1 : Int) := of_decide_eq_true (by first | (with_reducible assumption) | assumption)
                      have q19 : x1_1 < (a0.size : Int) := of_decide_eq_true (by first | (with_reducible assumption) | assumption)
                      have hx19 := bt_at a0 x1_1
                      replace p19 := eq_true p19
                      replace q19 := eq_true q19
                      have p21 : 0 ≤ (x1_1 : Int) := of_decide_eq_true (by first | (with_reducible assumption) | assumption)
                      have q21 : x1_1 < (a0.size : Int) := of_decide_eq_true (by first | (with_reducible assumption) | assumption)
                      have hx21 := bt_at a0 x1_1
                      replace p21 := eq_true p21
                      replace q21 := eq_true q21
                      have p23 : 0 ≤ (x1_1 : Int) := of_decide_eq_true (by first | (with_reducible assumption) | assumption)
                      have q23 : x1_1 < (a0.size : Int) := of_decide_eq_true (by first | (with_reducible assumption) | assumption)
                      have hx23 := bt_at a0 x1_1
                      replace p23 := eq_true p23
                      replace q23 := eq_true q23
                      go_wp2
                      go_meet
                      case rel => exact ⟨_, (((bt a0 x1_1) == 124)), (by first | rfl | (simp only [bytesLe_not]; done) | (simp; done) | (simp [*]; done)), H', ⟨by have := HK1.out; first | omega | exact Nat.le_refl _⟩, by repeat (first | exact Drawn0.refl _ | apply Drawn0.step)⟩
          · rw [if_neg c5] at H
            exact absurd H (by simp)
        · rw [if_neg c4] at H
          have c4b0 : decide (x1_1 < (a0.size : Int)) = false := decide_eq_false c4
          clear c4
          (first | rw [c4b0] | (simp only [i64_w, i32_w]; rw [c4b0]) | skip)
          as_aux_lemma =>
            have H' := Aside0.mk H
            clear H
            go_wp2
            go_meet
            case rel => exact ⟨_, (false), (by first | rfl | (simp only [bytesLe_not]; done) | (simp; done) | (simp [*]; done)), H', ⟨by have := HK1.out; first | omega | exact Nat.le_refl _⟩, by repeat (first | exact Drawn0.refl _ | apply Drawn0.step)⟩
      case rest =>
        clear HC3
        try clear c1
        try clear p1
        try clear q1
        try clear hx1
        try clear c2
        try clear p2
        try clear q2
        try clear hx2
        try clear c4
        try clear c4b0
        try clear c5
        try clear c5b0
        try clear p6
        try clear q6
        try clear hx6
        try clear c7
        try clear c7b0
        try clear p8
        try clear q8
        try clear hx8
        try clear c9
        try clear c9b0
        try clear p10
        try clear q10
        try clear hx10
        try clear c11
        try clear c11b0
        try clear c11b1
        try clear p12
        try clear q12
        try clear hx12
        try clear c13
        try clear c13b0
        try clear c13b1
        try clear p14
        try clear q14
        try clear hx14
        try clear c15
        try clear c15b0
        try clear c15b1
        try clear p16
        try clear q16
        try clear hx16
        try clear p17
        try clear q17
        try clear hx17
        try clear c18
        try clear c18b0
        try clear c18b1
        try clear p19
        try clear q19
        try clear hx19
        try clear c20
        try clear c20b0
        try clear c20b1
        try clear p21
        try clear q21
        try clear hx21
        try clear c22
        try clear c22b0
        try clear c22b1
        try clear p23
        try clear q23
        try clear hx23
        try clear p10
        try clear p12
        try clear p14
        try clear p16
        try clear p17
        try clear p19
        try clear p2
        try clear p21
        try clear p23
        try clear p6
        try clear p8
        try clear q10
        try clear q12
        try clear q14
        try clear q16
        try clear q17
        try clear q19
        try clear q21
        try clear q23
        try clear q6
        try clear q8
        obtain ⟨kq, x44_2, rfl, HA, HJ2, ⟨mc2, rfl⟩⟩ := hcut
        cases kq with
        | zero => exact absurd HA.out (by simp [semver_zzMark.j1])
        | succ kj2 =>
          have H := HA.out
          clear HA
          simp only [semver_zzMark.j1] at H
          by_cases c24 : x44_2 = true
          · subst c24
            have H1 : (semver_zzMark.l0 kj2 a0 (wrap64 (x1_1 + 1))) = some r := by rw [if_pos rfl] at H; exact H
            clear H
            have H := H1
            clear H1
            as_aux_lemma =>
              have H' := Aside0.mk H
              clear H
              go_wp2
              go_roundg kj2
              case measure => have := HK1.out; have := HJ2.out; omega
              case rel => exact ⟨(wrap64 (x1_1 + 1)), (by first | rfl | (simp only [bytesLe_not]; done) | (simp; done) | (simp [*]; done)), H', ⟨by have := HK1.out; have := HJ2.out; omega⟩, by repeat (first | exact Drawn0.refl _ | apply Drawn0.step)⟩
          · replace c24 := Bool.eq_false_iff.mpr c24
            subst c24
            have H1 : (some x1_1) = some r := by rw [if_neg (show ¬ (false = true) by decide)] at H; exact H
            clear H
            have H := H1
            clear H1
            as_aux_lemma =>
              obtain rfl := Option.some.inj H
              go_wp2
              go_ret
              exact ⟨by first | rfl | (simp only [bytesLe_not]; done) | (simp; done) | (simp [*]; done), by repeat (first | exact Drawn0.refl _ | apply Drawn0.step)⟩

end Go.Proofs.YtlhijjfbcgconaaGreatDoor.P

