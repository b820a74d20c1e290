-- WRITTEN by xprint.py (a program of this session, over the kit's print) out of the translation. Not trusted: Lean checks it.
import Derived.Test.YtlhijjfbcgconaaGreatDoorZPx0
import Derived.Test.YtlhijjfbcgconaaGreatDoorZPx1
namespace Go.Proofs.YtlhijjfbcgconaaGreatDoor.P
open Go.RowKit Go.Proofs.YtlhijjfbcgconaaGreatDoorW.PrintWords Go.Proofs.YtlhijjfbcgconaaGreatDoorW.PrintLast Go.Proofs.YtlhijjfbcgconaaGreatDoorW.PrintMore
attribute [local go_sem] max2_int min2_int max_two min_two max_three min_three max_four min_four run_store_float   -- for this text's walks alone
set_option linter.unusedVariables false
set_option linter.unusedSimpArgs false

/-! ### spec_parts: function 15 -/
mutual
def spec_parts.l0 : Nat → ByteArray → Bool → Int → Int → Option (Bool)
  | 0, _, _, _, _ => none
  | k + 1, x0, x1, x5, x6 => if x6 ≤ (x0.size : Int) then (if x6 < (x0.size : Int) then (if 0 ≤ x6 then (spec_parts.j1 k x0 x1 x5 x6 ((bt x0 x6) != 46)) else (none)) else (spec_parts.j1 k x0 x1 x5 x6 false)) else (some true)
def spec_parts.j1 : Nat → ByteArray → Bool → Int → Int → Bool → Option (Bool)
  | 0, _, _, _, _, _ => none
  | k + 1, x0, x1, x5, x6, x23 => if x23 = true then (if 0 ≤ x6 then (if x6 < (x0.size : Int) then (if (bt x0 x6) ≥ 48 then (if (bt x0 x6) ≤ 57 then (spec_parts.j2 k x0 x1 x5 x6 (!true)) else (if (bt x0 x6) ≥ 97 then (if (bt x0 x6) ≤ 122 then (spec_parts.j2 k x0 x1 x5 x6 (!true)) else (if (bt x0 x6) ≥ 65 then (if (bt x0 x6) ≤ 90 then (spec_parts.j2 k x0 x1 x5 x6 (!true)) else (spec_parts.j2 k x0 x1 x5 x6 (!((bt x0 x6) == 45)))) else (spec_parts.j2 k x0 x1 x5 x6 (!((bt x0 x6) == 45))))) else (if (bt x0 x6) ≥ 65 then (if (bt x0 x6) ≤ 90 then (spec_parts.j2 k x0 x1 x5 x6 (!true)) else (spec_parts.j2 k x0 x1 x5 x6 (!((bt x0 x6) == 45)))) else (spec_parts.j2 k x0 x1 x5 x6 (!((bt x0 x6) == 45)))))) else (if (bt x0 x6) ≥ 97 then (if (bt x0 x6) ≤ 122 then (spec_parts.j2 k x0 x1 x5 x6 (!true)) else (if (bt x0 x6) ≥ 65 then (if (bt x0 x6) ≤ 90 then (spec_parts.j2 k x0 x1 x5 x6 (!true)) else (spec_parts.j2 k x0 x1 x5 x6 (!((bt x0 x6) == 45)))) else (spec_parts.j2 k x0 x1 x5 x6 (!((bt x0 x6) == 45))))) else (if (bt x0 x6) ≥ 65 then (if (bt x0 x6) ≤ 90 then (spec_parts.j2 k x0 x1 x5 x6 (!true)) else (spec_parts.j2 k x0 x1 x5 x6 (!((bt x0 x6) == 45)))) else (spec_parts.j2 k x0 x1 x5 x6 (!((bt x0 x6) == 45)))))) else (none)) else (none)) else (if x6 = x5 then (spec_parts.j3 k x0 x1 x6 true) else (if x1 = true then (if x6 > (wrap64 (x5 + 1)) then (if 0 ≤ x5 then (if x5 < (x0.size : Int) then (if (bt x0 x5) = 48 then (if x5 ≤ x6 then (if x6 ≤ (x0.size : Int) then ((spec_onlyDigits.f k (x0.extract (x5 : Int).toNat (x6 : Int).toNat)).bind fun t101 => (spec_parts.j3 k x0 x1 x6 t101)) else (none)) else (none)) else (spec_parts.j3 k x0 x1 x6 false)) else (none)) else (none)) else (spec_parts.j3 k x0 x1 x6 false)) else (spec_parts.j3 k x0 x1 x6 false)))
def spec_parts.j2 : Nat → ByteArray → Bool → Int → Int → Bool → Option (Bool)
  | 0, _, _, _, _, _ => none
  | k + 1, x0, x1, x5, x6, x53 => if x53 = true then (some false) else (spec_parts.l0 k x0 x1 x5 (wrap64 (x6 + 1)))
def spec_parts.j3 : Nat → ByteArray → Bool → Int → Bool → Option (Bool)
  | 0, _, _, _, _ => none
  | k + 1, x0, x1, x6, x78 => if x78 = true then (some false) else (spec_parts.l0 k x0 x1 (wrap64 (x6 + 1)) (wrap64 (x6 + 1)))
end
def spec_parts.f (k : Nat) (a0 : ByteArray) (a1 : Bool) : Option (Bool) := spec_parts.l0 k a0 a1 0 0
theorem spec_parts.mono_l : ∀ k, (∀ y0 y1 y2 y3, LeO (spec_parts.l0 k y0 y1 y2 y3) (spec_parts.l0 (k + 1) y0 y1 y2 y3)) ∧ (∀ y0 y1 y2 y3 y4, LeO (spec_parts.j1 k y0 y1 y2 y3 y4) (spec_parts.j1 (k + 1) y0 y1 y2 y3 y4)) ∧ (∀ y0 y1 y2 y3 y4, LeO (spec_parts.j2 k y0 y1 y2 y3 y4) (spec_parts.j2 (k + 1) y0 y1 y2 y3 y4)) ∧ (∀ y0 y1 y2 y3, LeO (spec_parts.j3 k y0 y1 y2 y3) (spec_parts.j3 (k + 1) y0 y1 y2 y3))
  | 0 => ⟨fun _ _ _ _ r h => by simp [spec_parts.l0] at h, fun _ _ _ _ _ r h => by simp [spec_parts.j1] at h, fun _ _ _ _ _ r h => by simp [spec_parts.j2] at h, fun _ _ _ _ r h => by simp [spec_parts.j3] at h⟩
  | k + 1 => by
    obtain ⟨ih0, ih1, ih2, ih3⟩ := spec_parts.mono_l k
    refine ⟨?_, ?_, ?_, ?_⟩
    · intro y0 y1 y2 y3
      unfold spec_parts.l0
      repeat' first
      | (with_reducible exact ih0 _ _ _ _)
      | (with_reducible exact ih1 _ _ _ _ _)
      | (with_reducible exact ih2 _ _ _ _ _)
      | (with_reducible exact ih3 _ _ _ _)
      | (with_reducible exact spec_onlyDigits.mono _ _)
      | (with_reducible exact LeO.refl _)
      | (with_reducible exact LeO.none _)
      | (with_reducible refine LeO.ite ?_ ?_)
      | (with_reducible refine LeO.bind ?_ (fun _ => ?_))
      | exact ih0 _ _ _ _
      | exact ih1 _ _ _ _ _
      | exact ih2 _ _ _ _ _
      | exact ih3 _ _ _ _
      | exact spec_onlyDigits.mono _ _
      | exact LeO.none _
      | refine LeO.ite ?_ ?_
      | refine LeO.bind ?_ (fun _ => ?_)
    · intro y0 y1 y2 y3 y4
      unfold spec_parts.j1
      repeat' first
      | (with_reducible exact ih0 _ _ _ _)
      | (with_reducible exact ih1 _ _ _ _ _)
      | (with_reducible exact ih2 _ _ _ _ _)
      | (with_reducible exact ih3 _ _ _ _)
      | (with_reducible exact spec_onlyDigits.mono _ _)
      | (with_reducible exact LeO.refl _)
      | (with_reducible exact LeO.none _)
      | (with_reducible refine LeO.ite ?_ ?_)
      | (with_reducible refine LeO.bind ?_ (fun _ => ?_))
      | exact ih0 _ _ _ _
      | exact ih1 _ _ _ _ _
      | exact ih2 _ _ _ _ _
      | exact ih3 _ _ _ _
      | exact spec_onlyDigits.mono _ _
      | exact LeO.none _
      | refine LeO.ite ?_ ?_
      | refine LeO.bind ?_ (fun _ => ?_)
    · intro y0 y1 y2 y3 y4
      unfold spec_parts.j2
      repeat' first
      | (with_reducible exact ih0 _ _ _ _)
      | (with_reducible exact ih1 _ _ _ _ _)
      | (with_reducible exact ih2 _ _ _ _ _)
      | (with_reducible exact ih3 _ _ _ _)
      | (with_reducible exact spec_onlyDigits.mono _ _)
      | (with_reducible exact LeO.refl _)
      | (with_reducible exact LeO.none _)
      | (with_reducible refine LeO.ite ?_ ?_)
      | (with_reducible refine LeO.bind ?_ (fun _ => ?_))
      | exact ih0 _ _ _ _
      | exact ih1 _ _ _ _ _
      | exact ih2 _ _ _ _ _
      | exact ih3 _ _ _ _
      | exact spec_onlyDigits.mono _ _
      | exact LeO.none _
      | refine LeO.ite ?_ ?_
      | refine LeO.bind ?_ (fun _ => ?_)
    · intro y0 y1 y2 y3
      unfold spec_parts.j3
      repeat' first
      | (with_reducible exact ih0 _ _ _ _)
      | (with_reducible exact ih1 _ _ _ _ _)
      | (with_reducible exact ih2 _ _ _ _ _)
      | (with_reducible exact ih3 _ _ _ _)
      | (with_reducible exact spec_onlyDigits.mono _ _)
      | (with_reducible exact LeO.refl _)
      | (with_reducible exact LeO.none _)
      | (with_reducible refine LeO.ite ?_ ?_)
      | (with_reducible refine LeO.bind ?_ (fun _ => ?_))
      | exact ih0 _ _ _ _
      | exact ih1 _ _ _ _ _
      | exact ih2 _ _ _ _ _
      | exact ih3 _ _ _ _
      | exact spec_onlyDigits.mono _ _
      | exact LeO.none _
      | refine LeO.ite ?_ ?_
      | refine LeO.bind ?_ (fun _ => ?_)
theorem spec_parts.mono : ∀ a0 a1 k, LeO (spec_parts.f k a0 a1) (spec_parts.f (k + 1) a0 a1) := by
  intro a0 a1 k
  obtain ⟨ih0, ih1, ih2, ih3⟩ := spec_parts.mono_l k
  unfold spec_parts.f
  repeat' first
      | (with_reducible exact ih0 _ _ _ _)
      | (with_reducible exact ih1 _ _ _ _ _)
      | (with_reducible exact ih2 _ _ _ _ _)
      | (with_reducible exact ih3 _ _ _ _)
      | (with_reducible exact spec_onlyDigits.mono _ _)
      | (with_reducible exact LeO.refl _)
      | (with_reducible exact LeO.none _)
      | (with_reducible refine LeO.ite ?_ ?_)
      | (with_reducible refine LeO.bind ?_ (fun _ => ?_))
      | exact ih0 _ _ _ _
      | exact ih1 _ _ _ _ _
      | exact ih2 _ _ _ _ _
      | exact ih3 _ _ _ _
      | exact spec_onlyDigits.mono _ _
      | exact LeO.none _
      | refine LeO.ite ?_ ?_
      | refine LeO.bind ?_ (fun _ => ?_)
set_option maxHeartbeats 8000000 in
set_option maxRecDepth 100000 in
theorem spec_parts.calls (k : Nat) (a0 : ByteArray) (a1 : Bool) (r : Bool) (w : World) (h : spec_parts.f k a0 a1 = some r) :
    Calls Tryz.prog 15 #[.string a0, .bool a1] w fun e w' => e = .returned (.bool r) ∧ Drawn0 w w' := by
  have H : (spec_parts.l0 k a0 a1 0 0) = some r := h
  clear h
  have H' := Aside0.mk H
  clear H
  go_enter Tryz.func15, Tryz.ntmps15
  go_wp2
  go_loopg [5, 6] k (fun kq v5 v6 w' => ∃ (x5_1 : Int) (x6_1 : Int), v5 = .int .i64 x5_1 ∧ v6 = .int .i64 x6_1 ∧ Aside0 (spec_parts.l0 kq a0 a1 x5_1 x6_1 = some r) ∧ Aside0 (kq ≤ k) ∧ Drawn0 w w')
  case atStart => exact ⟨(0), (0), (by first | rfl | (simp only [bytesLe_not]; done) | (simp; done) | (simp [*]; done)), (by first | rfl | (simp only [bytesLe_not]; done) | (simp; done) | (simp [*]; done)), H', ⟨Nat.le_refl _⟩, by repeat (first | exact Drawn0.refl _ | apply Drawn0.step)⟩
  case round =>
    clear H'
    try clear c1
    try clear p2
    obtain ⟨x5_1, x6_1, rfl, rfl, HA, HK1, ⟨m1, rfl⟩⟩ := hrel
    cases gk with
    | zero => exact absurd HA.out (by simp [spec_parts.l0])
    | succ k1 =>
      have H := HA.out
      clear HA
      simp only [spec_parts.l0] at H
      by_cases c3 : x6_1 ≤ (a0.size : Int)
      · rw [if_pos c3] at H
        have c3b0 : decide (x6_1 ≤ (a0.size : Int)) = true := decide_eq_true c3
        clear c3
        have HC4 := Aside0.mk H
        clear H
        go_upto_region 5 with (fail)
        go_cut [23] (fun v23 wc => ∃ (kq : Nat) (x23_3 : Bool), v23 = .bool x23_3 ∧ Aside0 (spec_parts.j1 kq a0 a1 x5_1 x6_1 x23_3 = some r) ∧ Aside0 (kq ≤ k1) ∧ Drawn0 w wc)
        case first =>
          have H := HC4.out
          clear HC4
          by_cases c5 : x6_1 < (a0.size : Int)
          · rw [if_pos c5] at H
            have c5b0 : decide (x6_1 < (a0.size : Int)) = true := decide_eq_true c5
            clear c5
            (first | rw [c5b0] | (simp only [i64_w, i32_w]; rw [c5b0]) | skip)
            by_cases c6 : 0 ≤ x6_1
            · rw [if_pos c6] at H
              have c6b0 : decide (0 ≤ x6_1) = true := decide_eq_true c6
              clear c6
              as_aux_lemma =>
                have H' := Aside0.mk H
                clear H
                have p7 : 0 ≤ (x6_1 : Int) := of_decide_eq_true (by first | (with_reducible assumption) | assumption)
                have q7 : x6_1 < (a0.size : Int) := of_decide_eq_true (by first | (with_reducible assumption) | assumption)
                have hx7 := bt_at a0 x6_1
                replace p7 := eq_true p7
                replace q7 := eq_true q7
                go_wp2
                go_meet
                case rel => exact ⟨_, (((bt a0 x6_1) != 46)), (by first | rfl | (simp only [bytesLe_not]; done) | (simp; done) | (simp [*]; done)), H', ⟨by have := HK1.out; first | omega | exact Nat.le_refl _⟩, by repeat (first | exact Drawn0.refl _ | apply Drawn0.step)⟩
            · rw [if_neg c6] at H
              exact absurd H (by simp)
          · rw [if_neg c5] at H
            have c5b0 : decide (x6_1 < (a0.size : Int)) = false := decide_eq_false c5
            clear c5
            (first | rw [c5b0] | (simp only [i64_w, i32_w]; rw [c5b0]) | skip)
            as_aux_lemma =>
              have H' := Aside0.mk H
              clear H
              go_wp2
              go_meet
              case rel => exact ⟨_, (false), (by first | rfl | (simp only [bytesLe_not]; done) | (simp; done) | (simp [*]; done)), H', ⟨by have := HK1.out; first | omega | exact Nat.le_refl _⟩, by repeat (first | exact Drawn0.refl _ | apply Drawn0.step)⟩
        case rest =>
          clear HC4
          try clear c1
          try clear p2
          try clear c3
          try clear c3b0
          try clear c5
          try clear c5b0
          try clear c6
          try clear c6b0
          try clear p7
          try clear q7
          try clear hx7
          try clear p2
          try clear p7
          try clear q7
          obtain ⟨kq, x23_3, rfl, HA, HJ3, ⟨mc3, rfl⟩⟩ := hcut
          cases kq with
          | zero => exact absurd HA.out (by simp [spec_parts.j1])
          | succ kj3 =>
            have H := HA.out
            clear HA
            simp only [spec_parts.j1] at H
            by_cases c8 : x23_3 = true
            · subst c8
              have H1 : (if 0 ≤ x6_1 then (if x6_1 < (a0.size : Int) then (if (bt a0 x6_1) ≥ 48 then (if (bt a0 x6_1) ≤ 57 then (spec_parts.j2 kj3 a0 a1 x5_1 x6_1 (!true)) else (if (bt a0 x6_1) ≥ 97 then (if (bt a0 x6_1) ≤ 122 then (spec_parts.j2 kj3 a0 a1 x5_1 x6_1 (!true)) else (if (bt a0 x6_1) ≥ 65 then (if (bt a0 x6_1) ≤ 90 then (spec_parts.j2 kj3 a0 a1 x5_1 x6_1 (!true)) else (spec_parts.j2 kj3 a0 a1 x5_1 x6_1 (!((bt a0 x6_1) == 45)))) else (spec_parts.j2 kj3 a0 a1 x5_1 x6_1 (!((bt a0 x6_1) == 45))))) else (if (bt a0 x6_1) ≥ 65 then (if (bt a0 x6_1) ≤ 90 then (spec_parts.j2 kj3 a0 a1 x5_1 x6_1 (!true)) else (spec_parts.j2 kj3 a0 a1 x5_1 x6_1 (!((bt a0 x6_1) == 45)))) else (spec_parts.j2 kj3 a0 a1 x5_1 x6_1 (!((bt a0 x6_1) == 45)))))) else (if (bt a0 x6_1) ≥ 97 then (if (bt a0 x6_1) ≤ 122 then (spec_parts.j2 kj3 a0 a1 x5_1 x6_1 (!true)) else (if (bt a0 x6_1) ≥ 65 then (if (bt a0 x6_1) ≤ 90 then (spec_parts.j2 kj3 a0 a1 x5_1 x6_1 (!true)) else (spec_parts.j2 kj3 a0 a1 x5_1 x6_1 (!((bt a0 x6_1) == 45)))) else (spec_parts.j2 kj3 a0 a1 x5_1 x6_1 (!((bt a0 x6_1) == 45))))) else (if (bt a0 x6_1) ≥ 65 then (if (bt a0 x6_1) ≤ 90 then (spec_parts.j2 kj3 a0 a1 x5_1 x6_1 (!true)) else (spec_parts.j2 kj3 a0 a1 x5_1 x6_1 (!((bt a0 x6_1) == 45)))) else (spec_parts.j2 kj3 a0 a1 x5_1 x6_1 (!((bt a0 x6_1) == 45)))))) else (none)) else (none)) = some r := by rw [if_pos rfl] at H; exact H
              clear H
              have H := H1
              clear H1
              by_cases c9 : 0 ≤ x6_1
              · rw [if_pos c9] at H
                have c9b0 : decide (0 ≤ x6_1) = true := decide_eq_true c9
                clear c9
                by_cases c10 : x6_1 < (a0.size : Int)
                · rw [if_pos c10] at H
                  have c10b0 : decide (x6_1 < (a0.size : Int)) = true := decide_eq_true c10
                  clear c10
                  have HC12 := Aside0.mk H
                  clear H
                  have p11 : 0 ≤ (x6_1 : Int) := of_decide_eq_true (by first | (with_reducible assumption) | assumption)
                  have q11 : x6_1 < (a0.size : Int) := of_decide_eq_true (by first | (with_reducible assumption) | assumption)
                  have hx11 := bt_at a0 x6_1
                  replace p11 := eq_true p11
                  replace q11 := eq_true q11
                  go_upto_region 7 with (fail)
                  go_cut [53] (fun v53 wc => ∃ (kq : Nat) (x53_11 : Bool), v53 = .bool x53_11 ∧ Aside0 (spec_parts.j2 kq a0 a1 x5_1 x6_1 x53_11 = some r) ∧ Aside0 (kq ≤ kj3) ∧ Drawn0 w wc)
                  case first =>
                    have H := HC12.out
                    clear HC12
                    by_cases c13 : (bt a0 x6_1) ≥ 48
                    · rw [if_pos c13] at H
                      have c13b0 : decide (48 ≤ (bt a0 x6_1)) = true := decide_eq_true c13
                      clear c13
                      (first | rw [c13b0] | (simp only [i64_w, i32_w]; rw [c13b0]) | skip)
                      by_cases c14 : (bt a0 x6_1) ≤ 57
                      · rw [if_pos c14] at H
                        have c14b0 : decide ((bt a0 x6_1) ≤ 57) = true := decide_eq_true c14
                        clear c14
                        as_aux_lemma =>
                          have H' := Aside0.mk H
                          clear H
                          go_wp2
                          go_meet
                          case rel => exact ⟨_, (!true), (by first | rfl | (simp only [bytesLe_not]; done) | (simp; done) | (simp [*]; done)), H', ⟨by have := HK1.out; have := HJ3.out; first | omega | exact Nat.le_refl _⟩, by repeat (first | exact Drawn0.refl _ | apply Drawn0.step)⟩
                      · rw [if_neg c14] at H
                        have c14b0 : decide ((bt a0 x6_1) ≤ 57) = false := decide_eq_false c14
                        clear c14
                        by_cases c15 : (bt a0 x6_1) ≥ 97
                        · rw [if_pos c15] at H
                          have c15b0 : decide (97 ≤ (bt a0 x6_1)) = true := decide_eq_true c15
                          clear c15
                          by_cases c16 : (bt a0 x6_1) ≤ 122
                          · rw [if_pos c16] at H
                            have c16b0 : decide ((bt a0 x6_1) ≤ 122) = true := decide_eq_true c16
                            clear c16
                            as_aux_lemma =>
                              have H' := Aside0.mk H
                              clear H
                              go_wp2
                              go_meet
                              case rel => exact ⟨_, (!true), (by first | rfl | (simp only [bytesLe_not]; done) | (simp; done) | (simp [*]; done)), H', ⟨by have := HK1.out; have := HJ3.out; first | omega | exact Nat.le_refl _⟩, by repeat (first | exact Drawn0.refl _ | apply Drawn0.step)⟩
                          · rw [if_neg c16] at H
                            have c16b0 : decide ((bt a0 x6_1) ≤ 122) = false := decide_eq_false c16
                            clear c16
                            by_cases c17 : (bt a0 x6_1) ≥ 65
                            · rw [if_pos c17] at H
                              have c17b0 : decide (65 ≤ (bt a0 x6_1)) = true := decide_eq_true c17
                              clear c17
                              by_cases c18 : (bt a0 x6_1) ≤ 90
                              · rw [if_pos c18] at H
                                have c18b0 : decide ((bt a0 x6_1) ≤ 90) = true := decide_eq_true c18
                                clear c18
                                as_aux_lemma =>
                                  have H' := Aside0.mk H
                                  clear H
                                  go_wp2
                                  go_meet
                                  case rel => exact ⟨_, (!true), (by first | rfl | (simp only [bytesLe_not]; done) | (simp; done) | (simp [*]; done)), H', ⟨by have := HK1.out; have := HJ3.out; first | omega | exact Nat.le_refl _⟩, by repeat (first | exact Drawn0.refl _ | apply Drawn0.step)⟩
                              · rw [if_neg c18] at H
                                have c18b0 : decide ((bt a0 x6_1) ≤ 90) = false := decide_eq_false c18
                                clear c18
                                as_aux_lemma =>
                                  have H' := Aside0.mk H
                                  clear H
                                  go_wp2
                                  go_meet
                                  case rel => exact ⟨_, (!((bt a0 x6_1) == 45)), (by first | rfl | (simp only [bytesLe_not]; done) | (simp; done) | (simp [*]; done)), H', ⟨by have := HK1.out; have := HJ3.out; first | omega | exact Nat.le_refl _⟩, by repeat (first | exact Drawn0.refl _ | apply Drawn0.step)⟩
                            · rw [if_neg c17] at H
                              have c17b0 : decide (65 ≤ (bt a0 x6_1)) = false := decide_eq_false c17
                              clear c17
                              as_aux_lemma =>
                                have H' := Aside0.mk H
                                clear H
                                go_wp2
                                go_meet
                                case rel => exact ⟨_, (!((bt a0 x6_1) == 45)), (by first | rfl | (simp only [bytesLe_not]; done) | (simp; done) | (simp [*]; done)), H', ⟨by have := HK1.out; have := HJ3.out; first | omega | exact Nat.le_refl _⟩, by repeat (first | exact Drawn0.refl _ | apply Drawn0.step)⟩
                        · rw [if_neg c15] at H
                          have c15b0 : decide (97 ≤ (bt a0 x6_1)) = false := decide_eq_false c15
                          clear c15
                          by_cases c19 : (bt a0 x6_1) ≥ 65
                          · rw [if_pos c19] at H
                            have c19b0 : decide (65 ≤ (bt a0 x6_1)) = true := decide_eq_true c19
                            clear c19
                            by_cases c20 : (bt a0 x6_1) ≤ 90
                            · rw [if_pos c20] at H
                              have c20b0 : decide ((bt a0 x6_1) ≤ 90) = true := decide_eq_true c20
                              clear c20
                              as_aux_lemma =>
                                have H' := Aside0.mk H
                                clear H
                                go_wp2
                                go_meet
                                case rel => exact ⟨_, (!true), (by first | rfl | (simp only [bytesLe_not]; done) | (simp; done) | (simp [*]; done)), H', ⟨by have := HK1.out; have := HJ3.out; first | omega | exact Nat.le_refl _⟩, by repeat (first | exact Drawn0.refl _ | apply Drawn0.step)⟩
                            · rw [if_neg c20] at H
                              have c20b0 : decide ((bt a0 x6_1) ≤ 90) = false := decide_eq_false c20
                              clear c20
                              as_aux_lemma =>
                                have H' := Aside0.mk H
                                clear H
                                go_wp2
                                go_meet
                                case rel => exact ⟨_, (!((bt a0 x6_1) == 45)), (by first | rfl | (simp only [bytesLe_not]; done) | (simp; done) | (simp [*]; done)), H', ⟨by have := HK1.out; have := HJ3.out; first | omega | exact Nat.le_refl _⟩, by repeat (first | exact Drawn0.refl _ | apply Drawn0.step)⟩
                          · rw [if_neg c19] at H
                            have c19b0 : decide (65 ≤ (bt a0 x6_1)) = false := decide_eq_false c19
                            clear c19
                            as_aux_lemma =>
                              have H' := Aside0.mk H
                              clear H
                              go_wp2
                              go_meet
                              case rel => exact ⟨_, (!((bt a0 x6_1) == 45)), (by first | rfl | (simp only [bytesLe_not]; done) | (simp; done) | (simp [*]; done)), H', ⟨by have := HK1.out; have := HJ3.out; first | omega | exact Nat.le_refl _⟩, by repeat (first | exact Drawn0.refl _ | apply Drawn0.step)⟩
                    · rw [if_neg c13] at H
                      have c13b0 : decide (48 ≤ (bt a0 x6_1)) = false := decide_eq_false c13
                      clear c13
                      (first | rw [c13b0] | (simp only [i64_w, i32_w]; rw [c13b0]) | skip)
                      by_cases c21 : (bt a0 x6_1) ≥ 97
                      · rw [if_pos c21] at H
                        have c21b0 : decide (97 ≤ (bt a0 x6_1)) = true := decide_eq_true c21
                        clear c21
                        by_cases c22 : (bt a0 x6_1) ≤ 122
                        · rw [if_pos c22] at H
                          have c22b0 : decide ((bt a0 x6_1) ≤ 122) = true := decide_eq_true c22
                          clear c22
                          as_aux_lemma =>
                            have H' := Aside0.mk H
                            clear H
                            go_wp2
                            go_meet
                            case rel => exact ⟨_, (!true), (by first | rfl | (simp only [bytesLe_not]; done) | (simp; done) | (simp [*]; done)), H', ⟨by have := HK1.out; have := HJ3.out; first | omega | exact Nat.le_refl _⟩, by repeat (first | exact Drawn0.refl _ | apply Drawn0.step)⟩
                        · rw [if_neg c22] at H
                          have c22b0 : decide ((bt a0 x6_1) ≤ 122) = false := decide_eq_false c22
                          clear c22
                          by_cases c23 : (bt a0 x6_1) ≥ 65
                          · rw [if_pos c23] at H
                            have c23b0 : decide (65 ≤ (bt a0 x6_1)) = true := decide_eq_true c23
                            clear c23
                            by_cases c24 : (bt a0 x6_1) ≤ 90
                            · rw [if_pos c24] at H
                              have c24b0 : decide ((bt a0 x6_1) ≤ 90) = true := decide_eq_true c24
                              clear c24
                              as_aux_lemma =>
                                have H' := Aside0.mk H
                                clear H
                                go_wp2
                                go_meet
                                case rel => exact ⟨_, (!true), (by first | rfl | (simp only [bytesLe_not]; done) | (simp; done) | (simp [*]; done)), H', ⟨by have := HK1.out; have := HJ3.out; first | omega | exact Nat.le_refl _⟩, by repeat (first | exact Drawn0.refl _ | apply Drawn0.step)⟩
                            · rw [if_neg c24] at H
                              have c24b0 : decide ((bt a0 x6_1) ≤ 90) = false := decide_eq_false c24
                              clear c24
                              as_aux_lemma =>
                                have H' := Aside0.mk H
                                clear H
                                go_wp2
                                go_meet
                                case rel => exact ⟨_, (!((bt a0 x6_1) == 45)), (by first | rfl | (simp only [bytesLe_not]; done) | (simp; done) | (simp [*]; done)), H', ⟨by have := HK1.out; have := HJ3.out; first | omega | exact Nat.le_refl _⟩, by repeat (first | exact Drawn0.refl _ | apply Drawn0.step)⟩
                          · rw [if_neg c23] at H
                            have c23b0 : decide (65 ≤ (bt a0 x6_1)) = false := decide_eq_false c23
                            clear c23
                            as_aux_lemma =>
                              have H' := Aside0.mk H
                              clear H
                              go_wp2
                              go_meet
                              case rel => exact ⟨_, (!((bt a0 x6_1) == 45)), (by first | rfl | (simp only [bytesLe_not]; done) | (simp; done) | (simp [*]; done)), H', ⟨by have := HK1.out; have := HJ3.out; first | omega | exact Nat.le_refl _⟩, by repeat (first | exact Drawn0.refl _ | apply Drawn0.step)⟩
                      · rw [if_neg c21] at H
                        have c21b0 : decide (97 ≤ (bt a0 x6_1)) = false := decide_eq_false c21
                        clear c21
                        by_cases c25 : (bt a0 x6_1) ≥ 65
                        · rw [if_pos c25] at H
                          have c25b0 : decide (65 ≤ (bt a0 x6_1)) = true := decide_eq_true c25
                          clear c25
                          by_cases c26 : (bt a0 x6_1) ≤ 90
                          · rw [if_pos c26] at H
                            have c26b0 : decide ((bt a0 x6_1) ≤ 90) = true := decide_eq_true c26
                            clear c26
                            as_aux_lemma =>
                              have H' := Aside0.mk H
                              clear H
                              go_wp2
                              go_meet
                              case rel => exact ⟨_, (!true), (by first | rfl | (simp only [bytesLe_not]; done) | (simp; done) | (simp [*]; done)), H', ⟨by have := HK1.out; have := HJ3.out; first | omega | exact Nat.le_refl _⟩, by repeat (first | exact Drawn0.refl _ | apply Drawn0.step)⟩
                          · rw [if_neg c26] at H
                            have c26b0 : decide ((bt a0 x6_1) ≤ 90) = false := decide_eq_false c26
                            clear c26
                            as_aux_lemma =>
                              have H' := Aside0.mk H
                              clear H
                              go_wp2
                              go_meet
                              case rel => exact ⟨_, (!((bt a0 x6_1) == 45)), (by first | rfl | (simp only [bytesLe_not]; done) | (simp; done) | (simp [*]; done)), H', ⟨by have := HK1.out; have := HJ3.out; first | omega | exact Nat.le_refl _⟩, by repeat (first | exact Drawn0.refl _ | apply Drawn0.step)⟩
                        · rw [if_neg c25] at H
                          have c25b0 : decide (65 ≤ (bt a0 x6_1)) = false := decide_eq_false c25
                          clear c25
                          as_aux_lemma =>
                            have H' := Aside0.mk H
                            clear H
                            go_wp2
                            go_meet
                            case rel => exact ⟨_, (!((bt a0 x6_1) == 45)), (by first | rfl | (simp only [bytesLe_not]; done) | (simp; done) | (simp [*]; done)), H', ⟨by have := HK1.out; have := HJ3.out; first | omega | exact Nat.le_refl _⟩, by repeat (first | exact Drawn0.refl _ | apply Drawn0.step)⟩
                  case rest =>
                    clear HC12
                    try clear c1
                    try clear p1
                    try clear q1
                    try clear hx1
                    try clear c2
                    try clear p2
                    try clear c3
                    try clear c3b0
                    try clear c5
                    try clear c5b0
                    try clear c6
                    try clear c6b0
                    try clear p7
                    try clear q7
                    try clear hx7
                    try clear c8
                    try clear c9
                    try clear c9b0
                    try clear c10
                    try clear c10b0
                    try clear p11
                    try clear q11
                    try clear hx11
                    try clear c13
                    try clear c13b0
                    try clear c14
                    try clear c14b0
                    try clear c15
                    try clear c15b0
                    try clear c16
                    try clear c16b0
                    try clear c17
                    try clear c17b0
                    try clear c18
                    try clear c18b0
                    try clear c19
                    try clear c19b0
                    try clear c20
                    try clear c20b0
                    try clear c21
                    try clear c21b0
                    try clear c22
                    try clear c22b0
                    try clear c23
                    try clear c23b0
                    try clear c24
                    try clear c24b0
                    try clear c25
                    try clear c25b0
                    try clear c26
                    try clear c26b0
                    try clear p11
                    try clear p2
                    try clear p7
                    try clear q11
                    try clear q7
                    obtain ⟨kq, x53_11, rfl, HA, HJ11, ⟨mc11, rfl⟩⟩ := hcut
                    cases kq with
                    | zero => exact absurd HA.out (by simp [spec_parts.j2])
                    | succ kj11 =>
                      have H := HA.out
                      clear HA
                      simp only [spec_parts.j2] at H
                      by_cases c27 : x53_11 = true
                      · subst c27
                        have H1 : (some false) = some r := by rw [if_pos rfl] at H; exact H
                        clear H
                        have H := H1
                        clear H1
                        as_aux_lemma =>
                          obtain rfl := Option.some.inj H
                          go_wp2
                          go_ret
                          exact ⟨by first | rfl | (simp only [bytesLe_not]; done) | (simp; done) | (simp [*]; done), by repeat (first | exact Drawn0.refl _ | apply Drawn0.step)⟩
                      · replace c27 := Bool.eq_false_iff.mpr c27
                        subst c27
                        have H1 : (spec_parts.l0 kj11 a0 a1 x5_1 (wrap64 (x6_1 + 1))) = some r := by rw [if_neg (show ¬ (false = true) by decide)] at H; exact H
                        clear H
                        have H := H1
                        clear H1
                        as_aux_lemma =>
                          have H' := Aside0.mk H
                          clear H
                          go_wp2
                          go_roundg kj11
                          case measure => have := HK1.out; have := HJ3.out; have := HJ11.out; omega
                          case rel => exact ⟨(x5_1), (wrap64 (x6_1 + 1)), (by first | rfl | (simp only [bytesLe_not]; done) | (simp; done) | (simp [*]; done)), (by first | rfl | (simp only [bytesLe_not]; done) | (simp; done) | (simp [*]; done)), H', ⟨by have := HK1.out; have := HJ3.out; have := HJ11.out; omega⟩, by repeat (first | exact Drawn0.refl _ | apply Drawn0.step)⟩
                · rw [if_neg c10] at H
                  exact absurd H (by simp)
              · rw [if_neg c9] at H
                exact absurd H (by simp)
            · replace c8 := Bool.eq_false_iff.mpr c8
              subst c8
              have H1 : (if x6_1 = x5_1 then (spec_parts.j3 kj3 a0 a1 x6_1 true) else (if a1 = true then (if x6_1 > (wrap64 (x5_1 + 1)) then (if 0 ≤ x5_1 then (if x5_1 < (a0.size : Int) then (if (bt a0 x5_1) = 48 then (if x5_1 ≤ x6_1 then (if x6_1 ≤ (a0.size : Int) then ((spec_onlyDigits.f kj3 (a0.extract (x5_1 : Int).toNat (x6_1 : Int).toNat)).bind fun t101 => (spec_parts.j3 kj3 a0 a1 x6_1 t101)) else (none)) else (none)) else (spec_parts.j3 kj3 a0 a1 x6_1 false)) else (none)) else (none)) else (spec_parts.j3 kj3 a0 a1 x6_1 false)) else (spec_parts.j3 kj3 a0 a1 x6_1 false))) = some r := by rw [if_neg (show ¬ (false = true) by decide)] at H; exact H
              clear H
              have H := H1
              clear H1
              have HC28 := Aside0.mk H
              clear H
              go_upto_region 9 with (fail)
              go_cut [78] (fun v78 wc => ∃ (kq : Nat) (x78_27 : Bool), v78 = .bool x78_27 ∧ Aside0 (spec_parts.j3 kq a0 a1 x6_1 x78_27 = some r) ∧ Aside0 (kq ≤ kj3) ∧ Drawn0 w wc)
              case first =>
                have H := HC28.out
                clear HC28
                by_cases c29 : x6_1 = x5_1
                · rw [if_pos c29] at H
                  have c29b0 : (x6_1 == x5_1) = true := beq_iff_eq.mpr c29
                  have c29b1 : (x6_1 != x5_1) = false := bne_eq_false_iff_eq.mpr c29
                  clear c29
                  (first | rw [c29b0] | (simp only [i64_w, i32_w]; rw [c29b0]) | skip)
                  as_aux_lemma =>
                    have H' := Aside0.mk H
                    clear H
                    go_wp2
                    go_meet
                    case rel => exact ⟨_, (true), (by first | rfl | (simp only [bytesLe_not]; done) | (simp; done) | (simp [*]; done)), H', ⟨by have := HK1.out; have := HJ3.out; first | omega | exact Nat.le_refl _⟩, by repeat (first | exact Drawn0.refl _ | apply Drawn0.step)⟩
                · rw [if_neg c29] at H
                  have c29b0 : (x6_1 == x5_1) = false := beq_eq_false_iff_ne.mpr c29
                  have c29b1 : (x6_1 != x5_1) = true := bne_iff_ne.mpr c29
                  (first | rw [c29b0] | (simp only [i64_w, i32_w]; rw [c29b0]) | skip)
                  by_cases c30 : a1 = true
                  · subst c30
                    have H1 : (if x6_1 > (wrap64 (x5_1 + 1)) then (if 0 ≤ x5_1 then (if x5_1 < (a0.size : Int) then (if (bt a0 x5_1) = 48 then (if x5_1 ≤ x6_1 then (if x6_1 ≤ (a0.size : Int) then ((spec_onlyDigits.f kj3 (a0.extract (x5_1 : Int).toNat (x6_1 : Int).toNat)).bind fun t101 => (spec_parts.j3 kj3 a0 true x6_1 t101)) else (none)) else (none)) else (spec_parts.j3 kj3 a0 true x6_1 false)) else (none)) else (none)) else (spec_parts.j3 kj3 a0 true x6_1 false)) = some r := by rw [if_pos rfl] at H; exact H
                    clear H
                    have H := H1
                    clear H1
                    by_cases c31 : x6_1 > (wrap64 (x5_1 + 1))
                    · rw [if_pos c31] at H
                      have c31b0 : decide ((wrap64 (x5_1 + 1)) < x6_1) = true := decide_eq_true c31
                      clear c31
                      by_cases c32 : 0 ≤ x5_1
                      · rw [if_pos c32] at H
                        have c32b0 : decide (0 ≤ x5_1) = true := decide_eq_true c32
                        clear c32
                        by_cases c33 : x5_1 < (a0.size : Int)
                        · rw [if_pos c33] at H
                          have c33b0 : decide (x5_1 < (a0.size : Int)) = true := decide_eq_true c33
                          clear c33
                          by_cases c35 : (bt a0 x5_1) = 48
                          · rw [if_pos c35] at H
                            have c35b0 : ((bt a0 x5_1) == 48) = true := beq_iff_eq.mpr c35
                            have c35b1 : ((bt a0 x5_1) != 48) = false := bne_eq_false_iff_eq.mpr c35
                            clear c35
                            have c36b0 := eq_true (of_decide_eq_true (by first | (with_reducible assumption) | assumption) : 0 ≤ x5_1)
                            by_cases c37 : x5_1 ≤ x6_1
                            · rw [if_pos c37] at H
                              have c37b0 := eq_true c37
                              have c37b1 : decide (x5_1 ≤ x6_1) = true := decide_eq_true c37
                              clear c37
                              by_cases c38 : x6_1 ≤ (a0.size : Int)
                              · rw [if_pos c38] at H
                                have c38b0 := eq_true c38
                                have c38b1 : decide (x6_1 ≤ (a0.size : Int)) = true := decide_eq_true c38
                                clear c38
                                replace H := Option.bind_eq_some_iff.mp H
                                obtain ⟨t101, A390, H⟩ := H
                                replace H : (spec_parts.j3 kj3 a0 true x6_1 t101) = some r := H
                                have A39 := Aside0.mk A390
                                clear A390
                                as_aux_lemma =>
                                  have H' := Aside0.mk H
                                  clear H
                                  have p34 : 0 ≤ (x5_1 : Int) := of_decide_eq_true (by first | (with_reducible assumption) | assumption)
                                  have q34 : x5_1 < (a0.size : Int) := of_decide_eq_true (by first | (with_reducible assumption) | assumption)
                                  have hx34 := bt_at a0 x5_1
                                  replace p34 := eq_true p34
                                  replace q34 := eq_true q34
                                  go_wp2_with (first | (go_at_call 17; (with_reducible refine (spec_onlyDigits.calls kj3 (a0.extract (x5_1 : Int).toNat (x6_1 : Int).toNat) t101 _ A39.out).mono ?_); rintro e w' ⟨rfl, ⟨nd, rfl⟩⟩))
                                  go_meet
                                  case rel => exact ⟨_, (t101), (by first | rfl | (simp only [bytesLe_not]; done) | (simp; done) | (simp [*]; done)), H', ⟨by have := HK1.out; have := HJ3.out; first | omega | exact Nat.le_refl _⟩, by repeat (first | exact Drawn0.refl _ | apply Drawn0.step)⟩
                              · rw [if_neg c38] at H
                                exact absurd H (by simp)
                            · rw [if_neg c37] at H
                              exact absurd H (by simp)
                          · rw [if_neg c35] at H
                            have c35b0 : ((bt a0 x5_1) == 48) = false := beq_eq_false_iff_ne.mpr c35
                            have c35b1 : ((bt a0 x5_1) != 48) = true := bne_iff_ne.mpr c35
                            as_aux_lemma =>
                              have H' := Aside0.mk H
                              clear H
                              have p34 : 0 ≤ (x5_1 : Int) := of_decide_eq_true (by first | (with_reducible assumption) | assumption)
                              have q34 : x5_1 < (a0.size : Int) := of_decide_eq_true (by first | (with_reducible assumption) | assumption)
                              have hx34 := bt_at a0 x5_1
                              replace p34 := eq_true p34
                              replace q34 := eq_true q34
                              go_wp2
                              go_meet
                              case rel => exact ⟨_, (false), (by first | rfl | (simp only [bytesLe_not]; done) | (simp; done) | (simp [*]; done)), H', ⟨by have := HK1.out; have := HJ3.out; first | omega | exact Nat.le_refl _⟩, by repeat (first | exact Drawn0.refl _ | apply Drawn0.step)⟩
                        · rw [if_neg c33] at H
                          exact absurd H (by simp)
                      · rw [if_neg c32] at H
                        exact absurd H (by simp)
                    · rw [if_neg c31] at H
                      have c31b0 : decide ((wrap64 (x5_1 + 1)) < x6_1) = false := decide_eq_false c31
                      clear c31
                      as_aux_lemma =>
                        have H' := Aside0.mk H
                        clear H
                        go_wp2
                        go_meet
                        case rel => exact ⟨_, (false), (by first | rfl | (simp only [bytesLe_not]; done) | (simp; done) | (simp [*]; done)), H', ⟨by have := HK1.out; have := HJ3.out; first | omega | exact Nat.le_refl _⟩, by repeat (first | exact Drawn0.refl _ | apply Drawn0.step)⟩
                  · replace c30 := Bool.eq_false_iff.mpr c30
                    subst c30
                    have H1 : (spec_parts.j3 kj3 a0 false x6_1 false) = some r := by rw [if_neg (show ¬ (false = true) by decide)] at H; exact H
                    clear H
                    have H := H1
                    clear H1
                    as_aux_lemma =>
                      have H' := Aside0.mk H
                      clear H
                      go_wp2
                      go_meet
                      case rel => exact ⟨_, (false), (by first | rfl | (simp only [bytesLe_not]; done) | (simp; done) | (simp [*]; done)), H', ⟨by have := HK1.out; have := HJ3.out; first | omega | exact Nat.le_refl _⟩, by repeat (first | exact Drawn0.refl _ | apply Drawn0.step)⟩
              case rest =>
                clear HC28
                try clear c1
                try clear p1
                try clear q1
                try clear hx1
                try clear c2
                try clear p2
                try clear c3
                try clear c3b0
                try clear p3
                try clear q3
                try clear hx3
                try clear c5
                try clear c5b0
                try clear c6
                try clear c6b0
                try clear p6
                try clear p7
                try clear q7
                try clear hx7
                try clear c8
                try clear c9
                try clear c9b0
                try clear c10
                try clear c10b0
                try clear c11
                try clear p11
                try clear q11
                try clear hx11
                try clear c13
                try clear c13b0
                try clear c14
                try clear c14b0
                try clear c15
                try clear c15b0
                try clear c16
                try clear c16b0
                try clear c17
                try clear c17b0
                try clear c18
                try clear c18b0
                try clear c19
                try clear c19b0
                try clear c20
                try clear c20b0
                try clear c21
                try clear c21b0
                try clear c22
                try clear c22b0
                try clear c23
                try clear c23b0
                try clear c24
                try clear c24b0
                try clear c25
                try clear c25b0
                try clear c26
                try clear c26b0
                try clear c27
                try clear c29
                try clear c29b0
                try clear c29b1
                try clear c30
                try clear c31
                try clear c31b0
                try clear c32
                try clear c32b0
                try clear c33
                try clear c33b0
                try clear p34
                try clear q34
                try clear hx34
                try clear c35
                try clear c35b0
                try clear c35b1
                try clear c36
                try clear c36b0
                try clear c37
                try clear c37b0
                try clear c37b1
                try clear c38
                try clear c38b0
                try clear c38b1
                try clear p1
                try clear p11
                try clear p2
                try clear p34
                try clear p7
                try clear q1
                try clear q11
                try clear q34
                try clear q7
                obtain ⟨kq, x78_27, rfl, HA, HJ27, ⟨mc27, rfl⟩⟩ := hcut
                cases kq with
                | zero => exact absurd HA.out (by simp [spec_parts.j3])
                | succ kj27 =>
                  have H := HA.out
                  clear HA
                  simp only [spec_parts.j3] at H
                  by_cases c40 : x78_27 = true
                  · subst c40
                    have H1 : (some false) = some r := by rw [if_pos rfl] at H; exact H
                    clear H
                    have H := H1
                    clear H1
                    as_aux_lemma =>
                      obtain rfl := Option.some.inj H
                      go_wp2
                      go_ret
                      exact ⟨by first | rfl | (simp only [bytesLe_not]; done) | (simp; done) | (simp [*]; done), by repeat (first | exact Drawn0.refl _ | apply Drawn0.step)⟩
                  · replace c40 := Bool.eq_false_iff.mpr c40
                    subst c40
                    have H1 : (spec_parts.l0 kj27 a0 a1 (wrap64 (x6_1 + 1)) (wrap64 (x6_1 + 1))) = some r := by rw [if_neg (show ¬ (false = true) by decide)] at H; exact H
                    clear H
                    have H := H1
                    clear H1
                    as_aux_lemma =>
                      have H' := Aside0.mk H
                      clear H
                      go_wp2
                      go_roundg kj27
                      case measure => have := HK1.out; have := HJ3.out; have := HJ27.out; omega
                      case rel => exact ⟨(wrap64 (x6_1 + 1)), (wrap64 (x6_1 + 1)), (by first | rfl | (simp only [bytesLe_not]; done) | (simp; done) | (simp [*]; done)), (by first | rfl | (simp only [bytesLe_not]; done) | (simp; done) | (simp [*]; done)), H', ⟨by have := HK1.out; have := HJ3.out; have := HJ27.out; omega⟩, by repeat (first | exact Drawn0.refl _ | apply Drawn0.step)⟩
      · rw [if_neg c3] at H
        have c3b0 : decide (x6_1 ≤ (a0.size : Int)) = false := decide_eq_false c3
        clear c3
        as_aux_lemma =>
          obtain rfl := Option.some.inj H
          go_wp2
          go_ret
          exact ⟨by first | rfl | (simp only [bytesLe_not]; done) | (simp; done) | (simp [*]; done), by repeat (first | exact Drawn0.refl _ | apply Drawn0.step)⟩

end Go.Proofs.YtlhijjfbcgconaaGreatDoor.P

