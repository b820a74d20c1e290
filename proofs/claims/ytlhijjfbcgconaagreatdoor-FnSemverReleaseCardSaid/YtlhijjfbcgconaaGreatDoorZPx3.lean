-- WRITTEN by xprint.py (a program of this session, over the kit's print) out of the translation. Not trusted: Lean checks it.
import Derived.Test.YtlhijjfbcgconaaGreatDoorZPx0
namespace Go.Proofs.YtlhijjfbcgconaaGreatDoor.P
open Go.RowKit Go.Proofs.YtlhijjfbcgconaaGreatDoorW.PrintWords Go.Proofs.YtlhijjfbcgconaaGreatDoorW.PrintLast Go.Proofs.YtlhijjfbcgconaaGreatDoorW.PrintMore
attribute [local go_sem] max2_int min2_int max_two min_two max_three min_three max_four min_four run_store_float   -- for this text's walks alone
set_option linter.unusedVariables false
set_option linter.unusedSimpArgs false

/-! ### spec_number: function 16 -/
mutual
def spec_number.l0 : Nat → ByteArray → Int → Int → Option (Int × ByteArray × Bool)
  | 0, _, _, _ => none
  | k + 1, x0, x2, x5 => if x5 < (x0.size : Int) then (if 0 ≤ x5 then (if (bt x0 x5) ≥ 48 then (spec_number.j1 k x0 x2 x5 (decide ((bt x0 x5) ≤ 57))) else (spec_number.j1 k x0 x2 x5 false)) else (none)) else (spec_number.j1 k x0 x2 x5 false)
def spec_number.j1 : Nat → ByteArray → Int → Int → Bool → Option (Int × ByteArray × Bool)
  | 0, _, _, _, _ => none
  | k + 1, x0, x2, x5, x21 => if x21 = true then (if 0 ≤ x5 then (if x5 < (x0.size : Int) then (if (wrap64 (x5 + 1)) > 9 then (some (0, x0, false)) else (spec_number.l0 k x0 (IntKind.u64.wrap ((IntKind.u64.wrap (x2 * 10)) + (((bt x0 x5) - 48) % 256))) (wrap64 (x5 + 1)))) else (none)) else (none)) else (if 0 ≤ x5 then (if x5 ≤ (x0.size : Int) then (if x5 > 0 then (if x5 = 1 then (some (x2, x0.extract (x5 : Int).toNat x0.size, true)) else (if 0 < (x0.size : Int) then (some (x2, x0.extract (x5 : Int).toNat x0.size, ((bt x0 0) != 48))) else (none))) else (some (x2, x0.extract (x5 : Int).toNat x0.size, false))) else (none)) else (none))
end
def spec_number.f (k : Nat) (a0 : ByteArray) : Option (Int × ByteArray × Bool) := spec_number.l0 k a0 0 0
theorem spec_number.mono_l : ∀ k, (∀ y0 y1 y2, LeO (spec_number.l0 k y0 y1 y2) (spec_number.l0 (k + 1) y0 y1 y2)) ∧ (∀ y0 y1 y2 y3, LeO (spec_number.j1 k y0 y1 y2 y3) (spec_number.j1 (k + 1) y0 y1 y2 y3))
  | 0 => ⟨fun _ _ _ r h => by simp [spec_number.l0] at h, fun _ _ _ _ r h => by simp [spec_number.j1] at h⟩
  | k + 1 => by
    obtain ⟨ih0, ih1⟩ := spec_number.mono_l k
    refine ⟨?_, ?_⟩
    · intro y0 y1 y2
      unfold spec_number.l0
      repeat' first
      | (with_reducible exact ih0 _ _ _)
      | (with_reducible exact ih1 _ _ _ _)
      | (with_reducible exact LeO.refl _)
      | (with_reducible exact LeO.none _)
      | (with_reducible refine LeO.ite ?_ ?_)
      | (with_reducible refine LeO.bind ?_ (fun _ => ?_))
      | exact ih0 _ _ _
      | exact ih1 _ _ _ _
      | exact LeO.none _
      | refine LeO.ite ?_ ?_
      | refine LeO.bind ?_ (fun _ => ?_)
    · intro y0 y1 y2 y3
      unfold spec_number.j1
      repeat' first
      | (with_reducible exact ih0 _ _ _)
      | (with_reducible exact ih1 _ _ _ _)
      | (with_reducible exact LeO.refl _)
      | (with_reducible exact LeO.none _)
      | (with_reducible refine LeO.ite ?_ ?_)
      | (with_reducible refine LeO.bind ?_ (fun _ => ?_))
      | exact ih0 _ _ _
      | exact ih1 _ _ _ _
      | exact LeO.none _
      | refine LeO.ite ?_ ?_
      | refine LeO.bind ?_ (fun _ => ?_)
theorem spec_number.mono : ∀ a0 k, LeO (spec_number.f k a0) (spec_number.f (k + 1) a0) := by
  intro a0 k
  obtain ⟨ih0, ih1⟩ := spec_number.mono_l k
  unfold spec_number.f
  repeat' first
      | (with_reducible exact ih0 _ _ _)
      | (with_reducible exact ih1 _ _ _ _)
      | (with_reducible exact LeO.refl _)
      | (with_reducible exact LeO.none _)
      | (with_reducible refine LeO.ite ?_ ?_)
      | (with_reducible refine LeO.bind ?_ (fun _ => ?_))
      | exact ih0 _ _ _
      | exact ih1 _ _ _ _
      | exact LeO.none _
      | refine LeO.ite ?_ ?_
      | refine LeO.bind ?_ (fun _ => ?_)
set_option maxHeartbeats 8000000 in
set_option maxRecDepth 100000 in
theorem spec_number.calls (k : Nat) (a0 : ByteArray) (r1 : Int) (r2 : ByteArray) (r3 : Bool) (w : World) (h : spec_number.f k a0 = some (r1, r2, r3)) :
    Calls Tryz.prog 16 #[.string a0] w fun e w' => e = .returned (.tuple #[.int .u64 r1, .string r2, .bool r3]) ∧ Drawn0 w w' := by
  have H : (spec_number.l0 k a0 0 0) = some (r1, r2, r3) := h
  clear h
  have H' := Aside0.mk H
  clear H
  go_enter Tryz.func16, Tryz.ntmps16
  go_wp2
  repeat (go_quiet (fail); try go_wp2)
  go_loopg [2, 5] k (fun kq v2 v5 w' => ∃ (x2_1 : Int) (x5_1 : Int), v2 = .int .u64 x2_1 ∧ v5 = .int .i64 x5_1 ∧ Aside0 (spec_number.l0 kq a0 x2_1 x5_1 = some (r1, r2, r3)) ∧ Aside0 (kq ≤ k) ∧ Drawn0 w w')
  case atStart => exact ⟨(0), (0), (by first | rfl | (simp only [bytesLe_not]; done) | (simp; done) | (simp [*]; done)), (by first | rfl | (simp only [bytesLe_not]; done) | (simp; done) | (simp [*]; done)), H', ⟨Nat.le_refl _⟩, by repeat (first | exact Drawn0.refl _ | apply Drawn0.step)⟩
  case round =>
    clear H'
    try clear c1
    obtain ⟨x2_1, x5_1, rfl, rfl, HA, HK1, ⟨m1, rfl⟩⟩ := hrel
    cases gk with
    | zero => exact absurd HA.out (by simp [spec_number.l0])
    | succ k1 =>
      have H := HA.out
      clear HA
      simp only [spec_number.l0] at H
      have HC2 := Aside0.mk H
      clear H
      go_upto_region 2 with (fail)
      repeat (go_quiet (fail); go_upto_region 2 with (fail))
      go_cut [21] (fun v21 wc => ∃ (kq : Nat) (x21_1 : Bool), v21 = .bool x21_1 ∧ Aside0 (spec_number.j1 kq a0 x2_1 x5_1 x21_1 = some (r1, r2, r3)) ∧ Aside0 (kq ≤ k1) ∧ Drawn0 w wc)
      case first =>
        have H := HC2.out
        clear HC2
        by_cases c3 : x5_1 < (a0.size : Int)
        · rw [if_pos c3] at H
          have c3b0 : decide (x5_1 < (a0.size : Int)) = true := decide_eq_true c3
          clear c3
          (first | rw [c3b0] | (simp only [i64_w, i32_w]; rw [c3b0]) | skip)
          by_cases c4 : 0 ≤ x5_1
          · rw [if_pos c4] at H
            have c4b0 : decide (0 ≤ x5_1) = true := decide_eq_true c4
            clear c4
            by_cases c6 : (bt a0 x5_1) ≥ 48
            · rw [if_pos c6] at H
              have c6b0 : decide (48 ≤ (bt a0 x5_1)) = true := decide_eq_true c6
              clear c6
              as_aux_lemma =>
                have H' := Aside0.mk H
                clear H
                have p5 : 0 ≤ (x5_1 : Int) := of_decide_eq_true (by first | (with_reducible assumption) | assumption)
                have q5 : x5_1 < (a0.size : Int) := of_decide_eq_true (by first | (with_reducible assumption) | assumption)
                have hx5 := bt_at a0 x5_1
                replace p5 := eq_true p5
                replace q5 := eq_true q5
                have p7 : 0 ≤ (x5_1 : Int) := of_decide_eq_true (by first | (with_reducible assumption) | assumption)
                have q7 : x5_1 < (a0.size : Int) := of_decide_eq_true (by first | (with_reducible assumption) | assumption)
                have hx7 := bt_at a0 x5_1
                replace p7 := eq_true p7
                replace q7 := eq_true q7
                go_wp2
                repeat (go_quiet (fail); try go_wp2)
                go_meet
                case rel => exact ⟨_, (decide ((bt a0 x5_1) ≤ 57)), (by first | rfl | (simp only [bytesLe_not]; done) | (simp; done) | (simp [*]; done)), H', ⟨by have := HK1.out; first | omega | exact Nat.le_refl _⟩, by repeat (first | exact Drawn0.refl _ | apply Drawn0.step)⟩
            · rw [if_neg c6] at H
              have c6b0 : decide (48 ≤ (bt a0 x5_1)) = false := decide_eq_false c6
              clear c6
              as_aux_lemma =>
                have H' := Aside0.mk H
                clear H
                have p5 : 0 ≤ (x5_1 : Int) := of_decide_eq_true (by first | (with_reducible assumption) | assumption)
                have q5 : x5_1 < (a0.size : Int) := of_decide_eq_true (by first | (with_reducible assumption) | assumption)
                have hx5 := bt_at a0 x5_1
                replace p5 := eq_true p5
                replace q5 := eq_true q5
                go_wp2
                repeat (go_quiet (fail); try go_wp2)
                go_meet
                case rel => exact ⟨_, (false), (by first | rfl | (simp only [bytesLe_not]; done) | (simp; done) | (simp [*]; done)), H', ⟨by have := HK1.out; first | omega | exact Nat.le_refl _⟩, by repeat (first | exact Drawn0.refl _ | apply Drawn0.step)⟩
          · rw [if_neg c4] at H
            exact absurd H (by simp)
        · rw [if_neg c3] at H
          have c3b0 : decide (x5_1 < (a0.size : Int)) = false := decide_eq_false c3
          clear c3
          (first | rw [c3b0] | (simp only [i64_w, i32_w]; rw [c3b0]) | skip)
          as_aux_lemma =>
            have H' := Aside0.mk H
            clear H
            go_wp2
            repeat (go_quiet (fail); try go_wp2)
            go_meet
            case rel => exact ⟨_, (false), (by first | rfl | (simp only [bytesLe_not]; done) | (simp; done) | (simp [*]; done)), H', ⟨by have := HK1.out; first | omega | exact Nat.le_refl _⟩, by repeat (first | exact Drawn0.refl _ | apply Drawn0.step)⟩
      case rest =>
        clear HC2
        try clear c1
        try clear p2
        try clear c3
        try clear c3b0
        try clear c4
        try clear c4b0
        try clear p5
        try clear q5
        try clear hx5
        try clear c6
        try clear c6b0
        try clear p7
        try clear q7
        try clear hx7
        try clear p5
        try clear p7
        try clear q5
        try clear q7
        obtain ⟨kq, x21_1, rfl, HA, HJ1, ⟨mc1, rfl⟩⟩ := hcut
        cases kq with
        | zero => exact absurd HA.out (by simp [spec_number.j1])
        | succ kj1 =>
          have H := HA.out
          clear HA
          simp only [spec_number.j1] at H
          by_cases c8 : x21_1 = true
          · subst c8
            have H1 : (if 0 ≤ x5_1 then (if x5_1 < (a0.size : Int) then (if (wrap64 (x5_1 + 1)) > 9 then (some (0, a0, false)) else (spec_number.l0 kj1 a0 (IntKind.u64.wrap ((IntKind.u64.wrap (x2_1 * 10)) + (((bt a0 x5_1) - 48) % 256))) (wrap64 (x5_1 + 1)))) else (none)) else (none)) = some (r1, r2, r3) := by rw [if_pos rfl] at H; exact H
            clear H
            have H := H1
            clear H1
            by_cases c9 : 0 ≤ x5_1
            · rw [if_pos c9] at H
              have c9b0 : decide (0 ≤ x5_1) = true := decide_eq_true c9
              clear c9
              by_cases c10 : x5_1 < (a0.size : Int)
              · rw [if_pos c10] at H
                have c10b0 : decide (x5_1 < (a0.size : Int)) = true := decide_eq_true c10
                clear c10
                by_cases c12 : (wrap64 (x5_1 + 1)) > 9
                · rw [if_pos c12] at H
                  have c12b0 : decide (9 < (wrap64 (x5_1 + 1))) = true := decide_eq_true c12
                  clear c12
                  as_aux_lemma =>
                    simp only [Option.some.injEq, Prod.mk.injEq] at H
                    obtain ⟨rfl, rfl, rfl⟩ := H
                    have p11 : 0 ≤ (x5_1 : Int) := of_decide_eq_true (by first | (with_reducible assumption) | assumption)
                    have q11 : x5_1 < (a0.size : Int) := of_decide_eq_true (by first | (with_reducible assumption) | assumption)
                    have hx11 := bt_at a0 x5_1
                    replace p11 := eq_true p11
                    replace q11 := eq_true q11
                    go_wp2
                    repeat (go_quiet (fail); try go_wp2)
                    go_ret3
                    exact ⟨by first | rfl | (simp only [bytesLe_not]; done) | (simp; done) | (simp [*]; done), by repeat (first | exact Drawn0.refl _ | apply Drawn0.step)⟩
                · rw [if_neg c12] at H
                  have c12b0 : decide (9 < (wrap64 (x5_1 + 1))) = false := decide_eq_false c12
                  clear c12
                  as_aux_lemma =>
                    have H' := Aside0.mk H
                    clear H
                    have p11 : 0 ≤ (x5_1 : Int) := of_decide_eq_true (by first | (with_reducible assumption) | assumption)
                    have q11 : x5_1 < (a0.size : Int) := of_decide_eq_true (by first | (with_reducible assumption) | assumption)
                    have hx11 := bt_at a0 x5_1
                    replace p11 := eq_true p11
                    replace q11 := eq_true q11
                    go_wp2
                    repeat (go_quiet (fail); try go_wp2)
                    go_roundg kj1
                    case measure => have := HK1.out; have := HJ1.out; omega
                    case rel => exact ⟨(IntKind.u64.wrap ((IntKind.u64.wrap (x2_1 * 10)) + (((bt a0 x5_1) - 48) % 256))), (wrap64 (x5_1 + 1)), (by first | rfl | (simp only [bytesLe_not]; done) | (simp; done) | (simp [*]; done)), (by first | rfl | (simp only [bytesLe_not]; done) | (simp; done) | (simp [*]; done)), H', ⟨by have := HK1.out; have := HJ1.out; omega⟩, by repeat (first | exact Drawn0.refl _ | apply Drawn0.step)⟩
              · rw [if_neg c10] at H
                exact absurd H (by simp)
            · rw [if_neg c9] at H
              exact absurd H (by simp)
          · replace c8 := Bool.eq_false_iff.mpr c8
            subst c8
            have H1 : (if 0 ≤ x5_1 then (if x5_1 ≤ (a0.size : Int) then (if x5_1 > 0 then (if x5_1 = 1 then (some (x2_1, a0.extract (x5_1 : Int).toNat a0.size, true)) else (if 0 < (a0.size : Int) then (some (x2_1, a0.extract (x5_1 : Int).toNat a0.size, ((bt a0 0) != 48))) else (none))) else (some (x2_1, a0.extract (x5_1 : Int).toNat a0.size, false))) else (none)) else (none)) = some (r1, r2, r3) := by rw [if_neg (show ¬ (false = true) by decide)] at H; exact H
            clear H
            have H := H1
            clear H1
            by_cases c13 : 0 ≤ x5_1
            · rw [if_pos c13] at H
              have c13b0 := eq_true c13
              have c13b1 : decide (0 ≤ x5_1) = true := decide_eq_true c13
              clear c13
              by_cases c14 : x5_1 ≤ (a0.size : Int)
              · rw [if_pos c14] at H
                have c14b0 := eq_true c14
                have c14b1 : decide (x5_1 ≤ (a0.size : Int)) = true := decide_eq_true c14
                clear c14
                by_cases c15 : x5_1 > 0
                · rw [if_pos c15] at H
                  have c15b0 : decide (0 < x5_1) = true := decide_eq_true c15
                  clear c15
                  by_cases c16 : x5_1 = 1
                  · rw [if_pos c16] at H
                    have c16b0 : (x5_1 == 1) = true := beq_iff_eq.mpr c16
                    have c16b1 : (x5_1 != 1) = false := bne_eq_false_iff_eq.mpr c16
                    clear c16
                    as_aux_lemma =>
                      simp only [Option.some.injEq, Prod.mk.injEq] at H
                      obtain ⟨rfl, rfl, rfl⟩ := H
                      go_wp2
                      repeat (go_quiet (fail); try go_wp2)
                      go_ret3
                      exact ⟨by first | rfl | (simp only [bytesLe_not]; done) | (simp; done) | (simp [*]; done), by repeat (first | exact Drawn0.refl _ | apply Drawn0.step)⟩
                  · rw [if_neg c16] at H
                    have c16b0 : (x5_1 == 1) = false := beq_eq_false_iff_ne.mpr c16
                    have c16b1 : (x5_1 != 1) = true := bne_iff_ne.mpr c16
                    by_cases c17 : 0 < (a0.size : Int)
                    · rw [if_pos c17] at H
                      have c17b0 : decide (0 < (a0.size : Int)) = true := decide_eq_true c17
                      have c17b1 : decide (0 < a0.size) = true := decide_eq_true (by omega)
                      clear c17
                      as_aux_lemma =>
                        simp only [Option.some.injEq, Prod.mk.injEq] at H
                        obtain ⟨rfl, rfl, rfl⟩ := H
                        have p18 : 0 ≤ (0 : Int) := (by omega)
                        have q18 : 0 < a0.size := (by have : (0 : Int) < (a0.size : Int) := of_decide_eq_true (by first | (with_reducible assumption) | assumption); omega)
                        have hx18 : ∀ h : 0 < a0.size, ((a0[0]'h).toNat : Int) = bt a0 0 := bt_at a0 0
                        clear p18
                        have qi18 : (0 < (a0.size : Int)) = True := eq_true (of_decide_eq_true (by first | (with_reducible assumption) | assumption))
                        replace q18 := eq_true q18
                        go_wp2
                        repeat (go_quiet (fail); try go_wp2)
                        go_ret3
                        exact ⟨by first | rfl | (simp only [bytesLe_not]; done) | (simp; done) | (simp [*]; done), by repeat (first | exact Drawn0.refl _ | apply Drawn0.step)⟩
                    · rw [if_neg c17] at H
                      exact absurd H (by simp)
                · rw [if_neg c15] at H
                  have c15b0 : decide (0 < x5_1) = false := decide_eq_false c15
                  clear c15
                  as_aux_lemma =>
                    simp only [Option.some.injEq, Prod.mk.injEq] at H
                    obtain ⟨rfl, rfl, rfl⟩ := H
                    go_wp2
                    repeat (go_quiet (fail); try go_wp2)
                    go_ret3
                    exact ⟨by first | rfl | (simp only [bytesLe_not]; done) | (simp; done) | (simp [*]; done), by repeat (first | exact Drawn0.refl _ | apply Drawn0.step)⟩
              · rw [if_neg c14] at H
                exact absurd H (by simp)
            · rw [if_neg c13] at H
              exact absurd H (by simp)

end Go.Proofs.YtlhijjfbcgconaaGreatDoor.P

