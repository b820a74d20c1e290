-- WRITTEN by xprint.py (a program of this session, over the kit's print) out of the translation. Not trusted: Lean checks it.
import Derived.Test.YtlhijjfbcgconaaGreatDoorZPx0
namespace Go.Proofs.YtlhijjfbcgconaaGreatDoor.P
open Go.RowKit Go.Proofs.YtlhijjfbcgconaaGreatDoorW.PrintWords Go.Proofs.YtlhijjfbcgconaaGreatDoorW.PrintLast Go.Proofs.YtlhijjfbcgconaaGreatDoorW.PrintMore
attribute [local go_sem] max2_int min2_int max_two min_two max_three min_three max_four min_four run_store_float   -- for this text's walks alone
set_option linter.unusedVariables false
set_option linter.unusedSimpArgs false

/-! ### spec_onlyDigits: function 17 -/
def spec_onlyDigits.l0 : Nat → ByteArray → Int → Option (Bool)
  | 0, _, _ => none
  | k + 1, x0, x3 => if x3 < (x0.size : Int) then (if 0 ≤ x3 then (if (bt x0 x3) < 48 then (some false) else (if (bt x0 x3) > 57 then (some false) else (spec_onlyDigits.l0 k x0 (wrap64 (x3 + 1))))) else (none)) else (some true)
def spec_onlyDigits.f (k : Nat) (a0 : ByteArray) : Option (Bool) := spec_onlyDigits.l0 k a0 0
theorem spec_onlyDigits.mono_l : ∀ k, (∀ y0 y1, LeO (spec_onlyDigits.l0 k y0 y1) (spec_onlyDigits.l0 (k + 1) y0 y1))
  | 0 => fun _ _ r h => by simp [spec_onlyDigits.l0] at h
  | k + 1 => by
    have ih0 := spec_onlyDigits.mono_l k
    · intro y0 y1
      unfold spec_onlyDigits.l0
      repeat' first
      | (with_reducible exact ih0 _ _)
      | (with_reducible exact LeO.refl _)
      | (with_reducible exact LeO.none _)
      | (with_reducible refine LeO.ite ?_ ?_)
      | (with_reducible refine LeO.bind ?_ (fun _ => ?_))
      | exact ih0 _ _
      | exact LeO.none _
      | refine LeO.ite ?_ ?_
      | refine LeO.bind ?_ (fun _ => ?_)
theorem spec_onlyDigits.mono : ∀ a0 k, LeO (spec_onlyDigits.f k a0) (spec_onlyDigits.f (k + 1) a0) := by
  intro a0 k
  have ih0 := spec_onlyDigits.mono_l k
  unfold spec_onlyDigits.f
  repeat' first
      | (with_reducible exact ih0 _ _)
      | (with_reducible exact LeO.refl _)
      | (with_reducible exact LeO.none _)
      | (with_reducible refine LeO.ite ?_ ?_)
      | (with_reducible refine LeO.bind ?_ (fun _ => ?_))
      | exact ih0 _ _
      | exact LeO.none _
      | refine LeO.ite ?_ ?_
      | refine LeO.bind ?_ (fun _ => ?_)
set_option maxHeartbeats 8000000 in
set_option maxRecDepth 100000 in
theorem spec_onlyDigits.calls (k : Nat) (a0 : ByteArray) (r : Bool) (w : World) (h : spec_onlyDigits.f k a0 = some r) :
    Calls Tryz.prog 17 #[.string a0] w fun e w' => e = .returned (.bool r) ∧ Drawn0 w w' := by
  have H : (spec_onlyDigits.l0 k a0 0) = some r := h
  clear h
  have H' := Aside0.mk H
  clear H
  go_enter Tryz.func17, Tryz.ntmps17
  go_wp2
  go_loopg [3] k (fun kq v3 w' => ∃ (x3_1 : Int), v3 = .int .i64 x3_1 ∧ Aside0 (spec_onlyDigits.l0 kq a0 x3_1 = some r) ∧ Aside0 (kq ≤ k) ∧ Drawn0 w w')
  case atStart => exact ⟨(0), (by first | rfl | (simp only [bytesLe_not]; done) | (simp; done) | (simp [*]; done)), H', ⟨Nat.le_refl _⟩, by repeat (first | exact Drawn0.refl _ | apply Drawn0.step)⟩
  case round =>
    clear H'
    try clear c1
    obtain ⟨x3_1, rfl, HA, HK1, ⟨m1, rfl⟩⟩ := hrel
    cases gk with
    | zero => exact absurd HA.out (by simp [spec_onlyDigits.l0])
    | succ k1 =>
      have H := HA.out
      clear HA
      simp only [spec_onlyDigits.l0] at H
      by_cases c2 : x3_1 < (a0.size : Int)
      · rw [if_pos c2] at H
        have c2b0 : decide (x3_1 < (a0.size : Int)) = true := decide_eq_true c2
        clear c2
        by_cases c3 : 0 ≤ x3_1
        · rw [if_pos c3] at H
          have c3b0 : decide (0 ≤ x3_1) = true := decide_eq_true c3
          clear c3
          by_cases c5 : (bt a0 x3_1) < 48
          · rw [if_pos c5] at H
            have c5b0 : decide ((bt a0 x3_1) < 48) = true := decide_eq_true c5
            clear c5
            as_aux_lemma =>
              obtain rfl := Option.some.inj H
              have p4 : 0 ≤ (x3_1 : Int) := of_decide_eq_true (by first | (with_reducible assumption) | assumption)
              have q4 : x3_1 < (a0.size : Int) := of_decide_eq_true (by first | (with_reducible assumption) | assumption)
              have hx4 := bt_at a0 x3_1
              replace p4 := eq_true p4
              replace q4 := eq_true q4
              go_wp2
              go_ret
              exact ⟨by first | rfl | (simp only [bytesLe_not]; done) | (simp; done) | (simp [*]; done), by repeat (first | exact Drawn0.refl _ | apply Drawn0.step)⟩
          · rw [if_neg c5] at H
            have c5b0 : decide ((bt a0 x3_1) < 48) = false := decide_eq_false c5
            clear c5
            by_cases c7 : (bt a0 x3_1) > 57
            · rw [if_pos c7] at H
              have c7b0 : decide (57 < (bt a0 x3_1)) = true := decide_eq_true c7
              clear c7
              as_aux_lemma =>
                obtain rfl := Option.some.inj H
                have p4 : 0 ≤ (x3_1 : Int) := of_decide_eq_true (by first | (with_reducible assumption) | assumption)
                have q4 : x3_1 < (a0.size : Int) := of_decide_eq_true (by first | (with_reducible assumption) | assumption)
                have hx4 := bt_at a0 x3_1
                replace p4 := eq_true p4
                replace q4 := eq_true q4
                have p6 : 0 ≤ (x3_1 : Int) := of_decide_eq_true (by first | (with_reducible assumption) | assumption)
                have q6 : x3_1 < (a0.size : Int) := of_decide_eq_true (by first | (with_reducible assumption) | assumption)
                have hx6 := bt_at a0 x3_1
                replace p6 := eq_true p6
                replace q6 := eq_true q6
                go_wp2
                go_ret
                exact ⟨by first | rfl | (simp only [bytesLe_not]; done) | (simp; done) | (simp [*]; done), by repeat (first | exact Drawn0.refl _ | apply Drawn0.step)⟩
            · rw [if_neg c7] at H
              have c7b0 : decide (57 < (bt a0 x3_1)) = false := decide_eq_false c7
              clear c7
              as_aux_lemma =>
                have H' := Aside0.mk H
                clear H
                have p4 : 0 ≤ (x3_1 : Int) := of_decide_eq_true (by first | (with_reducible assumption) | assumption)
                have q4 : x3_1 < (a0.size : Int) := of_decide_eq_true (by first | (with_reducible assumption) | assumption)
                have hx4 := bt_at a0 x3_1
                replace p4 := eq_true p4
                replace q4 := eq_true q4
                have p6 : 0 ≤ (x3_1 : Int) := of_decide_eq_true (by first | (with_reducible assumption) | assumption)
                have q6 : x3_1 < (a0.size : Int) := of_decide_eq_true (by first | (with_reducible assumption) | assumption)
                have hx6 := bt_at a0 x3_1
                replace p6 := eq_true p6
                replace q6 := eq_true q6
                go_wp2
                go_roundg k1
                case measure => have := HK1.out; omega
                case rel => exact ⟨(wrap64 (x3_1 + 1)), (by first | rfl | (simp only [bytesLe_not]; done) | (simp; done) | (simp [*]; done)), H', ⟨by have := HK1.out; omega⟩, by repeat (first | exact Drawn0.refl _ | apply Drawn0.step)⟩
        · rw [if_neg c3] at H
          exact absurd H (by simp)
      · rw [if_neg c2] at H
        have c2b0 : decide (x3_1 < (a0.size : Int)) = false := decide_eq_false c2
        clear c2
        as_aux_lemma =>
          obtain rfl := Option.some.inj H
          go_wp2
          go_ret
          exact ⟨by first | rfl | (simp only [bytesLe_not]; done) | (simp; done) | (simp [*]; done), by repeat (first | exact Drawn0.refl _ | apply Drawn0.step)⟩

end Go.Proofs.YtlhijjfbcgconaaGreatDoor.P

