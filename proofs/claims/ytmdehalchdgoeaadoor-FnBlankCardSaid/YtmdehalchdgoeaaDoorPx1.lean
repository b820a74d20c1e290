-- WRITTEN by xprint.py (a program of this session, over the kit's print) out of the translation. Not trusted: Lean checks it.
import Derived.Test.YtmdehalchdgoeaaDoorPx0
namespace Go.Proofs.YtmdehalchdgoeaaDoor.P
open Go.RowKit Go.Proofs.YtmdehalchdgoeaaDoorW.PrintWords Go.Proofs.YtmdehalchdgoeaaDoorW.PrintLast Go.Proofs.YtmdehalchdgoeaaDoorW.PrintMore
attribute [local go_sem] max2_int min2_int max_two min_two max_three min_three max_four min_four   -- for this text's walks alone
set_option linter.unusedVariables false
set_option linter.unusedSimpArgs false

/-! ### spec_ASCII: function 26 -/
def spec_ASCII.l0 : Nat → ByteArray → Int → Option (Bool)
  | 0, _, _ => none
  | k + 1, x0, x3 => if x3 < (x0.size : Int) then (if 0 ≤ x3 then (if (bt x0 x3) ≥ 128 then (some false) else (spec_ASCII.l0 k x0 (wrap64 (x3 + 1)))) else (none)) else (some true)
def spec_ASCII.f (k : Nat) (a0 : ByteArray) : Option (Bool) := spec_ASCII.l0 k a0 0
theorem spec_ASCII.mono_l : ∀ k, (∀ y0 y1, LeO (spec_ASCII.l0 k y0 y1) (spec_ASCII.l0 (k + 1) y0 y1))
  | 0 => fun _ _ r h => by simp [spec_ASCII.l0] at h
  | k + 1 => by
    have ih0 := spec_ASCII.mono_l k
    · intro y0 y1
      unfold spec_ASCII.l0
      repeat' first
      | (with_reducible exact ih0 _ _)
      | (with_reducible exact LeO.refl _)
      | (with_reducible exact LeO.none _)
      | (with_reducible refine LeO.ite ?_ ?_)
      | (with_reducible refine LeO.bind ?_ (fun _ => ?_))
      | exact ih0 _ _
      | exact LeO.none _
      | refine LeO.ite ?_ ?_
      | refine LeO.bind ?_ (fun _ => ?_)
theorem spec_ASCII.mono : ∀ a0 k, LeO (spec_ASCII.f k a0) (spec_ASCII.f (k + 1) a0) := by
  intro a0 k
  have ih0 := spec_ASCII.mono_l k
  unfold spec_ASCII.f
  repeat' first
      | (with_reducible exact ih0 _ _)
      | (with_reducible exact LeO.refl _)
      | (with_reducible exact LeO.none _)
      | (with_reducible refine LeO.ite ?_ ?_)
      | (with_reducible refine LeO.bind ?_ (fun _ => ?_))
      | exact ih0 _ _
      | exact LeO.none _
      | refine LeO.ite ?_ ?_
      | refine LeO.bind ?_ (fun _ => ?_)
set_option maxHeartbeats 8000000 in
set_option maxRecDepth 100000 in
theorem spec_ASCII.calls (k : Nat) (a0 : ByteArray) (r : Bool) (w : World) (h : spec_ASCII.f k a0 = some r) :
    Calls Tryd.prog 26 #[.string a0] w fun e w' => e = .returned (.bool r) ∧ Drawn0 w w' := by
  have H : (spec_ASCII.l0 k a0 0) = some r := h
  clear h
  have H' := Aside0.mk H
  clear H
  go_enter Tryd.func26, Tryd.ntmps26
  go_wp2
  go_loopg [3] k (fun kq v3 w' => ∃ (x3_1 : Int), v3 = .int .i64 x3_1 ∧ Aside0 (spec_ASCII.l0 kq a0 x3_1 = some r) ∧ Aside0 (kq ≤ k) ∧ Drawn0 w w')
  case atStart => exact ⟨(0), (by first | rfl | (simp; done) | (simp [*]; done)), H', ⟨Nat.le_refl _⟩, by repeat (first | exact Drawn0.refl _ | apply Drawn0.step)⟩
  case round =>
    clear H'
    obtain ⟨x3_1, rfl, HA, HK1, ⟨m1, rfl⟩⟩ := hrel
    cases gk with
    | zero => exact absurd HA.out (by simp [spec_ASCII.l0])
    | succ k1 =>
      have H := HA.out
      clear HA
      simp only [spec_ASCII.l0] at H
      by_cases c2 : x3_1 < (a0.size : Int)
      · rw [if_pos c2] at H
        have c2b0 : decide (x3_1 < (a0.size : Int)) = true := decide_eq_true c2
        clear c2
        by_cases c3 : 0 ≤ x3_1
        · rw [if_pos c3] at H
          have c3b0 : decide (0 ≤ x3_1) = true := decide_eq_true c3
          clear c3
          by_cases c5 : (bt a0 x3_1) ≥ 128
          · rw [if_pos c5] at H
            have c5b0 : decide (128 ≤ (bt a0 x3_1)) = true := decide_eq_true c5
            clear c5
            obtain rfl := Option.some.inj H
            have p4 : 0 ≤ (x3_1 : Int) := of_decide_eq_true (by first | (with_reducible assumption) | assumption)
            have q4 : x3_1 < (a0.size : Int) := of_decide_eq_true (by first | (with_reducible assumption) | assumption)
            have hx4 := bt_at a0 x3_1
            replace p4 := eq_true p4
            replace q4 := eq_true q4
            go_wp2
            go_ret
            exact ⟨by first | rfl | (simp; done) | (simp [*]; done), by repeat (first | exact Drawn0.refl _ | apply Drawn0.step)⟩
          · rw [if_neg c5] at H
            have c5b0 : decide (128 ≤ (bt a0 x3_1)) = false := decide_eq_false c5
            clear c5
            have H' := Aside0.mk H
            clear H
            have p4 : 0 ≤ (x3_1 : Int) := of_decide_eq_true (by first | (with_reducible assumption) | assumption)
            have q4 : x3_1 < (a0.size : Int) := of_decide_eq_true (by first | (with_reducible assumption) | assumption)
            have hx4 := bt_at a0 x3_1
            replace p4 := eq_true p4
            replace q4 := eq_true q4
            go_wp2
            go_roundg k1
            case measure => have := HK1.out; omega
            case rel => exact ⟨(wrap64 (x3_1 + 1)), (by first | rfl | (simp; done) | (simp [*]; done)), H', ⟨by have := HK1.out; omega⟩, by repeat (first | exact Drawn0.refl _ | apply Drawn0.step)⟩
        · rw [if_neg c3] at H
          exact absurd H (by simp)
      · rw [if_neg c2] at H
        have c2b0 : decide (x3_1 < (a0.size : Int)) = false := decide_eq_false c2
        clear c2
        obtain rfl := Option.some.inj H
        go_wp2
        go_ret
        exact ⟨by first | rfl | (simp; done) | (simp [*]; done), by repeat (first | exact Drawn0.refl _ | apply Drawn0.step)⟩

/-! ### laws_plain9: function 7 -/
def laws_plain9.l0 : Nat → List ByteArray → Int → Int → Option (Bool)
  | 0, _, _, _ => none
  | k + 1, x0, x5, x6 => if x6 < x5 then (if 0 ≤ x6 then (if x6 < (x0.length : Int) then (if ((rdOf ByteArray.empty x0 x6).size : Int) > 500 then (some false) else ((spec_ASCII.f k (rdOf ByteArray.empty x0 x6)).bind fun t103 => (if t103 = true then (laws_plain9.l0 k x0 x5 (wrap64 (x6 + 1))) else (some false)))) else (none)) else (none)) else (some true)
def laws_plain9.f (k : Nat) (l0 : List ByteArray) : Option (Bool) := laws_plain9.l0 k l0 (l0.length : Int) 0
theorem laws_plain9.mono_l : ∀ k, (∀ y0 y1 y2, LeO (laws_plain9.l0 k y0 y1 y2) (laws_plain9.l0 (k + 1) y0 y1 y2))
  | 0 => fun _ _ _ r h => by simp [laws_plain9.l0] at h
  | k + 1 => by
    have ih0 := laws_plain9.mono_l k
    · intro y0 y1 y2
      unfold laws_plain9.l0
      repeat' first
      | (with_reducible exact ih0 _ _ _)
      | (with_reducible exact spec_ASCII.mono _ _)
      | (with_reducible exact LeO.refl _)
      | (with_reducible exact LeO.none _)
      | (with_reducible refine LeO.ite ?_ ?_)
      | (with_reducible refine LeO.bind ?_ (fun _ => ?_))
      | exact ih0 _ _ _
      | exact spec_ASCII.mono _ _
      | exact LeO.none _
      | refine LeO.ite ?_ ?_
      | refine LeO.bind ?_ (fun _ => ?_)
theorem laws_plain9.mono : ∀ a0 k, LeO (laws_plain9.f k a0) (laws_plain9.f (k + 1) a0) := by
  intro a0 k
  have ih0 := laws_plain9.mono_l k
  unfold laws_plain9.f
  repeat' first
      | (with_reducible exact ih0 _ _ _)
      | (with_reducible exact spec_ASCII.mono _ _)
      | (with_reducible exact LeO.refl _)
      | (with_reducible exact LeO.none _)
      | (with_reducible refine LeO.ite ?_ ?_)
      | (with_reducible refine LeO.bind ?_ (fun _ => ?_))
      | exact ih0 _ _ _
      | exact spec_ASCII.mono _ _
      | exact LeO.none _
      | refine LeO.ite ?_ ?_
      | refine LeO.bind ?_ (fun _ => ?_)
set_option maxHeartbeats 8000000 in
set_option maxRecDepth 100000 in
theorem laws_plain9.calls (k : Nat) (A0 : Option Addr) (c0 : Nat) (l0 : List ByteArray) (r : Bool) (w : World) (hr0 : Kd.C Kd.string w A0 l0.length l0) (hc0 : l0.length ≤ c0) (h : laws_plain9.f k l0 = some r) :
    Calls Tryd.prog 7 #[.slice A0 l0.length c0] w fun e w' => e = .returned (.bool r) ∧ Drawn0 w w' := by
  have HR0 := Aside0.mk hr0
  have HC0 := Aside0.mk hc0
  clear hr0 hc0
  have H : (laws_plain9.l0 k l0 (l0.length : Int) 0) = some r := h
  clear h
  have H' := Aside0.mk H
  clear H
  go_enter Tryd.func7, Tryd.ntmps7
  go_wp2
  go_loopg [6] k (fun kq v6 w' => ∃ (x6_1 : Int), v6 = .int .i64 x6_1 ∧ Aside0 (laws_plain9.l0 kq l0 (l0.length : Int) x6_1 = some r) ∧ Aside0 (kq ≤ k) ∧ Drawn0 w w')
  case atStart => exact ⟨(0), (by first | rfl | (simp; done) | (simp [*]; done)), H', ⟨Nat.le_refl _⟩, by repeat (first | exact Drawn0.refl _ | apply Drawn0.step)⟩
  case round =>
    clear H'
    obtain ⟨x6_1, rfl, HA, HK1, ⟨m1, rfl⟩⟩ := hrel
    cases gk with
    | zero => exact absurd HA.out (by simp [laws_plain9.l0])
    | succ k1 =>
      have H := HA.out
      clear HA
      simp only [laws_plain9.l0] at H
      by_cases c2 : x6_1 < (l0.length : Int)
      · rw [if_pos c2] at H
        have c2b0 : decide (x6_1 < (l0.length : Int)) = true := decide_eq_true c2
        clear c2
        by_cases c3 : 0 ≤ x6_1
        · rw [if_pos c3] at H
          have c3b0 : decide (0 ≤ x6_1) = true := decide_eq_true c3
          clear c3
          by_cases c4 : x6_1 < (l0.length : Int)
          · rw [if_pos c4] at H
            have c4b0 : decide (x6_1 < (l0.length : Int)) = true := decide_eq_true c4
            clear c4
            by_cases c5 : ((rdOf ByteArray.empty l0 x6_1).size : Int) > 500
            · rw [if_pos c5] at H
              have c5b0 : decide (500 < ((rdOf ByteArray.empty l0 x6_1).size : Int)) = true := decide_eq_true c5
              have c5b1 : decide (500 < (rdOf ByteArray.empty l0 x6_1).size) = true := decide_eq_true (by omega)
              clear c5
              obtain rfl := Option.some.inj H
              have p101 : 0 ≤ (x6_1 : Int) := of_decide_eq_true (by first | (with_reducible assumption) | assumption)
              have q101 : x6_1 < (l0.length : Int) := of_decide_eq_true (by first | (with_reducible assumption) | assumption)
              obtain ⟨ad101, e101, hx101_0⟩ := Kd.at_string HR0.out x6_1 p101 q101
              cases e101
              replace p101 := eq_true p101
              replace q101 := eq_true q101
              go_wp2
              go_ret
              exact ⟨by first | rfl | (simp; done) | (simp [*]; done), by repeat (first | exact Drawn0.refl _ | apply Drawn0.step)⟩
            · rw [if_neg c5] at H
              have c5b0 : decide (500 < ((rdOf ByteArray.empty l0 x6_1).size : Int)) = false := decide_eq_false c5
              have c5b1 : decide (500 < (rdOf ByteArray.empty l0 x6_1).size) = false := decide_eq_false (by omega)
              clear c5
              replace H := Option.bind_eq_some_iff.mp H
              obtain ⟨t103, A60, H⟩ := H
              replace H : (if t103 = true then (laws_plain9.l0 k1 l0 (l0.length : Int) (wrap64 (x6_1 + 1))) else (some false)) = some r := H
              have A6 := Aside0.mk A60
              clear A60
              by_cases c7 : t103 = true
              · subst c7
                have H1 : (laws_plain9.l0 k1 l0 (l0.length : Int) (wrap64 (x6_1 + 1))) = some r := by rw [if_pos rfl] at H; exact H
                clear H
                have H := H1
                clear H1
                have H' := Aside0.mk H
                clear H
                have p101 : 0 ≤ (x6_1 : Int) := of_decide_eq_true (by first | (with_reducible assumption) | assumption)
                have q101 : x6_1 < (l0.length : Int) := of_decide_eq_true (by first | (with_reducible assumption) | assumption)
                obtain ⟨ad101, e101, hx101_0⟩ := Kd.at_string HR0.out x6_1 p101 q101
                cases e101
                replace p101 := eq_true p101
                replace q101 := eq_true q101
                have p102 : 0 ≤ (x6_1 : Int) := of_decide_eq_true (by first | (with_reducible assumption) | assumption)
                have q102 : x6_1 < (l0.length : Int) := of_decide_eq_true (by first | (with_reducible assumption) | assumption)
                obtain ⟨ad102, e102, hx102_0⟩ := Kd.at_string HR0.out x6_1 p102 q102
                obtain rfl : ad101 = ad102 := (by injection e102)
                replace p102 := eq_true p102
                replace q102 := eq_true q102
                go_wp2_with (first | (go_at_call 26; (with_reducible refine (spec_ASCII.calls k1 (rdOf ByteArray.empty l0 x6_1) true _ A6.out).mono ?_); rintro e w' ⟨rfl, ⟨nd, rfl⟩⟩))
                go_roundg k1
                case measure => have := HK1.out; omega
                case rel => exact ⟨(wrap64 (x6_1 + 1)), (by first | rfl | (simp; done) | (simp [*]; done)), H', ⟨by have := HK1.out; omega⟩, by repeat (first | exact Drawn0.refl _ | apply Drawn0.step)⟩
              · replace c7 := Bool.eq_false_iff.mpr c7
                subst c7
                have H1 : (some false) = some r := by rw [if_neg (show ¬ (false = true) by decide)] at H; exact H
                clear H
                have H := H1
                clear H1
                obtain rfl := Option.some.inj H
                have p101 : 0 ≤ (x6_1 : Int) := of_decide_eq_true (by first | (with_reducible assumption) | assumption)
                have q101 : x6_1 < (l0.length : Int) := of_decide_eq_true (by first | (with_reducible assumption) | assumption)
                obtain ⟨ad101, e101, hx101_0⟩ := Kd.at_string HR0.out x6_1 p101 q101
                cases e101
                replace p101 := eq_true p101
                replace q101 := eq_true q101
                have p102 : 0 ≤ (x6_1 : Int) := of_decide_eq_true (by first | (with_reducible assumption) | assumption)
                have q102 : x6_1 < (l0.length : Int) := of_decide_eq_true (by first | (with_reducible assumption) | assumption)
                obtain ⟨ad102, e102, hx102_0⟩ := Kd.at_string HR0.out x6_1 p102 q102
                obtain rfl : ad101 = ad102 := (by injection e102)
                replace p102 := eq_true p102
                replace q102 := eq_true q102
                go_wp2_with (first | (go_at_call 26; (with_reducible refine (spec_ASCII.calls k1 (rdOf ByteArray.empty l0 x6_1) false _ A6.out).mono ?_); rintro e w' ⟨rfl, ⟨nd, rfl⟩⟩))
                go_ret
                exact ⟨by first | rfl | (simp; done) | (simp [*]; done), by repeat (first | exact Drawn0.refl _ | apply Drawn0.step)⟩
          · rw [if_neg c4] at H
            exact absurd H (by simp)
        · rw [if_neg c3] at H
          exact absurd H (by simp)
      · rw [if_neg c2] at H
        have c2b0 : decide (x6_1 < (l0.length : Int)) = false := decide_eq_false c2
        clear c2
        obtain rfl := Option.some.inj H
        go_wp2
        go_ret
        exact ⟨by first | rfl | (simp; done) | (simp [*]; done), by repeat (first | exact Drawn0.refl _ | apply Drawn0.step)⟩

/-! ### spec_IsSpace: function 42 -/
def spec_IsSpace.f (a0 : Int) : Option (Bool) := if a0 ≥ 9 then (if a0 ≤ 13 then (some true) else (if a0 = 32 then (some true) else (if a0 = 133 then (some true) else (if a0 = 160 then (some true) else (if a0 = 5760 then (some true) else (if a0 ≥ 8192 then (if a0 ≤ 8202 then (some true) else (if a0 = 8232 then (some true) else (if a0 = 8233 then (some true) else (if a0 = 8239 then (some true) else (if a0 = 8287 then (some true) else (some (a0 == 12288))))))) else (if a0 = 8232 then (some true) else (if a0 = 8233 then (some true) else (if a0 = 8239 then (some true) else (if a0 = 8287 then (some true) else (some (a0 == 12288)))))))))))) else (if a0 = 32 then (some true) else (if a0 = 133 then (some true) else (if a0 = 160 then (some true) else (if a0 = 5760 then (some true) else (if a0 ≥ 8192 then (if a0 ≤ 8202 then (some true) else (if a0 = 8232 then (some true) else (if a0 = 8233 then (some true) else (if a0 = 8239 then (some true) else (if a0 = 8287 then (some true) else (some (a0 == 12288))))))) else (if a0 = 8232 then (some true) else (if a0 = 8233 then (some true) else (if a0 = 8239 then (some true) else (if a0 = 8287 then (some true) else (some (a0 == 12288)))))))))))
set_option maxHeartbeats 8000000 in
set_option maxRecDepth 100000 in
theorem spec_IsSpace.calls (a0 : Int) (r : Bool) (w : World) (h : spec_IsSpace.f a0 = some r) :
    Calls Tryd.prog 42 #[.int .i32 a0] w fun e w' => e = .returned (.bool r) ∧ Drawn0 w w' := by
  have H : (if a0 ≥ 9 then (if a0 ≤ 13 then (some true) else (if a0 = 32 then (some true) else (if a0 = 133 then (some true) else (if a0 = 160 then (some true) else (if a0 = 5760 then (some true) else (if a0 ≥ 8192 then (if a0 ≤ 8202 then (some true) else (if a0 = 8232 then (some true) else (if a0 = 8233 then (some true) else (if a0 = 8239 then (some true) else (if a0 = 8287 then (some true) else (some (a0 == 12288))))))) else (if a0 = 8232 then (some true) else (if a0 = 8233 then (some true) else (if a0 = 8239 then (some true) else (if a0 = 8287 then (some true) else (some (a0 == 12288)))))))))))) else (if a0 = 32 then (some true) else (if a0 = 133 then (some true) else (if a0 = 160 then (some true) else (if a0 = 5760 then (some true) else (if a0 ≥ 8192 then (if a0 ≤ 8202 then (some true) else (if a0 = 8232 then (some true) else (if a0 = 8233 then (some true) else (if a0 = 8239 then (some true) else (if a0 = 8287 then (some true) else (some (a0 == 12288))))))) else (if a0 = 8232 then (some true) else (if a0 = 8233 then (some true) else (if a0 = 8239 then (some true) else (if a0 = 8287 then (some true) else (some (a0 == 12288)))))))))))) = some r := h
  clear h
  by_cases c2 : a0 ≥ 9
  · rw [if_pos c2] at H
    have c2b0 : decide (9 ≤ a0) = true := decide_eq_true c2
    clear c2
    by_cases c3 : a0 ≤ 13
    · rw [if_pos c3] at H
      have c3b0 : decide (a0 ≤ 13) = true := decide_eq_true c3
      clear c3
      obtain rfl := Option.some.inj H
      go_enter Tryd.func42, Tryd.ntmps42
      go_wp2
      go_ret
      exact ⟨by first | rfl | (simp; done) | (simp [*]; done), by repeat (first | exact Drawn0.refl _ | apply Drawn0.step)⟩
    · rw [if_neg c3] at H
      have c3b0 : decide (a0 ≤ 13) = false := decide_eq_false c3
      clear c3
      by_cases c4 : a0 = 32
      · rw [if_pos c4] at H
        have c4b0 : (a0 == 32) = true := beq_iff_eq.mpr c4
        have c4b1 : (a0 != 32) = false := bne_eq_false_iff_eq.mpr c4
        clear c4
        obtain rfl := Option.some.inj H
        go_enter Tryd.func42, Tryd.ntmps42
        go_wp2
        go_ret
        exact ⟨by first | rfl | (simp; done) | (simp [*]; done), by repeat (first | exact Drawn0.refl _ | apply Drawn0.step)⟩
      · rw [if_neg c4] at H
        have c4b0 : (a0 == 32) = false := beq_eq_false_iff_ne.mpr c4
        have c4b1 : (a0 != 32) = true := bne_iff_ne.mpr c4
        by_cases c5 : a0 = 133
        · rw [if_pos c5] at H
          have c5b0 : (a0 == 133) = true := beq_iff_eq.mpr c5
          have c5b1 : (a0 != 133) = false := bne_eq_false_iff_eq.mpr c5
          clear c5
          obtain rfl := Option.some.inj H
          go_enter Tryd.func42, Tryd.ntmps42
          go_wp2
          go_ret
          exact ⟨by first | rfl | (simp; done) | (simp [*]; done), by repeat (first | exact Drawn0.refl _ | apply Drawn0.step)⟩
        · rw [if_neg c5] at H
          have c5b0 : (a0 == 133) = false := beq_eq_false_iff_ne.mpr c5
          have c5b1 : (a0 != 133) = true := bne_iff_ne.mpr c5
          by_cases c6 : a0 = 160
          · rw [if_pos c6] at H
            have c6b0 : (a0 == 160) = true := beq_iff_eq.mpr c6
            have c6b1 : (a0 != 160) = false := bne_eq_false_iff_eq.mpr c6
            clear c6
            obtain rfl := Option.some.inj H
            go_enter Tryd.func42, Tryd.ntmps42
            go_wp2
            go_ret
            exact ⟨by first | rfl | (simp; done) | (simp [*]; done), by repeat (first | exact Drawn0.refl _ | apply Drawn0.step)⟩
          · rw [if_neg c6] at H
            have c6b0 : (a0 == 160) = false := beq_eq_false_iff_ne.mpr c6
            have c6b1 : (a0 != 160) = true := bne_iff_ne.mpr c6
            by_cases c7 : a0 = 5760
            · rw [if_pos c7] at H
              have c7b0 : (a0 == 5760) = true := beq_iff_eq.mpr c7
              have c7b1 : (a0 != 5760) = false := bne_eq_false_iff_eq.mpr c7
              clear c7
              obtain rfl := Option.some.inj H
              go_enter Tryd.func42, Tryd.ntmps42
              go_wp2
              go_ret
              exact ⟨by first | rfl | (simp; done) | (simp [*]; done), by repeat (first | exact Drawn0.refl _ | apply Drawn0.step)⟩
            · rw [if_neg c7] at H
              have c7b0 : (a0 == 5760) = false := beq_eq_false_iff_ne.mpr c7
              have c7b1 : (a0 != 5760) = true := bne_iff_ne.mpr c7
              by_cases c8 : a0 ≥ 8192
              · rw [if_pos c8] at H
                have c8b0 : decide (8192 ≤ a0) = true := decide_eq_true c8
                clear c8
                by_cases c9 : a0 ≤ 8202
                · rw [if_pos c9] at H
                  have c9b0 : decide (a0 ≤ 8202) = true := decide_eq_true c9
                  clear c9
                  obtain rfl := Option.some.inj H
                  go_enter Tryd.func42, Tryd.ntmps42
                  go_wp2
                  go_ret
                  exact ⟨by first | rfl | (simp; done) | (simp [*]; done), by repeat (first | exact Drawn0.refl _ | apply Drawn0.step)⟩
                · rw [if_neg c9] at H
                  have c9b0 : decide (a0 ≤ 8202) = false := decide_eq_false c9
                  clear c9
                  by_cases c10 : a0 = 8232
                  · rw [if_pos c10] at H
                    have c10b0 : (a0 == 8232) = true := beq_iff_eq.mpr c10
                    have c10b1 : (a0 != 8232) = false := bne_eq_false_iff_eq.mpr c10
                    clear c10
                    obtain rfl := Option.some.inj H
                    go_enter Tryd.func42, Tryd.ntmps42
                    go_wp2
                    go_ret
                    exact ⟨by first | rfl | (simp; done) | (simp [*]; done), by repeat (first | exact Drawn0.refl _ | apply Drawn0.step)⟩
                  · rw [if_neg c10] at H
                    have c10b0 : (a0 == 8232) = false := beq_eq_false_iff_ne.mpr c10
                    have c10b1 : (a0 != 8232) = true := bne_iff_ne.mpr c10
                    by_cases c11 : a0 = 8233
                    · rw [if_pos c11] at H
                      have c11b0 : (a0 == 8233) = true := beq_iff_eq.mpr c11
                      have c11b1 : (a0 != 8233) = false := bne_eq_false_iff_eq.mpr c11
                      clear c11
                      obtain rfl := Option.some.inj H
                      go_enter Tryd.func42, Tryd.ntmps42
                      go_wp2
                      go_ret
                      exact ⟨by first | rfl | (simp; done) | (simp [*]; done), by repeat (first | exact Drawn0.refl _ | apply Drawn0.step)⟩
                    · rw [if_neg c11] at H
                      have c11b0 : (a0 == 8233) = false := beq_eq_false_iff_ne.mpr c11
                      have c11b1 : (a0 != 8233) = true := bne_iff_ne.mpr c11
                      by_cases c12 : a0 = 8239
                      · rw [if_pos c12] at H
                        have c12b0 : (a0 == 8239) = true := beq_iff_eq.mpr c12
                        have c12b1 : (a0 != 8239) = false := bne_eq_false_iff_eq.mpr c12
                        clear c12
                        obtain rfl := Option.some.inj H
                        go_enter Tryd.func42, Tryd.ntmps42
                        go_wp2
                        go_ret
                        exact ⟨by first | rfl | (simp; done) | (simp [*]; done), by repeat (first | exact Drawn0.refl _ | apply Drawn0.step)⟩
                      · rw [if_neg c12] at H
                        have c12b0 : (a0 == 8239) = false := beq_eq_false_iff_ne.mpr c12
                        have c12b1 : (a0 != 8239) = true := bne_iff_ne.mpr c12
                        by_cases c13 : a0 = 8287
                        · rw [if_pos c13] at H
                          have c13b0 : (a0 == 8287) = true := beq_iff_eq.mpr c13
                          have c13b1 : (a0 != 8287) = false := bne_eq_false_iff_eq.mpr c13
                          clear c13
                          obtain rfl := Option.some.inj H
                          go_enter Tryd.func42, Tryd.ntmps42
                          go_wp2
                          go_ret
                          exact ⟨by first | rfl | (simp; done) | (simp [*]; done), by repeat (first | exact Drawn0.refl _ | apply Drawn0.step)⟩
                        · rw [if_neg c13] at H
                          have c13b0 : (a0 == 8287) = false := beq_eq_false_iff_ne.mpr c13
                          have c13b1 : (a0 != 8287) = true := bne_iff_ne.mpr c13
                          obtain rfl := Option.some.inj H
                          go_enter Tryd.func42, Tryd.ntmps42
                          go_wp2
                          go_ret
                          exact ⟨by first | rfl | (simp; done) | (simp [*]; done), by repeat (first | exact Drawn0.refl _ | apply Drawn0.step)⟩
              · rw [if_neg c8] at H
                have c8b0 : decide (8192 ≤ a0) = false := decide_eq_false c8
                clear c8
                by_cases c14 : a0 = 8232
                · rw [if_pos c14] at H
                  have c14b0 : (a0 == 8232) = true := beq_iff_eq.mpr c14
                  have c14b1 : (a0 != 8232) = false := bne_eq_false_iff_eq.mpr c14
                  clear c14
                  obtain rfl := Option.some.inj H
                  go_enter Tryd.func42, Tryd.ntmps42
                  go_wp2
                  go_ret
                  exact ⟨by first | rfl | (simp; done) | (simp [*]; done), by repeat (first | exact Drawn0.refl _ | apply Drawn0.step)⟩
                · rw [if_neg c14] at H
                  have c14b0 : (a0 == 8232) = false := beq_eq_false_iff_ne.mpr c14
                  have c14b1 : (a0 != 8232) = true := bne_iff_ne.mpr c14
                  by_cases c15 : a0 = 8233
                  · rw [if_pos c15] at H
                    have c15b0 : (a0 == 8233) = true := beq_iff_eq.mpr c15
                    have c15b1 : (a0 != 8233) = false := bne_eq_false_iff_eq.mpr c15
                    clear c15
                    obtain rfl := Option.some.inj H
                    go_enter Tryd.func42, Tryd.ntmps42
                    go_wp2
                    go_ret
                    exact ⟨by first | rfl | (simp; done) | (simp [*]; done), by repeat (first | exact Drawn0.refl _ | apply Drawn0.step)⟩
                  · rw [if_neg c15] at H
                    have c15b0 : (a0 == 8233) = false := beq_eq_false_iff_ne.mpr c15
                    have c15b1 : (a0 != 8233) = true := bne_iff_ne.mpr c15
                    by_cases c16 : a0 = 8239
                    · rw [if_pos c16] at H
                      have c16b0 : (a0 == 8239) = true := beq_iff_eq.mpr c16
                      have c16b1 : (a0 != 8239) = false := bne_eq_false_iff_eq.mpr c16
                      clear c16
                      obtain rfl := Option.some.inj H
                      go_enter Tryd.func42, Tryd.ntmps42
                      go_wp2
                      go_ret
                      exact ⟨by first | rfl | (simp; done) | (simp [*]; done), by repeat (first | exact Drawn0.refl _ | apply Drawn0.step)⟩
                    · rw [if_neg c16] at H
                      have c16b0 : (a0 == 8239) = false := beq_eq_false_iff_ne.mpr c16
                      have c16b1 : (a0 != 8239) = true := bne_iff_ne.mpr c16
                      by_cases c17 : a0 = 8287
                      · rw [if_pos c17] at H
                        have c17b0 : (a0 == 8287) = true := beq_iff_eq.mpr c17
                        have c17b1 : (a0 != 8287) = false := bne_eq_false_iff_eq.mpr c17
                        clear c17
                        obtain rfl := Option.some.inj H
                        go_enter Tryd.func42, Tryd.ntmps42
                        go_wp2
                        go_ret
                        exact ⟨by first | rfl | (simp; done) | (simp [*]; done), by repeat (first | exact Drawn0.refl _ | apply Drawn0.step)⟩
                      · rw [if_neg c17] at H
                        have c17b0 : (a0 == 8287) = false := beq_eq_false_iff_ne.mpr c17
                        have c17b1 : (a0 != 8287) = true := bne_iff_ne.mpr c17
                        obtain rfl := Option.some.inj H
                        go_enter Tryd.func42, Tryd.ntmps42
                        go_wp2
                        go_ret
                        exact ⟨by first | rfl | (simp; done) | (simp [*]; done), by repeat (first | exact Drawn0.refl _ | apply Drawn0.step)⟩
  · rw [if_neg c2] at H
    have c2b0 : decide (9 ≤ a0) = false := decide_eq_false c2
    clear c2
    by_cases c18 : a0 = 32
    · rw [if_pos c18] at H
      have c18b0 : (a0 == 32) = true := beq_iff_eq.mpr c18
      have c18b1 : (a0 != 32) = false := bne_eq_false_iff_eq.mpr c18
      clear c18
      obtain rfl := Option.some.inj H
      go_enter Tryd.func42, Tryd.ntmps42
      go_wp2
      go_ret
      exact ⟨by first | rfl | (simp; done) | (simp [*]; done), by repeat (first | exact Drawn0.refl _ | apply Drawn0.step)⟩
    · rw [if_neg c18] at H
      have c18b0 : (a0 == 32) = false := beq_eq_false_iff_ne.mpr c18
      have c18b1 : (a0 != 32) = true := bne_iff_ne.mpr c18
      by_cases c19 : a0 = 133
      · rw [if_pos c19] at H
        have c19b0 : (a0 == 133) = true := beq_iff_eq.mpr c19
        have c19b1 : (a0 != 133) = false := bne_eq_false_iff_eq.mpr c19
        clear c19
        obtain rfl := Option.some.inj H
        go_enter Tryd.func42, Tryd.ntmps42
        go_wp2
        go_ret
        exact ⟨by first | rfl | (simp; done) | (simp [*]; done), by repeat (first | exact Drawn0.refl _ | apply Drawn0.step)⟩
      · rw [if_neg c19] at H
        have c19b0 : (a0 == 133) = false := beq_eq_false_iff_ne.mpr c19
        have c19b1 : (a0 != 133) = true := bne_iff_ne.mpr c19
        by_cases c20 : a0 = 160
        · rw [if_pos c20] at H
          have c20b0 : (a0 == 160) = true := beq_iff_eq.mpr c20
          have c20b1 : (a0 != 160) = false := bne_eq_false_iff_eq.mpr c20
          clear c20
          obtain rfl := Option.some.inj H
          go_enter Tryd.func42, Tryd.ntmps42
          go_wp2
          go_ret
          exact ⟨by first | rfl | (simp; done) | (simp [*]; done), by repeat (first | exact Drawn0.refl _ | apply Drawn0.step)⟩
        · rw [if_neg c20] at H
          have c20b0 : (a0 == 160) = false := beq_eq_false_iff_ne.mpr c20
          have c20b1 : (a0 != 160) = true := bne_iff_ne.mpr c20
          by_cases c21 : a0 = 5760
          · rw [if_pos c21] at H
            have c21b0 : (a0 == 5760) = true := beq_iff_eq.mpr c21
            have c21b1 : (a0 != 5760) = false := bne_eq_false_iff_eq.mpr c21
            clear c21
            obtain rfl := Option.some.inj H
            go_enter Tryd.func42, Tryd.ntmps42
            go_wp2
            go_ret
            exact ⟨by first | rfl | (simp; done) | (simp [*]; done), by repeat (first | exact Drawn0.refl _ | apply Drawn0.step)⟩
          · rw [if_neg c21] at H
            have c21b0 : (a0 == 5760) = false := beq_eq_false_iff_ne.mpr c21
            have c21b1 : (a0 != 5760) = true := bne_iff_ne.mpr c21
            by_cases c22 : a0 ≥ 8192
            · rw [if_pos c22] at H
              have c22b0 : decide (8192 ≤ a0) = true := decide_eq_true c22
              clear c22
              by_cases c23 : a0 ≤ 8202
              · rw [if_pos c23] at H
                have c23b0 : decide (a0 ≤ 8202) = true := decide_eq_true c23
                clear c23
                obtain rfl := Option.some.inj H
                go_enter Tryd.func42, Tryd.ntmps42
                go_wp2
                go_ret
                exact ⟨by first | rfl | (simp; done) | (simp [*]; done), by repeat (first | exact Drawn0.refl _ | apply Drawn0.step)⟩
              · rw [if_neg c23] at H
                have c23b0 : decide (a0 ≤ 8202) = false := decide_eq_false c23
                clear c23
                by_cases c24 : a0 = 8232
                · rw [if_pos c24] at H
                  have c24b0 : (a0 == 8232) = true := beq_iff_eq.mpr c24
                  have c24b1 : (a0 != 8232) = false := bne_eq_false_iff_eq.mpr c24
                  clear c24
                  obtain rfl := Option.some.inj H
                  go_enter Tryd.func42, Tryd.ntmps42
                  go_wp2
                  go_ret
                  exact ⟨by first | rfl | (simp; done) | (simp [*]; done), by repeat (first | exact Drawn0.refl _ | apply Drawn0.step)⟩
                · rw [if_neg c24] at H
                  have c24b0 : (a0 == 8232) = false := beq_eq_false_iff_ne.mpr c24
                  have c24b1 : (a0 != 8232) = true := bne_iff_ne.mpr c24
                  by_cases c25 : a0 = 8233
                  · rw [if_pos c25] at H
                    have c25b0 : (a0 == 8233) = true := beq_iff_eq.mpr c25
                    have c25b1 : (a0 != 8233) = false := bne_eq_false_iff_eq.mpr c25
                    clear c25
                    obtain rfl := Option.some.inj H
                    go_enter Tryd.func42, Tryd.ntmps42
                    go_wp2
                    go_ret
                    exact ⟨by first | rfl | (simp; done) | (simp [*]; done), by repeat (first | exact Drawn0.refl _ | apply Drawn0.step)⟩
                  · rw [if_neg c25] at H
                    have c25b0 : (a0 == 8233) = false := beq_eq_false_iff_ne.mpr c25
                    have c25b1 : (a0 != 8233) = true := bne_iff_ne.mpr c25
                    by_cases c26 : a0 = 8239
                    · rw [if_pos c26] at H
                      have c26b0 : (a0 == 8239) = true := beq_iff_eq.mpr c26
                      have c26b1 : (a0 != 8239) = false := bne_eq_false_iff_eq.mpr c26
                      clear c26
                      obtain rfl := Option.some.inj H
                      go_enter Tryd.func42, Tryd.ntmps42
                      go_wp2
                      go_ret
                      exact ⟨by first | rfl | (simp; done) | (simp [*]; done), by repeat (first | exact Drawn0.refl _ | apply Drawn0.step)⟩
                    · rw [if_neg c26] at H
                      have c26b0 : (a0 == 8239) = false := beq_eq_false_iff_ne.mpr c26
                      have c26b1 : (a0 != 8239) = true := bne_iff_ne.mpr c26
                      by_cases c27 : a0 = 8287
                      · rw [if_pos c27] at H
                        have c27b0 : (a0 == 8287) = true := beq_iff_eq.mpr c27
                        have c27b1 : (a0 != 8287) = false := bne_eq_false_iff_eq.mpr c27
                        clear c27
                        obtain rfl := Option.some.inj H
                        go_enter Tryd.func42, Tryd.ntmps42
                        go_wp2
                        go_ret
                        exact ⟨by first | rfl | (simp; done) | (simp [*]; done), by repeat (first | exact Drawn0.refl _ | apply Drawn0.step)⟩
                      · rw [if_neg c27] at H
                        have c27b0 : (a0 == 8287) = false := beq_eq_false_iff_ne.mpr c27
                        have c27b1 : (a0 != 8287) = true := bne_iff_ne.mpr c27
                        obtain rfl := Option.some.inj H
                        go_enter Tryd.func42, Tryd.ntmps42
                        go_wp2
                        go_ret
                        exact ⟨by first | rfl | (simp; done) | (simp [*]; done), by repeat (first | exact Drawn0.refl _ | apply Drawn0.step)⟩
            · rw [if_neg c22] at H
              have c22b0 : decide (8192 ≤ a0) = false := decide_eq_false c22
              clear c22
              by_cases c28 : a0 = 8232
              · rw [if_pos c28] at H
                have c28b0 : (a0 == 8232) = true := beq_iff_eq.mpr c28
                have c28b1 : (a0 != 8232) = false := bne_eq_false_iff_eq.mpr c28
                clear c28
                obtain rfl := Option.some.inj H
                go_enter Tryd.func42, Tryd.ntmps42
                go_wp2
                go_ret
                exact ⟨by first | rfl | (simp; done) | (simp [*]; done), by repeat (first | exact Drawn0.refl _ | apply Drawn0.step)⟩
              · rw [if_neg c28] at H
                have c28b0 : (a0 == 8232) = false := beq_eq_false_iff_ne.mpr c28
                have c28b1 : (a0 != 8232) = true := bne_iff_ne.mpr c28
                by_cases c29 : a0 = 8233
                · rw [if_pos c29] at H
                  have c29b0 : (a0 == 8233) = true := beq_iff_eq.mpr c29
                  have c29b1 : (a0 != 8233) = false := bne_eq_false_iff_eq.mpr c29
                  clear c29
                  obtain rfl := Option.some.inj H
                  go_enter Tryd.func42, Tryd.ntmps42
                  go_wp2
                  go_ret
                  exact ⟨by first | rfl | (simp; done) | (simp [*]; done), by repeat (first | exact Drawn0.refl _ | apply Drawn0.step)⟩
                · rw [if_neg c29] at H
                  have c29b0 : (a0 == 8233) = false := beq_eq_false_iff_ne.mpr c29
                  have c29b1 : (a0 != 8233) = true := bne_iff_ne.mpr c29
                  by_cases c30 : a0 = 8239
                  · rw [if_pos c30] at H
                    have c30b0 : (a0 == 8239) = true := beq_iff_eq.mpr c30
                    have c30b1 : (a0 != 8239) = false := bne_eq_false_iff_eq.mpr c30
                    clear c30
                    obtain rfl := Option.some.inj H
                    go_enter Tryd.func42, Tryd.ntmps42
                    go_wp2
                    go_ret
                    exact ⟨by first | rfl | (simp; done) | (simp [*]; done), by repeat (first | exact Drawn0.refl _ | apply Drawn0.step)⟩
                  · rw [if_neg c30] at H
                    have c30b0 : (a0 == 8239) = false := beq_eq_false_iff_ne.mpr c30
                    have c30b1 : (a0 != 8239) = true := bne_iff_ne.mpr c30
                    by_cases c31 : a0 = 8287
                    · rw [if_pos c31] at H
                      have c31b0 : (a0 == 8287) = true := beq_iff_eq.mpr c31
                      have c31b1 : (a0 != 8287) = false := bne_eq_false_iff_eq.mpr c31
                      clear c31
                      obtain rfl := Option.some.inj H
                      go_enter Tryd.func42, Tryd.ntmps42
                      go_wp2
                      go_ret
                      exact ⟨by first | rfl | (simp; done) | (simp [*]; done), by repeat (first | exact Drawn0.refl _ | apply Drawn0.step)⟩
                    · rw [if_neg c31] at H
                      have c31b0 : (a0 == 8287) = false := beq_eq_false_iff_ne.mpr c31
                      have c31b1 : (a0 != 8287) = true := bne_iff_ne.mpr c31
                      obtain rfl := Option.some.inj H
                      go_enter Tryd.func42, Tryd.ntmps42
                      go_wp2
                      go_ret
                      exact ⟨by first | rfl | (simp; done) | (simp [*]; done), by repeat (first | exact Drawn0.refl _ | apply Drawn0.step)⟩

end Go.Proofs.YtmdehalchdgoeaaDoor.P
