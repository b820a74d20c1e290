-- WRITTEN by xprint.py (a program of this session, over the kit's print) out of the translation. Not trusted: Lean checks it.
import Derived.Test.YtfnogloefimeiaaDoorPx0
namespace Go.Proofs.YtfnogloefimeiaaDoor.P
open Go.RowKit Go.Proofs.YtfnogloefimeiaaDoorW.PrintWords Go.Proofs.YtfnogloefimeiaaDoorW.PrintLast Go.Proofs.YtfnogloefimeiaaDoorW.PrintMore
attribute [local go_sem] max2_int min2_int max_two min_two max_three min_three max_four min_four   -- for this text's walks alone
set_option linter.unusedVariables false
set_option linter.unusedSimpArgs false

/-! ### spec_ASCII: function 33 -/
def spec_ASCII.l0 : Nat → ByteArray → Int → Option (Bool)
  | 0, _, _ => none
  | k + 1, x0, x3 => if x3 < (x0.size : Int) then (if 0 ≤ x3 then (if (bt x0 x3) ≥ 128 then (some false) else (spec_ASCII.l0 k x0 (wrap64 (x3 + 1)))) else (none)) else (some true)
def spec_ASCII.f (k : Nat) (a0 : ByteArray) : Option (Bool) := spec_ASCII.l0 k a0 0
theorem spec_ASCII.mono_l : ∀ k, (∀ y0 y1, LeO (spec_ASCII.l0 k y0 y1) (spec_ASCII.l0 (k + 1) y0 y1))
  | 0 => fun _ _ r h => by simp [spec_ASCII.l0] at h
  | k + 1 => by
    have ih0 := spec_ASCII.mono_l k
    · intro y0 y1
      unfold spec_ASCII.l0
      repeat' first
      | (with_reducible exact ih0 _ _)
      | (with_reducible exact LeO.refl _)
      | (with_reducible exact LeO.none _)
      | (with_reducible refine LeO.ite ?_ ?_)
      | (with_reducible refine LeO.bind ?_ (fun _ => ?_))
      | exact ih0 _ _
      | exact LeO.none _
      | refine LeO.ite ?_ ?_
      | refine LeO.bind ?_ (fun _ => ?_)
theorem spec_ASCII.mono : ∀ a0 k, LeO (spec_ASCII.f k a0) (spec_ASCII.f (k + 1) a0) := by
  intro a0 k
  have ih0 := spec_ASCII.mono_l k
  unfold spec_ASCII.f
  repeat' first
      | (with_reducible exact ih0 _ _)
      | (with_reducible exact LeO.refl _)
      | (with_reducible exact LeO.none _)
      | (with_reducible refine LeO.ite ?_ ?_)
      | (with_reducible refine LeO.bind ?_ (fun _ => ?_))
      | exact ih0 _ _
      | exact LeO.none _
      | refine LeO.ite ?_ ?_
      | refine LeO.bind ?_ (fun _ => ?_)
set_option maxHeartbeats 8000000 in
set_option maxRecDepth 100000 in
theorem spec_ASCII.calls (k : Nat) (a0 : ByteArray) (r : Bool) (w : World) (h : spec_ASCII.f k a0 = some r) :
    Calls Tryd.prog 33 #[.string a0] w fun e w' => e = .returned (.bool r) ∧ Drawn0 w w' := by
  have H : (spec_ASCII.l0 k a0 0) = some r := h
  clear h
  have H' := Aside0.mk H
  clear H
  go_enter Tryd.func33, Tryd.ntmps33
  go_wp2
  go_loopg [3] k (fun kq v3 w' => ∃ (x3_1 : Int), v3 = .int .i64 x3_1 ∧ Aside0 (spec_ASCII.l0 kq a0 x3_1 = some r) ∧ Aside0 (kq ≤ k) ∧ Drawn0 w w')
  case atStart => exact ⟨(0), (by first | rfl | (simp; done) | (simp [*]; done)), H', ⟨Nat.le_refl _⟩, by repeat (first | exact Drawn0.refl _ | apply Drawn0.step)⟩
  case round =>
    clear H'
    obtain ⟨x3_1, rfl, HA, HK1, ⟨m1, rfl⟩⟩ := hrel
    cases gk with
    | zero => exact absurd HA.out (by simp [spec_ASCII.l0])
    | succ k1 =>
      have H := HA.out
      clear HA
      simp only [spec_ASCII.l0] at H
      by_cases c2 : x3_1 < (a0.size : Int)
      · rw [if_pos c2] at H
        have c2b0 : decide (x3_1 < (a0.size : Int)) = true := decide_eq_true c2
        clear c2
        by_cases c3 : 0 ≤ x3_1
        · rw [if_pos c3] at H
          have c3b0 : decide (0 ≤ x3_1) = true := decide_eq_true c3
          clear c3
          by_cases c5 : (bt a0 x3_1) ≥ 128
          · rw [if_pos c5] at H
            have c5b0 : decide (128 ≤ (bt a0 x3_1)) = true := decide_eq_true c5
            clear c5
            obtain rfl := Option.some.inj H
            have p4 : 0 ≤ (x3_1 : Int) := of_decide_eq_true (by first | (with_reducible assumption) | assumption)
            have q4 : x3_1 < (a0.size : Int) := of_decide_eq_true (by first | (with_reducible assumption) | assumption)
            have hx4 := bt_at a0 x3_1
            replace p4 := eq_true p4
            replace q4 := eq_true q4
            go_wp2
            go_ret
            exact ⟨by first | rfl | (simp; done) | (simp [*]; done), by repeat (first | exact Drawn0.refl _ | apply Drawn0.step)⟩
          · rw [if_neg c5] at H
            have c5b0 : decide (128 ≤ (bt a0 x3_1)) = false := decide_eq_false c5
            clear c5
            have H' := Aside0.mk H
            clear H
            have p4 : 0 ≤ (x3_1 : Int) := of_decide_eq_true (by first | (with_reducible assumption) | assumption)
            have q4 : x3_1 < (a0.size : Int) := of_decide_eq_true (by first | (with_reducible assumption) | assumption)
            have hx4 := bt_at a0 x3_1
            replace p4 := eq_true p4
            replace q4 := eq_true q4
            go_wp2
            go_roundg k1
            case measure => have := HK1.out; omega
            case rel => exact ⟨(wrap64 (x3_1 + 1)), (by first | rfl | (simp; done) | (simp [*]; done)), H', ⟨by have := HK1.out; omega⟩, by repeat (first | exact Drawn0.refl _ | apply Drawn0.step)⟩
        · rw [if_neg c3] at H
          exact absurd H (by simp)
      · rw [if_neg c2] at H
        have c2b0 : decide (x3_1 < (a0.size : Int)) = false := decide_eq_false c2
        clear c2
        obtain rfl := Option.some.inj H
        go_wp2
        go_ret
        exact ⟨by first | rfl | (simp; done) | (simp [*]; done), by repeat (first | exact Drawn0.refl _ | apply Drawn0.step)⟩

/-! ### laws_plain9: function 15 -/
def laws_plain9.l0 : Nat → List ByteArray → Int → Int → Option (Bool)
  | 0, _, _, _ => none
  | k + 1, x0, x5, x6 => if x6 < x5 then (if 0 ≤ x6 then (if x6 < (x0.length : Int) then (if ((rdOf ByteArray.empty x0 x6).size : Int) > 500 then (some false) else ((spec_ASCII.f k (rdOf ByteArray.empty x0 x6)).bind fun t103 => (if t103 = true then (laws_plain9.l0 k x0 x5 (wrap64 (x6 + 1))) else (some false)))) else (none)) else (none)) else (some true)
def laws_plain9.f (k : Nat) (l0 : List ByteArray) : Option (Bool) := laws_plain9.l0 k l0 (l0.length : Int) 0
theorem laws_plain9.mono_l : ∀ k, (∀ y0 y1 y2, LeO (laws_plain9.l0 k y0 y1 y2) (laws_plain9.l0 (k + 1) y0 y1 y2))
  | 0 => fun _ _ _ r h => by simp [laws_plain9.l0] at h
  | k + 1 => by
    have ih0 := laws_plain9.mono_l k
    · intro y0 y1 y2
      unfold laws_plain9.l0
      repeat' first
      | (with_reducible exact ih0 _ _ _)
      | (with_reducible exact spec_ASCII.mono _ _)
      | (with_reducible exact LeO.refl _)
      | (with_reducible exact LeO.none _)
      | (with_reducible refine LeO.ite ?_ ?_)
      | (with_reducible refine LeO.bind ?_ (fun _ => ?_))
      | exact ih0 _ _ _
      | exact spec_ASCII.mono _ _
      | exact LeO.none _
      | refine LeO.ite ?_ ?_
      | refine LeO.bind ?_ (fun _ => ?_)
theorem laws_plain9.mono : ∀ a0 k, LeO (laws_plain9.f k a0) (laws_plain9.f (k + 1) a0) := by
  intro a0 k
  have ih0 := laws_plain9.mono_l k
  unfold laws_plain9.f
  repeat' first
      | (with_reducible exact ih0 _ _ _)
      | (with_reducible exact spec_ASCII.mono _ _)
      | (with_reducible exact LeO.refl _)
      | (with_reducible exact LeO.none _)
      | (with_reducible refine LeO.ite ?_ ?_)
      | (with_reducible refine LeO.bind ?_ (fun _ => ?_))
      | exact ih0 _ _ _
      | exact spec_ASCII.mono _ _
      | exact LeO.none _
      | refine LeO.ite ?_ ?_
      | refine LeO.bind ?_ (fun _ => ?_)
set_option maxHeartbeats 8000000 in
set_option maxRecDepth 100000 in
theorem laws_plain9.calls (k : Nat) (A0 : Option Addr) (c0 : Nat) (l0 : List ByteArray) (r : Bool) (w : World) (hr0 : Kd.C Kd.string w A0 l0.length l0) (hc0 : l0.length ≤ c0) (h : laws_plain9.f k l0 = some r) :
    Calls Tryd.prog 15 #[.slice A0 l0.length c0] w fun e w' => e = .returned (.bool r) ∧ Drawn0 w w' := by
  have HR0 := Aside0.mk hr0
  have HC0 := Aside0.mk hc0
  clear hr0 hc0
  have H : (laws_plain9.l0 k l0 (l0.length : Int) 0) = some r := h
  clear h
  have H' := Aside0.mk H
  clear H
  go_enter Tryd.func15, Tryd.ntmps15
  go_wp2
  go_loopg [6] k (fun kq v6 w' => ∃ (x6_1 : Int), v6 = .int .i64 x6_1 ∧ Aside0 (laws_plain9.l0 kq l0 (l0.length : Int) x6_1 = some r) ∧ Aside0 (kq ≤ k) ∧ Drawn0 w w')
  case atStart => exact ⟨(0), (by first | rfl | (simp; done) | (simp [*]; done)), H', ⟨Nat.le_refl _⟩, by repeat (first | exact Drawn0.refl _ | apply Drawn0.step)⟩
  case round =>
    clear H'
    try clear c1
    obtain ⟨x6_1, rfl, HA, HK1, ⟨m1, rfl⟩⟩ := hrel
    cases gk with
    | zero => exact absurd HA.out (by simp [laws_plain9.l0])
    | succ k1 =>
      have H := HA.out
      clear HA
      simp only [laws_plain9.l0] at H
      by_cases c2 : x6_1 < (l0.length : Int)
      · rw [if_pos c2] at H
        have c2b0 : decide (x6_1 < (l0.length : Int)) = true := decide_eq_true c2
        clear c2
        by_cases c3 : 0 ≤ x6_1
        · rw [if_pos c3] at H
          have c3b0 : decide (0 ≤ x6_1) = true := decide_eq_true c3
          clear c3
          by_cases c4 : x6_1 < (l0.length : Int)
          · rw [if_pos c4] at H
            have c4b0 : decide (x6_1 < (l0.length : Int)) = true := decide_eq_true c4
            clear c4
            by_cases c5 : ((rdOf ByteArray.empty l0 x6_1).size : Int) > 500
            · rw [if_pos c5] at H
              have c5b0 : decide (500 < ((rdOf ByteArray.empty l0 x6_1).size : Int)) = true := decide_eq_true c5
              have c5b1 : decide (500 < (rdOf ByteArray.empty l0 x6_1).size) = true := decide_eq_true (by omega)
              clear c5
              obtain rfl := Option.some.inj H
              have p101 : 0 ≤ (x6_1 : Int) := of_decide_eq_true (by first | (with_reducible assumption) | assumption)
              have q101 : x6_1 < (l0.length : Int) := of_decide_eq_true (by first | (with_reducible assumption) | assumption)
              obtain ⟨ad101, e101, hx101_0⟩ := Kd.at_string HR0.out x6_1 p101 q101
              cases e101
              replace p101 := eq_true p101
              replace q101 := eq_true q101
              go_wp2
              go_ret
              exact ⟨by first | rfl | (simp; done) | (simp [*]; done), by repeat (first | exact Drawn0.refl _ | apply Drawn0.step)⟩
            · rw [if_neg c5] at H
              have c5b0 : decide (500 < ((rdOf ByteArray.empty l0 x6_1).size : Int)) = false := decide_eq_false c5
              have c5b1 : decide (500 < (rdOf ByteArray.empty l0 x6_1).size) = false := decide_eq_false (by omega)
              clear c5
              replace H := Option.bind_eq_some_iff.mp H
              obtain ⟨t103, A60, H⟩ := H
              replace H : (if t103 = true then (laws_plain9.l0 k1 l0 (l0.length : Int) (wrap64 (x6_1 + 1))) else (some false)) = some r := H
              have A6 := Aside0.mk A60
              clear A60
              by_cases c7 : t103 = true
              · subst c7
                have H1 : (laws_plain9.l0 k1 l0 (l0.length : Int) (wrap64 (x6_1 + 1))) = some r := by rw [if_pos rfl] at H; exact H
                clear H
                have H := H1
                clear H1
                have H' := Aside0.mk H
                clear H
                have p101 : 0 ≤ (x6_1 : Int) := of_decide_eq_true (by first | (with_reducible assumption) | assumption)
                have q101 : x6_1 < (l0.length : Int) := of_decide_eq_true (by first | (with_reducible assumption) | assumption)
                obtain ⟨ad101, e101, hx101_0⟩ := Kd.at_string HR0.out x6_1 p101 q101
                cases e101
                replace p101 := eq_true p101
                replace q101 := eq_true q101
                have p102 : 0 ≤ (x6_1 : Int) := of_decide_eq_true (by first | (with_reducible assumption) | assumption)
                have q102 : x6_1 < (l0.length : Int) := of_decide_eq_true (by first | (with_reducible assumption) | assumption)
                obtain ⟨ad102, e102, hx102_0⟩ := Kd.at_string HR0.out x6_1 p102 q102
                obtain rfl : ad101 = ad102 := (by injection e102)
                replace p102 := eq_true p102
                replace q102 := eq_true q102
                go_wp2_with (first | (go_at_call 33; (with_reducible refine (spec_ASCII.calls k1 (rdOf ByteArray.empty l0 x6_1) true _ A6.out).mono ?_); rintro e w' ⟨rfl, ⟨nd, rfl⟩⟩))
                go_roundg k1
                case measure => have := HK1.out; omega
                case rel => exact ⟨(wrap64 (x6_1 + 1)), (by first | rfl | (simp; done) | (simp [*]; done)), H', ⟨by have := HK1.out; omega⟩, by repeat (first | exact Drawn0.refl _ | apply Drawn0.step)⟩
              · replace c7 := Bool.eq_false_iff.mpr c7
                subst c7
                have H1 : (some false) = some r := by rw [if_neg (show ¬ (false = true) by decide)] at H; exact H
                clear H
                have H := H1
                clear H1
                obtain rfl := Option.some.inj H
                have p101 : 0 ≤ (x6_1 : Int) := of_decide_eq_true (by first | (with_reducible assumption) | assumption)
                have q101 : x6_1 < (l0.length : Int) := of_decide_eq_true (by first | (with_reducible assumption) | assumption)
                obtain ⟨ad101, e101, hx101_0⟩ := Kd.at_string HR0.out x6_1 p101 q101
                cases e101
                replace p101 := eq_true p101
                replace q101 := eq_true q101
                have p102 : 0 ≤ (x6_1 : Int) := of_decide_eq_true (by first | (with_reducible assumption) | assumption)
                have q102 : x6_1 < (l0.length : Int) := of_decide_eq_true (by first | (with_reducible assumption) | assumption)
                obtain ⟨ad102, e102, hx102_0⟩ := Kd.at_string HR0.out x6_1 p102 q102
                obtain rfl : ad101 = ad102 := (by injection e102)
                replace p102 := eq_true p102
                replace q102 := eq_true q102
                go_wp2_with (first | (go_at_call 33; (with_reducible refine (spec_ASCII.calls k1 (rdOf ByteArray.empty l0 x6_1) false _ A6.out).mono ?_); rintro e w' ⟨rfl, ⟨nd, rfl⟩⟩))
                go_ret
                exact ⟨by first | rfl | (simp; done) | (simp [*]; done), by repeat (first | exact Drawn0.refl _ | apply Drawn0.step)⟩
          · rw [if_neg c4] at H
            exact absurd H (by simp)
        · rw [if_neg c3] at H
          exact absurd H (by simp)
      · rw [if_neg c2] at H
        have c2b0 : decide (x6_1 < (l0.length : Int)) = false := decide_eq_false c2
        clear c2
        obtain rfl := Option.some.inj H
        go_wp2
        go_ret
        exact ⟨by first | rfl | (simp; done) | (simp [*]; done), by repeat (first | exact Drawn0.refl _ | apply Drawn0.step)⟩

-- NOT PRINTED: function 91 (abi_NoEscape)

-- NOT PRINTED: function 76 (strings_Builder_copyCheck)

-- NOT PRINTED: function 92 (bytealg_MakeNoZero)

-- NOT PRINTED: function 77 (strings_Builder_grow)

-- NOT PRINTED: function 58 (strings_Builder_Grow)

-- NOT PRINTED: function 59 (strings_Builder_WriteString)

-- NOT PRINTED: function 61 (strings_Builder_String)

-- NOT PRINTED: function 66 (strings_Builder_WriteByte)

-- NOT PRINTED: function 78 (utf8_decodeRuneInStringSlow)

-- NOT PRINTED: function 62 (utf8_DecodeRuneInString)

/-! ### utf8_RuneLen: function 83 -/
def utf8_RuneLen.j0 : Nat → Int → Bool → Option (Int)
  | 0, _, _ => none
  | k + 1, x0, x12 => if x12 = true then (some (-1)) else (if x0 ≤ 65535 then (some 3) else (if x0 ≤ 1114111 then (some 4) else (some (-1))))
def utf8_RuneLen.f (k : Nat) (a0 : Int) : Option (Int) := if a0 < 0 then (some (-1)) else (if a0 ≤ 127 then (some 1) else (if a0 ≤ 2047 then (some 2) else (if 55296 ≤ a0 then (utf8_RuneLen.j0 k a0 (decide (a0 ≤ 57343))) else (utf8_RuneLen.j0 k a0 false))))
theorem utf8_RuneLen.mono_l : ∀ k, (∀ y0 y1, LeO (utf8_RuneLen.j0 k y0 y1) (utf8_RuneLen.j0 (k + 1) y0 y1))
  | 0 => fun _ _ r h => by simp [utf8_RuneLen.j0] at h
  | k + 1 => by
    have ih0 := utf8_RuneLen.mono_l k
    · intro y0 y1
      unfold utf8_RuneLen.j0
      repeat' first
      | (with_reducible exact ih0 _ _)
      | (with_reducible exact LeO.refl _)
      | (with_reducible exact LeO.none _)
      | (with_reducible refine LeO.ite ?_ ?_)
      | (with_reducible refine LeO.bind ?_ (fun _ => ?_))
      | exact ih0 _ _
      | exact LeO.none _
      | refine LeO.ite ?_ ?_
      | refine LeO.bind ?_ (fun _ => ?_)
theorem utf8_RuneLen.mono : ∀ a0 k, LeO (utf8_RuneLen.f k a0) (utf8_RuneLen.f (k + 1) a0) := by
  intro a0 k
  have ih0 := utf8_RuneLen.mono_l k
  unfold utf8_RuneLen.f
  repeat' first
      | (with_reducible exact ih0 _ _)
      | (with_reducible exact LeO.refl _)
      | (with_reducible exact LeO.none _)
      | (with_reducible refine LeO.ite ?_ ?_)
      | (with_reducible refine LeO.bind ?_ (fun _ => ?_))
      | exact ih0 _ _
      | exact LeO.none _
      | refine LeO.ite ?_ ?_
      | refine LeO.bind ?_ (fun _ => ?_)
set_option maxHeartbeats 8000000 in
set_option maxRecDepth 100000 in
theorem utf8_RuneLen.calls (k : Nat) (a0 : Int) (r : Int) (w : World) (h : utf8_RuneLen.f k a0 = some r) :
    Calls Tryd.prog 83 #[.int .i32 a0] w fun e w' => e = .returned (.int .i64 r) ∧ Drawn0 w w' := by
  have H : (if a0 < 0 then (some (-1)) else (if a0 ≤ 127 then (some 1) else (if a0 ≤ 2047 then (some 2) else (if 55296 ≤ a0 then (utf8_RuneLen.j0 k a0 (decide (a0 ≤ 57343))) else (utf8_RuneLen.j0 k a0 false))))) = some r := h
  clear h
  by_cases c2 : a0 < 0
  · rw [if_pos c2] at H
    have c2b0 : decide (a0 < 0) = true := decide_eq_true c2
    clear c2
    obtain rfl := Option.some.inj H
    go_enter Tryd.func83, Tryd.ntmps83
    go_wp2
    go_ret
    exact ⟨by first | rfl | (simp; done) | (simp [*]; done), by repeat (first | exact Drawn0.refl _ | apply Drawn0.step)⟩
  · rw [if_neg c2] at H
    have c2b0 : decide (a0 < 0) = false := decide_eq_false c2
    clear c2
    by_cases c3 : a0 ≤ 127
    · rw [if_pos c3] at H
      have c3b0 : decide (a0 ≤ 127) = true := decide_eq_true c3
      clear c3
      obtain rfl := Option.some.inj H
      go_enter Tryd.func83, Tryd.ntmps83
      go_wp2
      go_ret
      exact ⟨by first | rfl | (simp; done) | (simp [*]; done), by repeat (first | exact Drawn0.refl _ | apply Drawn0.step)⟩
    · rw [if_neg c3] at H
      have c3b0 : decide (a0 ≤ 127) = false := decide_eq_false c3
      clear c3
      by_cases c4 : a0 ≤ 2047
      · rw [if_pos c4] at H
        have c4b0 : decide (a0 ≤ 2047) = true := decide_eq_true c4
        clear c4
        obtain rfl := Option.some.inj H
        go_enter Tryd.func83, Tryd.ntmps83
        go_wp2
        go_ret
        exact ⟨by first | rfl | (simp; done) | (simp [*]; done), by repeat (first | exact Drawn0.refl _ | apply Drawn0.step)⟩
      · rw [if_neg c4] at H
        have c4b0 : decide (a0 ≤ 2047) = false := decide_eq_false c4
        clear c4
        have HC5 := Aside0.mk H
        clear H
        go_enter Tryd.func83, Tryd.ntmps83
        go_upto_region 7 with (fail)
        go_cut [12] (fun v12 wc => ∃ (kq : Nat) (x12_4 : Bool), v12 = .bool x12_4 ∧ Aside0 (utf8_RuneLen.j0 kq a0 x12_4 = some r) ∧ Aside0 (kq ≤ k) ∧ Drawn0 w wc)
        case first =>
          have H := HC5.out
          clear HC5
          by_cases c6 : 55296 ≤ a0
          · rw [if_pos c6] at H
            have c6b0 : decide (55296 ≤ a0) = true := decide_eq_true c6
            clear c6
            (first | rw [c6b0] | (simp only [i64_w, i32_w]; rw [c6b0]) | skip)
            have H' := Aside0.mk H
            clear H
            go_wp2
            go_meet
            case rel => exact ⟨_, (decide (a0 ≤ 57343)), (by first | rfl | (simp; done) | (simp [*]; done)), H', ⟨by first | omega | exact Nat.le_refl _⟩, by repeat (first | exact Drawn0.refl _ | apply Drawn0.step)⟩
          · rw [if_neg c6] at H
            have c6b0 : decide (55296 ≤ a0) = false := decide_eq_false c6
            clear c6
            (first | rw [c6b0] | (simp only [i64_w, i32_w]; rw [c6b0]) | skip)
            have H' := Aside0.mk H
            clear H
            go_wp2
            go_meet
            case rel => exact ⟨_, (false), (by first | rfl | (simp; done) | (simp [*]; done)), H', ⟨by first | omega | exact Nat.le_refl _⟩, by repeat (first | exact Drawn0.refl _ | apply Drawn0.step)⟩
        case rest =>
          clear HC5
          try clear c2
          try clear c2b0
          try clear p2
          try clear c3
          try clear c3b0
          try clear c4
          try clear c4b0
          try clear c6
          try clear c6b0
          obtain ⟨kq, x12_4, rfl, HA, HJ4, ⟨mc4, rfl⟩⟩ := hcut
          cases kq with
          | zero => exact absurd HA.out (by simp [utf8_RuneLen.j0])
          | succ kj4 =>
            have H := HA.out
            clear HA
            simp only [utf8_RuneLen.j0] at H
            by_cases c7 : x12_4 = true
            · subst c7
              have H1 : (some (-1)) = some r := by rw [if_pos rfl] at H; exact H
              clear H
              have H := H1
              clear H1
              obtain rfl := Option.some.inj H
              go_wp2
              go_ret
              exact ⟨by first | rfl | (simp; done) | (simp [*]; done), by repeat (first | exact Drawn0.refl _ | apply Drawn0.step)⟩
            · replace c7 := Bool.eq_false_iff.mpr c7
              subst c7
              have H1 : (if a0 ≤ 65535 then (some 3) else (if a0 ≤ 1114111 then (some 4) else (some (-1)))) = some r := by rw [if_neg (show ¬ (false = true) by decide)] at H; exact H
              clear H
              have H := H1
              clear H1
              by_cases c8 : a0 ≤ 65535
              · rw [if_pos c8] at H
                have c8b0 : decide (a0 ≤ 65535) = true := decide_eq_true c8
                clear c8
                obtain rfl := Option.some.inj H
                go_wp2
                go_ret
                exact ⟨by first | rfl | (simp; done) | (simp [*]; done), by repeat (first | exact Drawn0.refl _ | apply Drawn0.step)⟩
              · rw [if_neg c8] at H
                have c8b0 : decide (a0 ≤ 65535) = false := decide_eq_false c8
                clear c8
                by_cases c9 : a0 ≤ 1114111
                · rw [if_pos c9] at H
                  have c9b0 : decide (a0 ≤ 1114111) = true := decide_eq_true c9
                  clear c9
                  obtain rfl := Option.some.inj H
                  go_wp2
                  go_ret
                  exact ⟨by first | rfl | (simp; done) | (simp [*]; done), by repeat (first | exact Drawn0.refl _ | apply Drawn0.step)⟩
                · rw [if_neg c9] at H
                  have c9b0 : decide (a0 ≤ 1114111) = false := decide_eq_false c9
                  clear c9
                  obtain rfl := Option.some.inj H
                  go_wp2
                  go_ret
                  exact ⟨by first | rfl | (simp; done) | (simp [*]; done), by repeat (first | exact Drawn0.refl _ | apply Drawn0.step)⟩

end Go.Proofs.YtfnogloefimeiaaDoor.P
