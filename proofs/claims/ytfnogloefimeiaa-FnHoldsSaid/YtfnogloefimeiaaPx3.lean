-- WRITTEN by xprint.py (a program of this session, over the kit's print) out of the translation. Not trusted: Lean checks it.
import Derived.Test.YtfnogloefimeiaaPx0
import Derived.Test.YtfnogloefimeiaaPx2
namespace Go.Proofs.Ytfnogloefimeiaa.P
open Go.RowKit Go.Proofs.YtfnogloefimeiaaW.PrintWords Go.Proofs.YtfnogloefimeiaaW.PrintLast Go.Proofs.YtfnogloefimeiaaW.PrintMore
attribute [local go_sem] max2_int min2_int max_two min_two max_three min_three max_four min_four   -- for this text's walks alone
set_option linter.unusedVariables false
set_option linter.unusedSimpArgs false

/-! ### spec_Place: function 31 -/
def spec_Place.l0 : Nat → ByteArray → ByteArray → Int → Option (Int)
  | 0, _, _, _ => none
  | k + 1, x0, x1, x7 => if (wrap64 (x7 + (x0.size : Int))) ≤ (x1.size : Int) then (if 0 ≤ x7 then (if x7 ≤ (wrap64 (x7 + (x0.size : Int))) then (if (x1.extract (x7 : Int).toNat ((wrap64 (x7 + (x0.size : Int))) : Int).toNat).toList = x0.toList then (some x7) else (spec_Place.l0 k x0 x1 (wrap64 (x7 + 1)))) else (none)) else (none)) else (some (-1))
def spec_Place.f (k : Nat) (a0 : ByteArray) (a1 : ByteArray) (a2 : Int) : Option (Int) := spec_Place.l0 k a0 a1 a2
theorem spec_Place.mono_l : ∀ k, (∀ y0 y1 y2, LeO (spec_Place.l0 k y0 y1 y2) (spec_Place.l0 (k + 1) y0 y1 y2))
  | 0 => fun _ _ _ r h => by simp [spec_Place.l0] at h
  | k + 1 => by
    have ih0 := spec_Place.mono_l k
    · intro y0 y1 y2
      unfold spec_Place.l0
      repeat' first
      | (with_reducible exact ih0 _ _ _)
      | (with_reducible exact LeO.refl _)
      | (with_reducible exact LeO.none _)
      | (with_reducible refine LeO.ite ?_ ?_)
      | (with_reducible refine LeO.bind ?_ (fun _ => ?_))
      | exact ih0 _ _ _
      | exact LeO.none _
      | refine LeO.ite ?_ ?_
      | refine LeO.bind ?_ (fun _ => ?_)
theorem spec_Place.mono : ∀ a0 a1 a2 k, LeO (spec_Place.f k a0 a1 a2) (spec_Place.f (k + 1) a0 a1 a2) := by
  intro a0 a1 a2 k
  have ih0 := spec_Place.mono_l k
  unfold spec_Place.f
  repeat' first
      | (with_reducible exact ih0 _ _ _)
      | (with_reducible exact LeO.refl _)
      | (with_reducible exact LeO.none _)
      | (with_reducible refine LeO.ite ?_ ?_)
      | (with_reducible refine LeO.bind ?_ (fun _ => ?_))
      | exact ih0 _ _ _
      | exact LeO.none _
      | refine LeO.ite ?_ ?_
      | refine LeO.bind ?_ (fun _ => ?_)
set_option maxHeartbeats 8000000 in
set_option maxRecDepth 100000 in
theorem spec_Place.calls (k : Nat) (a0 : ByteArray) (a1 : ByteArray) (a2 : Int) (r : Int) (w : World) (h : spec_Place.f k a0 a1 a2 = some r) :
    Calls Try.prog 31 #[.string a0, .string a1, .int .i64 a2] w fun e w' => e = .returned (.int .i64 r) ∧ Drawn0 w w' := by
  have H : (spec_Place.l0 k a0 a1 a2) = some r := h
  clear h
  have H' := Aside0.mk H
  clear H
  go_enter Try.func31, Try.ntmps31
  go_wp2
  go_loopg [7] k (fun kq v7 w' => ∃ (x7_1 : Int), v7 = .int .i64 x7_1 ∧ Aside0 (spec_Place.l0 kq a0 a1 x7_1 = some r) ∧ Aside0 (kq ≤ k) ∧ Drawn0 w w')
  case atStart => exact ⟨(a2), (by first | rfl | (simp; done) | (simp [*]; done)), H', ⟨Nat.le_refl _⟩, by repeat (first | exact Drawn0.refl _ | apply Drawn0.step)⟩
  case round =>
    clear H'
    try clear p2
    try clear c3
    obtain ⟨x7_1, rfl, HA, HK1, ⟨m1, rfl⟩⟩ := hrel
    cases gk with
    | zero => exact absurd HA.out (by simp [spec_Place.l0])
    | succ k1 =>
      have H := HA.out
      clear HA
      simp only [spec_Place.l0] at H
      by_cases c4 : (wrap64 (x7_1 + (a0.size : Int))) ≤ (a1.size : Int)
      · rw [if_pos c4] at H
        have c4b0 : decide ((wrap64 (x7_1 + (a0.size : Int))) ≤ (a1.size : Int)) = true := decide_eq_true c4
        clear c4
        by_cases c5 : 0 ≤ x7_1
        · rw [if_pos c5] at H
          have c5b0 := eq_true c5
          have c5b1 : decide (0 ≤ x7_1) = true := decide_eq_true c5
          clear c5
          by_cases c6 : x7_1 ≤ (wrap64 (x7_1 + (a0.size : Int)))
          · rw [if_pos c6] at H
            have c6b0 := eq_true c6
            have c6b1 : decide (x7_1 ≤ (wrap64 (x7_1 + (a0.size : Int)))) = true := decide_eq_true c6
            have c7b0 := eq_true (of_decide_eq_true (by first | (with_reducible assumption) | assumption) : (wrap64 (x7_1 + (a0.size : Int))) ≤ (a1.size : Int))
            by_cases c8 : (a1.extract (x7_1 : Int).toNat ((wrap64 (x7_1 + (a0.size : Int))) : Int).toNat).toList = a0.toList
            · rw [if_pos c8] at H
              have c8b0 : ((a1.extract (x7_1 : Int).toNat ((wrap64 (x7_1 + (a0.size : Int))) : Int).toNat).toList == a0.toList) = true := beq_iff_eq.mpr c8
              have c8b1 : ((a1.extract (x7_1 : Int).toNat ((wrap64 (x7_1 + (a0.size : Int))) : Int).toNat).toList != a0.toList) = false := bne_eq_false_iff_eq.mpr c8
              clear c8
              obtain rfl := Option.some.inj H
              go_wp2
              go_ret
              exact ⟨by first | rfl | (simp; done) | (simp [*]; done), by repeat (first | exact Drawn0.refl _ | apply Drawn0.step)⟩
            · rw [if_neg c8] at H
              have c8b0 : ((a1.extract (x7_1 : Int).toNat ((wrap64 (x7_1 + (a0.size : Int))) : Int).toNat).toList == a0.toList) = false := beq_eq_false_iff_ne.mpr c8
              have c8b1 : ((a1.extract (x7_1 : Int).toNat ((wrap64 (x7_1 + (a0.size : Int))) : Int).toNat).toList != a0.toList) = true := bne_iff_ne.mpr c8
              have H' := Aside0.mk H
              clear H
              go_wp2
              go_roundg k1
              case measure => have := HK1.out; omega
              case rel => exact ⟨(wrap64 (x7_1 + 1)), (by first | rfl | (simp; done) | (simp [*]; done)), H', ⟨by have := HK1.out; omega⟩, by repeat (first | exact Drawn0.refl _ | apply Drawn0.step)⟩
          · rw [if_neg c6] at H
            exact absurd H (by simp)
        · rw [if_neg c5] at H
          exact absurd H (by simp)
      · rw [if_neg c4] at H
        have c4b0 : decide ((wrap64 (x7_1 + (a0.size : Int))) ≤ (a1.size : Int)) = false := decide_eq_false c4
        clear c4
        obtain rfl := Option.some.inj H
        go_wp2
        go_ret
        exact ⟨by first | rfl | (simp; done) | (simp [*]; done), by repeat (first | exact Drawn0.refl _ | apply Drawn0.step)⟩

/-! ### spec_Holds: function 14 -/
def spec_Holds.f (k : Nat) (a0 : ByteArray) (a1 : ByteArray) : Option (Bool) := (spec_Place.f k a0 a1 0).bind fun t130 => (some (decide (t130 ≥ 0)))
theorem spec_Holds.mono : ∀ a0 a1 k, LeO (spec_Holds.f k a0 a1) (spec_Holds.f (k + 1) a0 a1) := by
  intro a0 a1 k
  unfold spec_Holds.f
  repeat' first
      | (with_reducible exact spec_Place.mono _ _ _ _)
      | (with_reducible exact LeO.refl _)
      | (with_reducible exact LeO.none _)
      | (with_reducible refine LeO.ite ?_ ?_)
      | (with_reducible refine LeO.bind ?_ (fun _ => ?_))
      | exact spec_Place.mono _ _ _ _
      | exact LeO.none _
      | refine LeO.ite ?_ ?_
      | refine LeO.bind ?_ (fun _ => ?_)
set_option maxHeartbeats 8000000 in
set_option maxRecDepth 100000 in
theorem spec_Holds.calls (k : Nat) (a0 : ByteArray) (a1 : ByteArray) (r : Bool) (w : World) (h : spec_Holds.f k a0 a1 = some r) :
    Calls Try.prog 14 #[.string a0, .string a1] w fun e w' => e = .returned (.bool r) ∧ Drawn0 w w' := by
  have H : ((spec_Place.f k a0 a1 0).bind fun t130 => (some (decide (t130 ≥ 0)))) = some r := h
  clear h
  replace H := Option.bind_eq_some_iff.mp H
  obtain ⟨t130, A30, H⟩ := H
  replace H : (some (decide (t130 ≥ 0))) = some r := H
  have A3 := Aside0.mk A30
  clear A30
  obtain rfl := Option.some.inj H
  go_enter Try.func14, Try.ntmps14
  go_wp2_with (first | ((with_reducible refine gate_callee (f := 31) rfl ?_); refine goesL_ (some 7) rfl rfl Try.func31 (by kernel_rfl) rfl #[.string a0, .string a1, .int .i64 0] rfl (by (try simp only [List.map_toArray, List.map_cons, List.map_nil]); first | done | rfl | (simp only [List.length_drop, List.length_take]; rfl)) ?_; (with_reducible refine (spec_Place.calls k a0 a1 0 t130 _ A3.out).mono ?_); rintro e w' ⟨rfl, ⟨nd, rfl⟩⟩; refine ⟨_, rfl, ?_⟩))
  go_ret
  exact ⟨by first | rfl | (simp; done) | (simp [*]; done), by repeat (first | exact Drawn0.refl _ | apply Drawn0.step)⟩

/-! ### strings_HasPrefix: function 54 -/
def strings_HasPrefix.f (a0 : ByteArray) (a1 : ByteArray) : Option (Bool) := (stringslite_HasPrefix.f a0 a1).bind fun t131 => (some t131)
set_option maxHeartbeats 8000000 in
set_option maxRecDepth 100000 in
theorem strings_HasPrefix.calls (a0 : ByteArray) (a1 : ByteArray) (r : Bool) (w : World) (h : strings_HasPrefix.f a0 a1 = some r) :
    Calls Try.prog 54 #[.string a0, .string a1] w fun e w' => e = .returned (.bool r) ∧ Drawn0 w w' := by
  have H : ((stringslite_HasPrefix.f a0 a1).bind fun t131 => (some t131)) = some r := h
  clear h
  replace H := Option.bind_eq_some_iff.mp H
  obtain ⟨t131, A30, H⟩ := H
  replace H : (some t131) = some r := H
  have A3 := Aside0.mk A30
  clear A30
  obtain rfl := Option.some.inj H
  go_enter Try.func54, Try.ntmps54
  go_wp2_with (first | ((with_reducible refine gate_callee (f := 63) rfl ?_); refine goesL_ (some 7) rfl rfl Try.func63 (by kernel_rfl) rfl #[.string a0, .string a1] rfl (by (try simp only [List.map_toArray, List.map_cons, List.map_nil]); first | done | rfl | (simp only [List.length_drop, List.length_take]; rfl)) ?_; (with_reducible refine (stringslite_HasPrefix.calls a0 a1 t131 _ A3.out).mono ?_); rintro e w' ⟨rfl, ⟨nd, rfl⟩⟩; refine ⟨_, rfl, ?_⟩))
  go_ret
  exact ⟨by first | rfl | (simp; done) | (simp [*]; done), by repeat (first | exact Drawn0.refl _ | apply Drawn0.step)⟩

/-! ### sprig_hasPrefix: function 45 -/
def sprig_hasPrefix.f (a0 : ByteArray) (a1 : ByteArray) : Option (Bool) := (strings_HasPrefix.f a1 a0).bind fun t132 => (some t132)
set_option maxHeartbeats 8000000 in
set_option maxRecDepth 100000 in
theorem sprig_hasPrefix.calls (a0 : ByteArray) (a1 : ByteArray) (r : Bool) (w : World) (h : sprig_hasPrefix.f a0 a1 = some r) :
    Calls Try.prog 45 #[.string a0, .string a1] w fun e w' => e = .returned (.bool r) ∧ Drawn0 w w' := by
  have H : ((strings_HasPrefix.f a1 a0).bind fun t132 => (some t132)) = some r := h
  clear h
  replace H := Option.bind_eq_some_iff.mp H
  obtain ⟨t132, A30, H⟩ := H
  replace H : (some t132) = some r := H
  have A3 := Aside0.mk A30
  clear A30
  obtain rfl := Option.some.inj H
  go_enter Try.func45, Try.ntmps45
  go_wp2_with (first | ((with_reducible refine gate_callee (f := 54) rfl ?_); refine goesL_ (some 7) rfl rfl Try.func54 (by kernel_rfl) rfl #[.string a1, .string a0] rfl (by (try simp only [List.map_toArray, List.map_cons, List.map_nil]); first | done | rfl | (simp only [List.length_drop, List.length_take]; rfl)) ?_; (with_reducible refine (strings_HasPrefix.calls a1 a0 t132 _ A3.out).mono ?_); rintro e w' ⟨rfl, ⟨nd, rfl⟩⟩; refine ⟨_, rfl, ?_⟩))
  go_ret
  exact ⟨by first | rfl | (simp; done) | (simp [*]; done), by repeat (first | exact Drawn0.refl _ | apply Drawn0.step)⟩

/-! ### sprig_HasPrefix: function 32 -/
def sprig_HasPrefix.f (a0 : ByteArray) (a1 : ByteArray) : Option (Bool) := (sprig_hasPrefix.f a0 a1).bind fun t133 => (some t133)
set_option maxHeartbeats 8000000 in
set_option maxRecDepth 100000 in
theorem sprig_HasPrefix.calls (a0 : ByteArray) (a1 : ByteArray) (r : Bool) (w : World) (h : sprig_HasPrefix.f a0 a1 = some r) :
    Calls Try.prog 32 #[.string a0, .string a1] w fun e w' => e = .returned (.bool r) ∧ Drawn0 w w' := by
  have H : ((sprig_hasPrefix.f a0 a1).bind fun t133 => (some t133)) = some r := h
  clear h
  replace H := Option.bind_eq_some_iff.mp H
  obtain ⟨t133, A30, H⟩ := H
  replace H : (some t133) = some r := H
  have A3 := Aside0.mk A30
  clear A30
  obtain rfl := Option.some.inj H
  go_enter Try.func32, Try.ntmps32
  go_wp2_with (first | ((with_reducible refine gate_callee (f := 45) rfl ?_); refine goesL_ (some 7) rfl rfl Try.func45 (by kernel_rfl) rfl #[.string a0, .string a1] rfl (by (try simp only [List.map_toArray, List.map_cons, List.map_nil]); first | done | rfl | (simp only [List.length_drop, List.length_take]; rfl)) ?_; (with_reducible refine (sprig_hasPrefix.calls a0 a1 t133 _ A3.out).mono ?_); rintro e w' ⟨rfl, ⟨nd, rfl⟩⟩; refine ⟨_, rfl, ?_⟩))
  go_ret
  exact ⟨by first | rfl | (simp; done) | (simp [*]; done), by repeat (first | exact Drawn0.refl _ | apply Drawn0.step)⟩

/-! ### impl_HasPrefix: function 15 -/
def impl_HasPrefix.f (a0 : ByteArray) (a1 : ByteArray) : Option (Bool) := (sprig_HasPrefix.f a0 a1).bind fun t134 => (some t134)
set_option maxHeartbeats 8000000 in
set_option maxRecDepth 100000 in
theorem impl_HasPrefix.calls (a0 : ByteArray) (a1 : ByteArray) (r : Bool) (w : World) (h : impl_HasPrefix.f a0 a1 = some r) :
    Calls Try.prog 15 #[.string a0, .string a1] w fun e w' => e = .returned (.bool r) ∧ Drawn0 w w' := by
  have H : ((sprig_HasPrefix.f a0 a1).bind fun t134 => (some t134)) = some r := h
  clear h
  replace H := Option.bind_eq_some_iff.mp H
  obtain ⟨t134, A30, H⟩ := H
  replace H : (some t134) = some r := H
  have A3 := Aside0.mk A30
  clear A30
  obtain rfl := Option.some.inj H
  go_enter Try.func15, Try.ntmps15
  go_wp2_with (first | ((with_reducible refine gate_callee (f := 32) rfl ?_); refine goesL_ (some 7) rfl rfl Try.func32 (by kernel_rfl) rfl #[.string a0, .string a1] rfl (by (try simp only [List.map_toArray, List.map_cons, List.map_nil]); first | done | rfl | (simp only [List.length_drop, List.length_take]; rfl)) ?_; (with_reducible refine (sprig_HasPrefix.calls a0 a1 t134 _ A3.out).mono ?_); rintro e w' ⟨rfl, ⟨nd, rfl⟩⟩; refine ⟨_, rfl, ?_⟩))
  go_ret
  exact ⟨by first | rfl | (simp; done) | (simp [*]; done), by repeat (first | exact Drawn0.refl _ | apply Drawn0.step)⟩

/-! ### stringslite_HasSuffix: function 64 -/
def stringslite_HasSuffix.f (a0 : ByteArray) (a1 : ByteArray) : Option (Bool) := if (a0.size : Int) ≥ (a1.size : Int) then (if 0 ≤ (wrap64 ((a0.size : Int) - (a1.size : Int))) then (if (wrap64 ((a0.size : Int) - (a1.size : Int))) ≤ (a0.size : Int) then (some ((a0.extract ((wrap64 ((a0.size : Int) - (a1.size : Int))) : Int).toNat a0.size).toList == a1.toList)) else (none)) else (none)) else (some false)
set_option maxHeartbeats 8000000 in
set_option maxRecDepth 100000 in
theorem stringslite_HasSuffix.calls (a0 : ByteArray) (a1 : ByteArray) (r : Bool) (w : World) (h : stringslite_HasSuffix.f a0 a1 = some r) :
    Calls Try.prog 64 #[.string a0, .string a1] w fun e w' => e = .returned (.bool r) ∧ Drawn0 w w' := by
  have H : (if (a0.size : Int) ≥ (a1.size : Int) then (if 0 ≤ (wrap64 ((a0.size : Int) - (a1.size : Int))) then (if (wrap64 ((a0.size : Int) - (a1.size : Int))) ≤ (a0.size : Int) then (some ((a0.extract ((wrap64 ((a0.size : Int) - (a1.size : Int))) : Int).toNat a0.size).toList == a1.toList)) else (none)) else (none)) else (some false)) = some r := h
  clear h
  by_cases c3 : (a0.size : Int) ≥ (a1.size : Int)
  · rw [if_pos c3] at H
    have c3b0 : decide ((a1.size : Int) ≤ (a0.size : Int)) = true := decide_eq_true c3
    have c3b1 : decide (a1.size ≤ a0.size) = true := decide_eq_true (Int.ofNat_le.mp c3)
    clear c3
    obtain ⟨ji4, hji4⟩ : ∃ j_ : Int, (wrap64 ((a0.size : Int) - (a1.size : Int))) = j_ := ⟨_, rfl⟩
    replace H : (if 0 ≤ (ji4) then (if (ji4) ≤ (a0.size : Int) then (some ((a0.extract ((ji4) : Int).toNat a0.size).toList == a1.toList)) else (none)) else (none)) = some r := by first | (rw [hji4] at H; exact H) | (simp only [hji4] at H ⊢; exact H)
    have hji4w : (IntKind.i64.wrap ((a0.size : Int) - (a1.size : Int))) = ji4 := (i64_w _).trans hji4
    by_cases c5 : 0 ≤ (ji4)
    · rw [if_pos c5] at H
      have c5b0 := eq_true c5
      have c5b1 : decide (0 ≤ (ji4)) = true := decide_eq_true c5
      clear c5
      by_cases c6 : (ji4) ≤ (a0.size : Int)
      · rw [if_pos c6] at H
        have c6b0 := eq_true c6
        have c6b1 : decide ((ji4) ≤ (a0.size : Int)) = true := decide_eq_true c6
        clear c6
        obtain rfl := Option.some.inj H
        go_enter Try.func64, Try.ntmps64
        go_wp2
        go_ret
        exact ⟨by first | rfl | (simp; done) | (simp only [← hji4] <;> (first | rfl | simp)) | (simp [*]; done), by repeat (first | exact Drawn0.refl _ | apply Drawn0.step)⟩
      · rw [if_neg c6] at H
        exact absurd H (by simp)
    · rw [if_neg c5] at H
      exact absurd H (by simp)
  · rw [if_neg c3] at H
    have c3b0 : decide ((a1.size : Int) ≤ (a0.size : Int)) = false := decide_eq_false c3
    have c3b1 : decide (a1.size ≤ a0.size) = false := decide_eq_false (fun h => c3 (Int.ofNat_le.mpr h))
    clear c3
    obtain rfl := Option.some.inj H
    go_enter Try.func64, Try.ntmps64
    go_wp2
    go_ret
    exact ⟨by first | rfl | (simp; done) | (simp [*]; done), by repeat (first | exact Drawn0.refl _ | apply Drawn0.step)⟩

/-! ### strings_HasSuffix: function 55 -/
def strings_HasSuffix.f (a0 : ByteArray) (a1 : ByteArray) : Option (Bool) := (stringslite_HasSuffix.f a0 a1).bind fun t135 => (some t135)
set_option maxHeartbeats 8000000 in
set_option maxRecDepth 100000 in
theorem strings_HasSuffix.calls (a0 : ByteArray) (a1 : ByteArray) (r : Bool) (w : World) (h : strings_HasSuffix.f a0 a1 = some r) :
    Calls Try.prog 55 #[.string a0, .string a1] w fun e w' => e = .returned (.bool r) ∧ Drawn0 w w' := by
  have H : ((stringslite_HasSuffix.f a0 a1).bind fun t135 => (some t135)) = some r := h
  clear h
  replace H := Option.bind_eq_some_iff.mp H
  obtain ⟨t135, A30, H⟩ := H
  replace H : (some t135) = some r := H
  have A3 := Aside0.mk A30
  clear A30
  obtain rfl := Option.some.inj H
  go_enter Try.func55, Try.ntmps55
  go_wp2_with (first | ((with_reducible refine gate_callee (f := 64) rfl ?_); refine goesL_ (some 7) rfl rfl Try.func64 (by kernel_rfl) rfl #[.string a0, .string a1] rfl (by (try simp only [List.map_toArray, List.map_cons, List.map_nil]); first | done | rfl | (simp only [List.length_drop, List.length_take]; rfl)) ?_; (with_reducible refine (stringslite_HasSuffix.calls a0 a1 t135 _ A3.out).mono ?_); rintro e w' ⟨rfl, ⟨nd, rfl⟩⟩; refine ⟨_, rfl, ?_⟩))
  go_ret
  exact ⟨by first | rfl | (simp; done) | (simp [*]; done), by repeat (first | exact Drawn0.refl _ | apply Drawn0.step)⟩

/-! ### sprig_hasSuffix: function 46 -/
def sprig_hasSuffix.f (a0 : ByteArray) (a1 : ByteArray) : Option (Bool) := (strings_HasSuffix.f a1 a0).bind fun t136 => (some t136)
set_option maxHeartbeats 8000000 in
set_option maxRecDepth 100000 in
theorem sprig_hasSuffix.calls (a0 : ByteArray) (a1 : ByteArray) (r : Bool) (w : World) (h : sprig_hasSuffix.f a0 a1 = some r) :
    Calls Try.prog 46 #[.string a0, .string a1] w fun e w' => e = .returned (.bool r) ∧ Drawn0 w w' := by
  have H : ((strings_HasSuffix.f a1 a0).bind fun t136 => (some t136)) = some r := h
  clear h
  replace H := Option.bind_eq_some_iff.mp H
  obtain ⟨t136, A30, H⟩ := H
  replace H : (some t136) = some r := H
  have A3 := Aside0.mk A30
  clear A30
  obtain rfl := Option.some.inj H
  go_enter Try.func46, Try.ntmps46
  go_wp2_with (first | ((with_reducible refine gate_callee (f := 55) rfl ?_); refine goesL_ (some 7) rfl rfl Try.func55 (by kernel_rfl) rfl #[.string a1, .string a0] rfl (by (try simp only [List.map_toArray, List.map_cons, List.map_nil]); first | done | rfl | (simp only [List.length_drop, List.length_take]; rfl)) ?_; (with_reducible refine (strings_HasSuffix.calls a1 a0 t136 _ A3.out).mono ?_); rintro e w' ⟨rfl, ⟨nd, rfl⟩⟩; refine ⟨_, rfl, ?_⟩))
  go_ret
  exact ⟨by first | rfl | (simp; done) | (simp [*]; done), by repeat (first | exact Drawn0.refl _ | apply Drawn0.step)⟩

/-! ### sprig_HasSuffix: function 33 -/
def sprig_HasSuffix.f (a0 : ByteArray) (a1 : ByteArray) : Option (Bool) := (sprig_hasSuffix.f a0 a1).bind fun t137 => (some t137)
set_option maxHeartbeats 8000000 in
set_option maxRecDepth 100000 in
theorem sprig_HasSuffix.calls (a0 : ByteArray) (a1 : ByteArray) (r : Bool) (w : World) (h : sprig_HasSuffix.f a0 a1 = some r) :
    Calls Try.prog 33 #[.string a0, .string a1] w fun e w' => e = .returned (.bool r) ∧ Drawn0 w w' := by
  have H : ((sprig_hasSuffix.f a0 a1).bind fun t137 => (some t137)) = some r := h
  clear h
  replace H := Option.bind_eq_some_iff.mp H
  obtain ⟨t137, A30, H⟩ := H
  replace H : (some t137) = some r := H
  have A3 := Aside0.mk A30
  clear A30
  obtain rfl := Option.some.inj H
  go_enter Try.func33, Try.ntmps33
  go_wp2_with (first | ((with_reducible refine gate_callee (f := 46) rfl ?_); refine goesL_ (some 7) rfl rfl Try.func46 (by kernel_rfl) rfl #[.string a0, .string a1] rfl (by (try simp only [List.map_toArray, List.map_cons, List.map_nil]); first | done | rfl | (simp only [List.length_drop, List.length_take]; rfl)) ?_; (with_reducible refine (sprig_hasSuffix.calls a0 a1 t137 _ A3.out).mono ?_); rintro e w' ⟨rfl, ⟨nd, rfl⟩⟩; refine ⟨_, rfl, ?_⟩))
  go_ret
  exact ⟨by first | rfl | (simp; done) | (simp [*]; done), by repeat (first | exact Drawn0.refl _ | apply Drawn0.step)⟩

/-! ### impl_HasSuffix: function 17 -/
def impl_HasSuffix.f (a0 : ByteArray) (a1 : ByteArray) : Option (Bool) := (sprig_HasSuffix.f a0 a1).bind fun t138 => (some t138)
set_option maxHeartbeats 8000000 in
set_option maxRecDepth 100000 in
theorem impl_HasSuffix.calls (a0 : ByteArray) (a1 : ByteArray) (r : Bool) (w : World) (h : impl_HasSuffix.f a0 a1 = some r) :
    Calls Try.prog 17 #[.string a0, .string a1] w fun e w' => e = .returned (.bool r) ∧ Drawn0 w w' := by
  have H : ((sprig_HasSuffix.f a0 a1).bind fun t138 => (some t138)) = some r := h
  clear h
  replace H := Option.bind_eq_some_iff.mp H
  obtain ⟨t138, A30, H⟩ := H
  replace H : (some t138) = some r := H
  have A3 := Aside0.mk A30
  clear A30
  obtain rfl := Option.some.inj H
  go_enter Try.func17, Try.ntmps17
  go_wp2_with (first | ((with_reducible refine gate_callee (f := 33) rfl ?_); refine goesL_ (some 7) rfl rfl Try.func33 (by kernel_rfl) rfl #[.string a0, .string a1] rfl (by (try simp only [List.map_toArray, List.map_cons, List.map_nil]); first | done | rfl | (simp only [List.length_drop, List.length_take]; rfl)) ?_; (with_reducible refine (sprig_HasSuffix.calls a0 a1 t138 _ A3.out).mono ?_); rintro e w' ⟨rfl, ⟨nd, rfl⟩⟩; refine ⟨_, rfl, ?_⟩))
  go_ret
  exact ⟨by first | rfl | (simp; done) | (simp [*]; done), by repeat (first | exact Drawn0.refl _ | apply Drawn0.step)⟩

/-! ### spec_Ends: function 18 -/
def spec_Ends.f (a0 : ByteArray) (a1 : ByteArray) : Option (Bool) := if (a1.size : Int) ≥ (a0.size : Int) then (if 0 ≤ (wrap64 ((a1.size : Int) - (a0.size : Int))) then (if (wrap64 ((a1.size : Int) - (a0.size : Int))) ≤ (a1.size : Int) then (some ((a1.extract ((wrap64 ((a1.size : Int) - (a0.size : Int))) : Int).toNat a1.size).toList == a0.toList)) else (none)) else (none)) else (some false)
set_option maxHeartbeats 8000000 in
set_option maxRecDepth 100000 in
theorem spec_Ends.calls (a0 : ByteArray) (a1 : ByteArray) (r : Bool) (w : World) (h : spec_Ends.f a0 a1 = some r) :
    Calls Try.prog 18 #[.string a0, .string a1] w fun e w' => e = .returned (.bool r) ∧ Drawn0 w w' := by
  have H : (if (a1.size : Int) ≥ (a0.size : Int) then (if 0 ≤ (wrap64 ((a1.size : Int) - (a0.size : Int))) then (if (wrap64 ((a1.size : Int) - (a0.size : Int))) ≤ (a1.size : Int) then (some ((a1.extract ((wrap64 ((a1.size : Int) - (a0.size : Int))) : Int).toNat a1.size).toList == a0.toList)) else (none)) else (none)) else (some false)) = some r := h
  clear h
  by_cases c3 : (a1.size : Int) ≥ (a0.size : Int)
  · rw [if_pos c3] at H
    have c3b0 : decide ((a0.size : Int) ≤ (a1.size : Int)) = true := decide_eq_true c3
    have c3b1 : decide (a0.size ≤ a1.size) = true := decide_eq_true (Int.ofNat_le.mp c3)
    clear c3
    obtain ⟨ji4, hji4⟩ : ∃ j_ : Int, (wrap64 ((a1.size : Int) - (a0.size : Int))) = j_ := ⟨_, rfl⟩
    replace H : (if 0 ≤ (ji4) then (if (ji4) ≤ (a1.size : Int) then (some ((a1.extract ((ji4) : Int).toNat a1.size).toList == a0.toList)) else (none)) else (none)) = some r := by first | (rw [hji4] at H; exact H) | (simp only [hji4] at H ⊢; exact H)
    have hji4w : (IntKind.i64.wrap ((a1.size : Int) - (a0.size : Int))) = ji4 := (i64_w _).trans hji4
    by_cases c5 : 0 ≤ (ji4)
    · rw [if_pos c5] at H
      have c5b0 := eq_true c5
      have c5b1 : decide (0 ≤ (ji4)) = true := decide_eq_true c5
      clear c5
      by_cases c6 : (ji4) ≤ (a1.size : Int)
      · rw [if_pos c6] at H
        have c6b0 := eq_true c6
        have c6b1 : decide ((ji4) ≤ (a1.size : Int)) = true := decide_eq_true c6
        clear c6
        obtain rfl := Option.some.inj H
        go_enter Try.func18, Try.ntmps18
        go_wp2
        go_ret
        exact ⟨by first | rfl | (simp; done) | (simp only [← hji4] <;> (first | rfl | simp)) | (simp [*]; done), by repeat (first | exact Drawn0.refl _ | apply Drawn0.step)⟩
      · rw [if_neg c6] at H
        exact absurd H (by simp)
    · rw [if_neg c5] at H
      exact absurd H (by simp)
  · rw [if_neg c3] at H
    have c3b0 : decide ((a0.size : Int) ≤ (a1.size : Int)) = false := decide_eq_false c3
    have c3b1 : decide (a0.size ≤ a1.size) = false := decide_eq_false (fun h => c3 (Int.ofNat_le.mpr h))
    clear c3
    obtain rfl := Option.some.inj H
    go_enter Try.func18, Try.ntmps18
    go_wp2
    go_ret
    exact ⟨by first | rfl | (simp; done) | (simp [*]; done), by repeat (first | exact Drawn0.refl _ | apply Drawn0.step)⟩

/-! ### laws_FnHolds: function 5 -/
def laws_FnHolds.j0 : Nat → ByteArray → ByteArray → Bool → Option (Bool)
  | 0, _, _, _ => none
  | k + 1, x0, x1, x12 => if x12 = true then (some true) else ((laws_text9.f k (([x0, x1] : List ByteArray))).bind fun t142 => (if t142 = true then ((impl_Contains.f k x0 x1).bind fun t143 => ((spec_Holds.f k x0 x1).bind fun t144 => (if (t143 == t144) = true then ((impl_HasPrefix.f x0 x1).bind fun t145 => ((spec_Begins.f x0 x1).bind fun t146 => (if (t145 == t146) = true then ((impl_HasSuffix.f x0 x1).bind fun t147 => ((spec_Ends.f x0 x1).bind fun t148 => (if (t147 == t148) = true then (if x1.size + x0.size ≤ 9223372036854775807 then ((impl_Contains.f k x0 (x1 ++ x0)).bind fun t149 => (if t149 = true then (if x0.size + x1.size ≤ 9223372036854775807 then ((impl_HasPrefix.f x0 (x0 ++ x1)).bind fun t150 => (if t150 = true then ((impl_HasSuffix.f x0 (x1 ++ x0)).bind fun t151 => (some t151)) else (some false))) else (none)) else (some false))) else (none)) else (some false)))) else (some false)))) else (some false)))) else (some true)))
def laws_FnHolds.f (k : Nat) (a0 : ByteArray) (a1 : ByteArray) : Option (Bool) := if (a0.size : Int) > 2147483647 then (laws_FnHolds.j0 k a0 a1 true) else (laws_FnHolds.j0 k a0 a1 (decide ((a1.size : Int) > 2147483647)))
theorem laws_FnHolds.mono_l : ∀ k, (∀ y0 y1 y2, LeO (laws_FnHolds.j0 k y0 y1 y2) (laws_FnHolds.j0 (k + 1) y0 y1 y2))
  | 0 => fun _ _ _ r h => by simp [laws_FnHolds.j0] at h
  | k + 1 => by
    have ih0 := laws_FnHolds.mono_l k
    · intro y0 y1 y2
      unfold laws_FnHolds.j0
      repeat' first
      | (with_reducible exact ih0 _ _ _)
      | (with_reducible exact impl_Contains.mono _ _ _)
      | (with_reducible exact laws_text9.mono _ _)
      | (with_reducible exact spec_Holds.mono _ _ _)
      | (with_reducible exact LeO.refl _)
      | (with_reducible exact LeO.none _)
      | (with_reducible refine LeO.ite ?_ ?_)
      | (with_reducible refine LeO.bind ?_ (fun _ => ?_))
      | exact ih0 _ _ _
      | exact impl_Contains.mono _ _ _
      | exact laws_text9.mono _ _
      | exact spec_Holds.mono _ _ _
      | exact LeO.none _
      | refine LeO.ite ?_ ?_
      | refine LeO.bind ?_ (fun _ => ?_)
theorem laws_FnHolds.mono : ∀ a0 a1 k, LeO (laws_FnHolds.f k a0 a1) (laws_FnHolds.f (k + 1) a0 a1) := by
  intro a0 a1 k
  have ih0 := laws_FnHolds.mono_l k
  unfold laws_FnHolds.f
  repeat' first
      | (with_reducible exact ih0 _ _ _)
      | (with_reducible exact impl_Contains.mono _ _ _)
      | (with_reducible exact laws_text9.mono _ _)
      | (with_reducible exact spec_Holds.mono _ _ _)
      | (with_reducible exact LeO.refl _)
      | (with_reducible exact LeO.none _)
      | (with_reducible refine LeO.ite ?_ ?_)
      | (with_reducible refine LeO.bind ?_ (fun _ => ?_))
      | exact ih0 _ _ _
      | exact impl_Contains.mono _ _ _
      | exact laws_text9.mono _ _
      | exact spec_Holds.mono _ _ _
      | exact LeO.none _
      | refine LeO.ite ?_ ?_
      | refine LeO.bind ?_ (fun _ => ?_)
set_option maxHeartbeats 8000000 in
set_option maxRecDepth 100000 in
theorem laws_FnHolds.calls (k : Nat) (a0 : ByteArray) (a1 : ByteArray) (r : Bool) (w : World) (h : laws_FnHolds.f k a0 a1 = some r) :
    Calls Try.prog 5 #[.string a0, .string a1] w fun e w' => e = .returned (.bool r) ∧ Below w.heap.size w w' := by
  have HB := Aside0.mk (Below.refl w.heap.size w)
  have H : (if (a0.size : Int) > 2147483647 then (laws_FnHolds.j0 k a0 a1 true) else (laws_FnHolds.j0 k a0 a1 (decide ((a1.size : Int) > 2147483647)))) = some r := h
  clear h
  have HC3 := Aside0.mk H
  clear H
  go_enter Try.func5, Try.ntmps5
  go_upto_region 1 with (fail)
  go_cut [12] (fun v12 wc => ∃ (kq : Nat) (x12_2 : Bool), v12 = .bool x12_2 ∧ Aside0 (laws_FnHolds.j0 kq a0 a1 x12_2 = some r) ∧ Aside0 (kq ≤ k) ∧ Aside0 (Below w.heap.size w wc))
  case first =>
    have H := HC3.out
    clear HC3
    by_cases c4 : (a0.size : Int) > 2147483647
    · rw [if_pos c4] at H
      have c4b0 : decide (2147483647 < (a0.size : Int)) = true := decide_eq_true c4
      have c4b1 : decide (2147483647 < a0.size) = true := decide_eq_true (by omega)
      clear c4
      (first | rw [c4b0] | (simp only [i64_w, i32_w]; rw [c4b0]) | skip)
      have H' := Aside0.mk H
      clear H
      go_wp2
      go_meet
      case rel => exact ⟨_, (true), (by first | rfl | (simp; done) | (simp [*]; done)), H', ⟨by first | omega | exact Nat.le_refl _⟩, ⟨by repeat (first | (with_reducible first | exact HB.out | apply below_alloc | apply pw_below_drewN | apply below_drew1) | exact HB.out)⟩⟩
    · rw [if_neg c4] at H
      have c4b0 : decide (2147483647 < (a0.size : Int)) = false := decide_eq_false c4
      have c4b1 : decide (2147483647 < a0.size) = false := decide_eq_false (by omega)
      clear c4
      (first | rw [c4b0] | (simp only [i64_w, i32_w]; rw [c4b0]) | skip)
      have H' := Aside0.mk H
      clear H
      go_wp2
      go_meet
      case rel => exact ⟨_, (decide ((a1.size : Int) > 2147483647)), (by first | rfl | (simp; done) | (simp [*]; done)), H', ⟨by first | omega | exact Nat.le_refl _⟩, ⟨by repeat (first | (with_reducible first | exact HB.out | apply below_alloc | apply pw_below_drewN | apply below_drew1) | exact HB.out)⟩⟩
  case rest =>
    clear HC3
    try clear p2
    try clear c4
    try clear c4b0
    try clear c4b1
    obtain ⟨kq, x12_2, rfl, HA, HJ2, HB⟩ := hcut
    cases kq with
    | zero => exact absurd HA.out (by simp [laws_FnHolds.j0])
    | succ kj2 =>
      have H := HA.out
      clear HA
      simp only [laws_FnHolds.j0] at H
      by_cases c5 : x12_2 = true
      · subst c5
        have H1 : (some true) = some r := by rw [if_pos rfl] at H; exact H
        clear H
        have H := H1
        clear H1
        obtain rfl := Option.some.inj H
        go_wp2
        go_ret
        exact ⟨by first | rfl | (simp [errW_none, errW_some] <;> rfl) | (simp [*, errW_none, errW_some] <;> rfl), by repeat (first | (with_reducible first | exact HB.out | apply below_alloc | apply pw_below_drewN | apply below_drew1) | exact HB.out)⟩
      · replace c5 := Bool.eq_false_iff.mpr c5
        subst c5
        have H1 : ((laws_text9.f kj2 (([a0, a1] : List ByteArray))).bind fun t142 => (if t142 = true then ((impl_Contains.f kj2 a0 a1).bind fun t143 => ((spec_Holds.f kj2 a0 a1).bind fun t144 => (if (t143 == t144) = true then ((impl_HasPrefix.f a0 a1).bind fun t145 => ((spec_Begins.f a0 a1).bind fun t146 => (if (t145 == t146) = true then ((impl_HasSuffix.f a0 a1).bind fun t147 => ((spec_Ends.f a0 a1).bind fun t148 => (if (t147 == t148) = true then (if a1.size + a0.size ≤ 9223372036854775807 then ((impl_Contains.f kj2 a0 (a1 ++ a0)).bind fun t149 => (if t149 = true then (if a0.size + a1.size ≤ 9223372036854775807 then ((impl_HasPrefix.f a0 (a0 ++ a1)).bind fun t150 => (if t150 = true then ((impl_HasSuffix.f a0 (a1 ++ a0)).bind fun t151 => (some t151)) else (some false))) else (none)) else (some false))) else (none)) else (some false)))) else (some false)))) else (some false)))) else (some true))) = some r := by rw [if_neg (show ¬ (false = true) by decide)] at H; exact H
        clear H
        have H := H1
        clear H1
        obtain ⟨y139, hy139⟩ : ∃ y_ : List ByteArray, y_ = (([a0, a1] : List ByteArray)) := ⟨_, rfl⟩
        replace H : ((laws_text9.f kj2 y139).bind fun t142 => (if t142 = true then ((impl_Contains.f kj2 a0 a1).bind fun t143 => ((spec_Holds.f kj2 a0 a1).bind fun t144 => (if (t143 == t144) = true then ((impl_HasPrefix.f a0 a1).bind fun t145 => ((spec_Begins.f a0 a1).bind fun t146 => (if (t145 == t146) = true then ((impl_HasSuffix.f a0 a1).bind fun t147 => ((spec_Ends.f a0 a1).bind fun t148 => (if (t147 == t148) = true then (if a1.size + a0.size ≤ 9223372036854775807 then ((impl_Contains.f kj2 a0 (a1 ++ a0)).bind fun t149 => (if t149 = true then (if a0.size + a1.size ≤ 9223372036854775807 then ((impl_HasPrefix.f a0 (a0 ++ a1)).bind fun t150 => (if t150 = true then ((impl_HasSuffix.f a0 (a1 ++ a0)).bind fun t151 => (some t151)) else (some false))) else (none)) else (some false))) else (none)) else (some false)))) else (some false)))) else (some false)))) else (some true))) = some r := by first | (rw [hy139]; with_reducible exact H) | (have H2_ := (Option.bind_some _ _).symm.trans H; rw [hy139]; with_reducible exact H2_) | (have H2_ := (Option.bind_some _ _).symm.trans H; with_reducible exact H2_) | with_reducible exact H | (rw [hy139]; exact H) | exact H
        have Ny139 := Aside0.mk hy139
        clear hy139
        replace H := Option.bind_eq_some_iff.mp H
        obtain ⟨t142, A60, H⟩ := H
        replace H : (if t142 = true then ((impl_Contains.f kj2 a0 a1).bind fun t143 => ((spec_Holds.f kj2 a0 a1).bind fun t144 => (if (t143 == t144) = true then ((impl_HasPrefix.f a0 a1).bind fun t145 => ((spec_Begins.f a0 a1).bind fun t146 => (if (t145 == t146) = true then ((impl_HasSuffix.f a0 a1).bind fun t147 => ((spec_Ends.f a0 a1).bind fun t148 => (if (t147 == t148) = true then (if a1.size + a0.size ≤ 9223372036854775807 then ((impl_Contains.f kj2 a0 (a1 ++ a0)).bind fun t149 => (if t149 = true then (if a0.size + a1.size ≤ 9223372036854775807 then ((impl_HasPrefix.f a0 (a0 ++ a1)).bind fun t150 => (if t150 = true then ((impl_HasSuffix.f a0 (a1 ++ a0)).bind fun t151 => (some t151)) else (some false))) else (none)) else (some false))) else (none)) else (some false)))) else (some false)))) else (some false)))) else (some true)) = some r := H
        have A6 := Aside0.mk A60
        clear A60
        by_cases c7 : t142 = true
        · subst c7
          have H1 : ((impl_Contains.f kj2 a0 a1).bind fun t143 => ((spec_Holds.f kj2 a0 a1).bind fun t144 => (if (t143 == t144) = true then ((impl_HasPrefix.f a0 a1).bind fun t145 => ((spec_Begins.f a0 a1).bind fun t146 => (if (t145 == t146) = true then ((impl_HasSuffix.f a0 a1).bind fun t147 => ((spec_Ends.f a0 a1).bind fun t148 => (if (t147 == t148) = true then (if a1.size + a0.size ≤ 9223372036854775807 then ((impl_Contains.f kj2 a0 (a1 ++ a0)).bind fun t149 => (if t149 = true then (if a0.size + a1.size ≤ 9223372036854775807 then ((impl_HasPrefix.f a0 (a0 ++ a1)).bind fun t150 => (if t150 = true then ((impl_HasSuffix.f a0 (a1 ++ a0)).bind fun t151 => (some t151)) else (some false))) else (none)) else (some false))) else (none)) else (some false)))) else (some false)))) else (some false)))) = some r := by rw [if_pos rfl] at H; exact H
          clear H
          have H := H1
          clear H1
          replace H := Option.bind_eq_some_iff.mp H
          obtain ⟨t143, A80, H⟩ := H
          replace H : ((spec_Holds.f kj2 a0 a1).bind fun t144 => (if (t143 == t144) = true then ((impl_HasPrefix.f a0 a1).bind fun t145 => ((spec_Begins.f a0 a1).bind fun t146 => (if (t145 == t146) = true then ((impl_HasSuffix.f a0 a1).bind fun t147 => ((spec_Ends.f a0 a1).bind fun t148 => (if (t147 == t148) = true then (if a1.size + a0.size ≤ 9223372036854775807 then ((impl_Contains.f kj2 a0 (a1 ++ a0)).bind fun t149 => (if t149 = true then (if a0.size + a1.size ≤ 9223372036854775807 then ((impl_HasPrefix.f a0 (a0 ++ a1)).bind fun t150 => (if t150 = true then ((impl_HasSuffix.f a0 (a1 ++ a0)).bind fun t151 => (some t151)) else (some false))) else (none)) else (some false))) else (none)) else (some false)))) else (some false)))) else (some false))) = some r := H
          have A8 := Aside0.mk A80
          clear A80
          replace H := Option.bind_eq_some_iff.mp H
          obtain ⟨t144, A90, H⟩ := H
          replace H : (if (t143 == t144) = true then ((impl_HasPrefix.f a0 a1).bind fun t145 => ((spec_Begins.f a0 a1).bind fun t146 => (if (t145 == t146) = true then ((impl_HasSuffix.f a0 a1).bind fun t147 => ((spec_Ends.f a0 a1).bind fun t148 => (if (t147 == t148) = true then (if a1.size + a0.size ≤ 9223372036854775807 then ((impl_Contains.f kj2 a0 (a1 ++ a0)).bind fun t149 => (if t149 = true then (if a0.size + a1.size ≤ 9223372036854775807 then ((impl_HasPrefix.f a0 (a0 ++ a1)).bind fun t150 => (if t150 = true then ((impl_HasSuffix.f a0 (a1 ++ a0)).bind fun t151 => (some t151)) else (some false))) else (none)) else (some false))) else (none)) else (some false)))) else (some false)))) else (some false)) = some r := H
          have A9 := Aside0.mk A90
          clear A90
          by_cases c10 : (t143 == t144) = true
          · rw [if_pos c10] at H
            have c10b0 : (t143 == t144) = true := c10
            (try (have c10b1 : decide (t143 = t144) = true := by simpa using c10))
            (try (have c10b2 : (t143 == t144) = true := by simpa using c10))
            clear c10
            replace H := Option.bind_eq_some_iff.mp H
            obtain ⟨t145, A110, H⟩ := H
            replace H : ((spec_Begins.f a0 a1).bind fun t146 => (if (t145 == t146) = true then ((impl_HasSuffix.f a0 a1).bind fun t147 => ((spec_Ends.f a0 a1).bind fun t148 => (if (t147 == t148) = true then (if a1.size + a0.size ≤ 9223372036854775807 then ((impl_Contains.f kj2 a0 (a1 ++ a0)).bind fun t149 => (if t149 = true then (if a0.size + a1.size ≤ 9223372036854775807 then ((impl_HasPrefix.f a0 (a0 ++ a1)).bind fun t150 => (if t150 = true then ((impl_HasSuffix.f a0 (a1 ++ a0)).bind fun t151 => (some t151)) else (some false))) else (none)) else (some false))) else (none)) else (some false)))) else (some false))) = some r := H
            have A11 := Aside0.mk A110
            clear A110
            replace H := Option.bind_eq_some_iff.mp H
            obtain ⟨t146, A120, H⟩ := H
            replace H : (if (t145 == t146) = true then ((impl_HasSuffix.f a0 a1).bind fun t147 => ((spec_Ends.f a0 a1).bind fun t148 => (if (t147 == t148) = true then (if a1.size + a0.size ≤ 9223372036854775807 then ((impl_Contains.f kj2 a0 (a1 ++ a0)).bind fun t149 => (if t149 = true then (if a0.size + a1.size ≤ 9223372036854775807 then ((impl_HasPrefix.f a0 (a0 ++ a1)).bind fun t150 => (if t150 = true then ((impl_HasSuffix.f a0 (a1 ++ a0)).bind fun t151 => (some t151)) else (some false))) else (none)) else (some false))) else (none)) else (some false)))) else (some false)) = some r := H
            have A12 := Aside0.mk A120
            clear A120
            by_cases c13 : (t145 == t146) = true
            · rw [if_pos c13] at H
              have c13b0 : (t145 == t146) = true := c13
              (try (have c13b1 : decide (t145 = t146) = true := by simpa using c13))
              (try (have c13b2 : (t145 == t146) = true := by simpa using c13))
              clear c13
              replace H := Option.bind_eq_some_iff.mp H
              obtain ⟨t147, A140, H⟩ := H
              replace H : ((spec_Ends.f a0 a1).bind fun t148 => (if (t147 == t148) = true then (if a1.size + a0.size ≤ 9223372036854775807 then ((impl_Contains.f kj2 a0 (a1 ++ a0)).bind fun t149 => (if t149 = true then (if a0.size + a1.size ≤ 9223372036854775807 then ((impl_HasPrefix.f a0 (a0 ++ a1)).bind fun t150 => (if t150 = true then ((impl_HasSuffix.f a0 (a1 ++ a0)).bind fun t151 => (some t151)) else (some false))) else (none)) else (some false))) else (none)) else (some false))) = some r := H
              have A14 := Aside0.mk A140
              clear A140
              replace H := Option.bind_eq_some_iff.mp H
              obtain ⟨t148, A150, H⟩ := H
              replace H : (if (t147 == t148) = true then (if a1.size + a0.size ≤ 9223372036854775807 then ((impl_Contains.f kj2 a0 (a1 ++ a0)).bind fun t149 => (if t149 = true then (if a0.size + a1.size ≤ 9223372036854775807 then ((impl_HasPrefix.f a0 (a0 ++ a1)).bind fun t150 => (if t150 = true then ((impl_HasSuffix.f a0 (a1 ++ a0)).bind fun t151 => (some t151)) else (some false))) else (none)) else (some false))) else (none)) else (some false)) = some r := H
              have A15 := Aside0.mk A150
              clear A150
              by_cases c16 : (t147 == t148) = true
              · rw [if_pos c16] at H
                have c16b0 : (t147 == t148) = true := c16
                (try (have c16b1 : decide (t147 = t148) = true := by simpa using c16))
                (try (have c16b2 : (t147 == t148) = true := by simpa using c16))
                clear c16
                by_cases c17 : a1.size + a0.size ≤ 9223372036854775807
                · rw [if_pos c17] at H
                  have c17b0 := eq_true c17
                  have c17b1 : decide (a1.size + a0.size ≤ 9223372036854775807) = true := decide_eq_true c17
                  try have c17b2 : (9223372036854775807 < a1.size + a0.size) = False := eq_false (Nat.not_lt.2 c17)
                  replace H := Option.bind_eq_some_iff.mp H
                  obtain ⟨t149, A180, H⟩ := H
                  replace H : (if t149 = true then (if a0.size + a1.size ≤ 9223372036854775807 then ((impl_HasPrefix.f a0 (a0 ++ a1)).bind fun t150 => (if t150 = true then ((impl_HasSuffix.f a0 (a1 ++ a0)).bind fun t151 => (some t151)) else (some false))) else (none)) else (some false)) = some r := H
                  have A18 := Aside0.mk A180
                  clear A180
                  by_cases c19 : t149 = true
                  · subst c19
                    have H1 : (if a0.size + a1.size ≤ 9223372036854775807 then ((impl_HasPrefix.f a0 (a0 ++ a1)).bind fun t150 => (if t150 = true then ((impl_HasSuffix.f a0 (a1 ++ a0)).bind fun t151 => (some t151)) else (some false))) else (none)) = some r := by rw [if_pos rfl] at H; exact H
                    clear H
                    have H := H1
                    clear H1
                    by_cases c20 : a0.size + a1.size ≤ 9223372036854775807
                    · rw [if_pos c20] at H
                      have c20b0 := eq_true c20
                      have c20b1 : decide (a0.size + a1.size ≤ 9223372036854775807) = true := decide_eq_true c20
                      try have c20b2 : (9223372036854775807 < a0.size + a1.size) = False := eq_false (Nat.not_lt.2 c20)
                      replace H := Option.bind_eq_some_iff.mp H
                      obtain ⟨t150, A210, H⟩ := H
                      replace H : (if t150 = true then ((impl_HasSuffix.f a0 (a1 ++ a0)).bind fun t151 => (some t151)) else (some false)) = some r := H
                      have A21 := Aside0.mk A210
                      clear A210
                      by_cases c22 : t150 = true
                      · subst c22
                        have H1 : ((impl_HasSuffix.f a0 (a1 ++ a0)).bind fun t151 => (some t151)) = some r := by rw [if_pos rfl] at H; exact H
                        clear H
                        have H := H1
                        clear H1
                        replace H := Option.bind_eq_some_iff.mp H
                        obtain ⟨t151, A230, H⟩ := H
                        replace H : (some t151) = some r := H
                        have A23 := Aside0.mk A230
                        clear A230
                        obtain rfl := Option.some.inj H
                        go_wp2_with (first | ((with_reducible refine gate_dst (N := 15) rfl ?_); (try (refine gate_guard (by rfl) ?_; dsimp only)); refine Kd.R_lit Kd.string _ 9 ?hg (N := 15) ?hd (xs := ([a0, a1] : List ByteArray)) (inner := [.string a0, .string a1]) (ok := fun _ => True) (okp := fun _ => True) ?hr ?hp (fun _ hk => hk) trivial (Below.refl _ _) (Nat.le_refl _) (by simp) ?_; (case hd => rfl); (case hg => rfl); (case hr => first | (go_simp; done) | (go_simp; rfl)); (case hp => exact (Reps.one (show Kd.M Kd.string _ _ _ a0 [.string a0] from rfl) (Reps.one (show Kd.M Kd.string _ _ _ a1 [.string a1] from rfl) (Reps.none _ _)))); intro v140 w24 ho25 hb hg_ hnew_; clear hg_ hnew_; (first | rw [← Ny139.out] at ho25 | (simp only [Int.reduceToNat] at ho25; rw [← Ny139.out] at ho25)); have n0_ := Aside0.mk (Kd.R_lower ho25 (below_size (by repeat (first | (with_reducible first | exact HB.out | apply below_alloc | apply pw_below_drewN | apply below_drew1) | exact HB.out)))); have n1_ := Aside0.mk (below_step (by repeat (first | (with_reducible first | exact HB.out | apply below_alloc | apply pw_below_drewN | apply below_drew1) | exact HB.out)) hb); clear HB; have HO141 := n0_; have HB := n1_; clear n0_ n1_; clear hb ho25; obtain ⟨Ao26, co26, eo26⟩ := Kd.R_slice HO141.out; subst eo26) | ((with_reducible refine gate_callee (f := 9) rfl ?_); refine goesL_ (some 16) rfl rfl Try.func9 (by kernel_rfl) rfl #[.slice Ao26 y139.length co26] rfl (by (try simp only [List.map_toArray, List.map_cons, List.map_nil]); first | done | rfl | (simp only [List.length_drop, List.length_take]; rfl)) ?_; (with_reducible refine (laws_text9.calls kj2 _ _ y139 true _ ?side1 ?side2 A6.out).mono ?_); (case side1 => repeat (first | exact (Kd.R_reads' HO141.out).2.2 | (with_reducible refine Kd.C_alloc ?_ _) | (with_reducible refine Kd.C_drewN ?_ _) | (with_reducible refine Kd.C_drew ?_))); (case side2 => exact (Kd.R_reads' HO141.out).2.1); rintro e w27 ⟨rfl, hb⟩; refine ⟨_, rfl, ?_⟩; have n0_ := Aside0.mk (Kd.R_below (by (with_reducible repeat (first | apply Kd.R_alloc | apply Kd.R_drewN | apply Kd.R_drew)); exact HO141.out) hb); have n1_ := Aside0.mk (below_step (by repeat (first | (with_reducible first | exact HB.out | apply below_alloc | apply pw_below_drewN | apply below_drew1) | exact HB.out)) hb); clear HO141; clear HB; have HO141 := n0_; have HB := n1_; clear n0_ n1_; (try clear hb); (try clear hb2); (try clear hk); (try clear hi)) | ((with_reducible refine gate_callee (f := 13) rfl ?_); refine goesL_ (some 20) rfl rfl Try.func13 (by kernel_rfl) rfl #[.string a0, .string a1] rfl (by (try simp only [List.map_toArray, List.map_cons, List.map_nil]); first | done | rfl | (simp only [List.length_drop, List.length_take]; rfl)) ?_; (with_reducible refine (impl_Contains.calls kj2 a0 a1 t143 _ A8.out).mono ?_); rintro e w' ⟨rfl, ⟨nd, rfl⟩⟩; refine ⟨_, rfl, ?_⟩) | ((with_reducible refine gate_callee (f := 14) rfl ?_); refine goesL_ (some 23) rfl rfl Try.func14 (by kernel_rfl) rfl #[.string a0, .string a1] rfl (by (try simp only [List.map_toArray, List.map_cons, List.map_nil]); first | done | rfl | (simp only [List.length_drop, List.length_take]; rfl)) ?_; (with_reducible refine (spec_Holds.calls kj2 a0 a1 t144 _ A9.out).mono ?_); rintro e w' ⟨rfl, ⟨nd, rfl⟩⟩; refine ⟨_, rfl, ?_⟩) | (go_at_call 15; (with_reducible refine (impl_HasPrefix.calls a0 a1 t145 _ A11.out).mono ?_); rintro e w' ⟨rfl, ⟨nd, rfl⟩⟩) | (go_at_call 16; (with_reducible refine (spec_Begins.calls a0 a1 t146 _ A12.out).mono ?_); rintro e w' ⟨rfl, ⟨nd, rfl⟩⟩) | (go_at_call 17; (with_reducible refine (impl_HasSuffix.calls a0 a1 t147 _ A14.out).mono ?_); rintro e w' ⟨rfl, ⟨nd, rfl⟩⟩) | (go_at_call 18; (with_reducible refine (spec_Ends.calls a0 a1 t148 _ A15.out).mono ?_); rintro e w' ⟨rfl, ⟨nd, rfl⟩⟩) | (go_at_call 13; (with_reducible refine (impl_Contains.calls kj2 a0 (a1 ++ a0) true _ A18.out).mono ?_); rintro e w' ⟨rfl, ⟨nd, rfl⟩⟩) | (go_at_call 15; (with_reducible refine (impl_HasPrefix.calls a0 (a0 ++ a1) true _ A21.out).mono ?_); rintro e w' ⟨rfl, ⟨nd, rfl⟩⟩) | (go_at_call 17; (with_reducible refine (impl_HasSuffix.calls a0 (a1 ++ a0) t151 _ A23.out).mono ?_); rintro e w' ⟨rfl, ⟨nd, rfl⟩⟩))
                        go_ret
                        exact ⟨by first | rfl | (simp [errW_none, errW_some] <;> rfl) | (simp [*, errW_none, errW_some] <;> rfl), by repeat (first | (with_reducible first | exact HB.out | apply below_alloc | apply pw_below_drewN | apply below_drew1) | exact HB.out)⟩
                      · replace c22 := Bool.eq_false_iff.mpr c22
                        subst c22
                        have H1 : (some false) = some r := by rw [if_neg (show ¬ (false = true) by decide)] at H; exact H
                        clear H
                        have H := H1
                        clear H1
                        obtain rfl := Option.some.inj H
                        go_wp2_with (first | ((with_reducible refine gate_dst (N := 15) rfl ?_); (try (refine gate_guard (by rfl) ?_; dsimp only)); refine Kd.R_lit Kd.string _ 9 ?hg (N := 15) ?hd (xs := ([a0, a1] : List ByteArray)) (inner := [.string a0, .string a1]) (ok := fun _ => True) (okp := fun _ => True) ?hr ?hp (fun _ hk => hk) trivial (Below.refl _ _) (Nat.le_refl _) (by simp) ?_; (case hd => rfl); (case hg => rfl); (case hr => first | (go_simp; done) | (go_simp; rfl)); (case hp => exact (Reps.one (show Kd.M Kd.string _ _ _ a0 [.string a0] from rfl) (Reps.one (show Kd.M Kd.string _ _ _ a1 [.string a1] from rfl) (Reps.none _ _)))); intro v140 w28 ho29 hb hg_ hnew_; clear hg_ hnew_; (first | rw [← Ny139.out] at ho29 | (simp only [Int.reduceToNat] at ho29; rw [← Ny139.out] at ho29)); have n0_ := Aside0.mk (Kd.R_lower ho29 (below_size (by repeat (first | (with_reducible first | exact HB.out | apply below_alloc | apply pw_below_drewN | apply below_drew1) | exact HB.out)))); have n1_ := Aside0.mk (below_step (by repeat (first | (with_reducible first | exact HB.out | apply below_alloc | apply pw_below_drewN | apply below_drew1) | exact HB.out)) hb); clear HB; have HO141 := n0_; have HB := n1_; clear n0_ n1_; clear hb ho29; obtain ⟨Ao30, co30, eo30⟩ := Kd.R_slice HO141.out; subst eo30) | ((with_reducible refine gate_callee (f := 9) rfl ?_); refine goesL_ (some 16) rfl rfl Try.func9 (by kernel_rfl) rfl #[.slice Ao30 y139.length co30] rfl (by (try simp only [List.map_toArray, List.map_cons, List.map_nil]); first | done | rfl | (simp only [List.length_drop, List.length_take]; rfl)) ?_; (with_reducible refine (laws_text9.calls kj2 _ _ y139 true _ ?side1 ?side2 A6.out).mono ?_); (case side1 => repeat (first | exact (Kd.R_reads' HO141.out).2.2 | (with_reducible refine Kd.C_alloc ?_ _) | (with_reducible refine Kd.C_drewN ?_ _) | (with_reducible refine Kd.C_drew ?_))); (case side2 => exact (Kd.R_reads' HO141.out).2.1); rintro e w31 ⟨rfl, hb⟩; refine ⟨_, rfl, ?_⟩; have n0_ := Aside0.mk (Kd.R_below (by (with_reducible repeat (first | apply Kd.R_alloc | apply Kd.R_drewN | apply Kd.R_drew)); exact HO141.out) hb); have n1_ := Aside0.mk (below_step (by repeat (first | (with_reducible first | exact HB.out | apply below_alloc | apply pw_below_drewN | apply below_drew1) | exact HB.out)) hb); clear HO141; clear HB; have HO141 := n0_; have HB := n1_; clear n0_ n1_; (try clear hb); (try clear hb2); (try clear hk); (try clear hi)) | ((with_reducible refine gate_callee (f := 13) rfl ?_); refine goesL_ (some 20) rfl rfl Try.func13 (by kernel_rfl) rfl #[.string a0, .string a1] rfl (by (try simp only [List.map_toArray, List.map_cons, List.map_nil]); first | done | rfl | (simp only [List.length_drop, List.length_take]; rfl)) ?_; (with_reducible refine (impl_Contains.calls kj2 a0 a1 t143 _ A8.out).mono ?_); rintro e w' ⟨rfl, ⟨nd, rfl⟩⟩; refine ⟨_, rfl, ?_⟩) | ((with_reducible refine gate_callee (f := 14) rfl ?_); refine goesL_ (some 23) rfl rfl Try.func14 (by kernel_rfl) rfl #[.string a0, .string a1] rfl (by (try simp only [List.map_toArray, List.map_cons, List.map_nil]); first | done | rfl | (simp only [List.length_drop, List.length_take]; rfl)) ?_; (with_reducible refine (spec_Holds.calls kj2 a0 a1 t144 _ A9.out).mono ?_); rintro e w' ⟨rfl, ⟨nd, rfl⟩⟩; refine ⟨_, rfl, ?_⟩) | (go_at_call 15; (with_reducible refine (impl_HasPrefix.calls a0 a1 t145 _ A11.out).mono ?_); rintro e w' ⟨rfl, ⟨nd, rfl⟩⟩) | (go_at_call 16; (with_reducible refine (spec_Begins.calls a0 a1 t146 _ A12.out).mono ?_); rintro e w' ⟨rfl, ⟨nd, rfl⟩⟩) | (go_at_call 17; (with_reducible refine (impl_HasSuffix.calls a0 a1 t147 _ A14.out).mono ?_); rintro e w' ⟨rfl, ⟨nd, rfl⟩⟩) | (go_at_call 18; (with_reducible refine (spec_Ends.calls a0 a1 t148 _ A15.out).mono ?_); rintro e w' ⟨rfl, ⟨nd, rfl⟩⟩) | (go_at_call 13; (with_reducible refine (impl_Contains.calls kj2 a0 (a1 ++ a0) true _ A18.out).mono ?_); rintro e w' ⟨rfl, ⟨nd, rfl⟩⟩) | (go_at_call 15; (with_reducible refine (impl_HasPrefix.calls a0 (a0 ++ a1) false _ A21.out).mono ?_); rintro e w' ⟨rfl, ⟨nd, rfl⟩⟩))
                        go_ret
                        exact ⟨by first | rfl | (simp [errW_none, errW_some] <;> rfl) | (simp [*, errW_none, errW_some] <;> rfl), by repeat (first | (with_reducible first | exact HB.out | apply below_alloc | apply pw_below_drewN | apply below_drew1) | exact HB.out)⟩
                    · rw [if_neg c20] at H
                      exact absurd H (by simp)
                  · replace c19 := Bool.eq_false_iff.mpr c19
                    subst c19
                    have H1 : (some false) = some r := by rw [if_neg (show ¬ (false = true) by decide)] at H; exact H
                    clear H
                    have H := H1
                    clear H1
                    obtain rfl := Option.some.inj H
                    go_wp2_with (first | ((with_reducible refine gate_dst (N := 15) rfl ?_); (try (refine gate_guard (by rfl) ?_; dsimp only)); refine Kd.R_lit Kd.string _ 9 ?hg (N := 15) ?hd (xs := ([a0, a1] : List ByteArray)) (inner := [.string a0, .string a1]) (ok := fun _ => True) (okp := fun _ => True) ?hr ?hp (fun _ hk => hk) trivial (Below.refl _ _) (Nat.le_refl _) (by simp) ?_; (case hd => rfl); (case hg => rfl); (case hr => first | (go_simp; done) | (go_simp; rfl)); (case hp => exact (Reps.one (show Kd.M Kd.string _ _ _ a0 [.string a0] from rfl) (Reps.one (show Kd.M Kd.string _ _ _ a1 [.string a1] from rfl) (Reps.none _ _)))); intro v140 w32 ho33 hb hg_ hnew_; clear hg_ hnew_; (first | rw [← Ny139.out] at ho33 | (simp only [Int.reduceToNat] at ho33; rw [← Ny139.out] at ho33)); have n0_ := Aside0.mk (Kd.R_lower ho33 (below_size (by repeat (first | (with_reducible first | exact HB.out | apply below_alloc | apply pw_below_drewN | apply below_drew1) | exact HB.out)))); have n1_ := Aside0.mk (below_step (by repeat (first | (with_reducible first | exact HB.out | apply below_alloc | apply pw_below_drewN | apply below_drew1) | exact HB.out)) hb); clear HB; have HO141 := n0_; have HB := n1_; clear n0_ n1_; clear hb ho33; obtain ⟨Ao34, co34, eo34⟩ := Kd.R_slice HO141.out; subst eo34) | ((with_reducible refine gate_callee (f := 9) rfl ?_); refine goesL_ (some 16) rfl rfl Try.func9 (by kernel_rfl) rfl #[.slice Ao34 y139.length co34] rfl (by (try simp only [List.map_toArray, List.map_cons, List.map_nil]); first | done | rfl | (simp only [List.length_drop, List.length_take]; rfl)) ?_; (with_reducible refine (laws_text9.calls kj2 _ _ y139 true _ ?side1 ?side2 A6.out).mono ?_); (case side1 => repeat (first | exact (Kd.R_reads' HO141.out).2.2 | (with_reducible refine Kd.C_alloc ?_ _) | (with_reducible refine Kd.C_drewN ?_ _) | (with_reducible refine Kd.C_drew ?_))); (case side2 => exact (Kd.R_reads' HO141.out).2.1); rintro e w35 ⟨rfl, hb⟩; refine ⟨_, rfl, ?_⟩; have n0_ := Aside0.mk (Kd.R_below (by (with_reducible repeat (first | apply Kd.R_alloc | apply Kd.R_drewN | apply Kd.R_drew)); exact HO141.out) hb); have n1_ := Aside0.mk (below_step (by repeat (first | (with_reducible first | exact HB.out | apply below_alloc | apply pw_below_drewN | apply below_drew1) | exact HB.out)) hb); clear HO141; clear HB; have HO141 := n0_; have HB := n1_; clear n0_ n1_; (try clear hb); (try clear hb2); (try clear hk); (try clear hi)) | ((with_reducible refine gate_callee (f := 13) rfl ?_); refine goesL_ (some 20) rfl rfl Try.func13 (by kernel_rfl) rfl #[.string a0, .string a1] rfl (by (try simp only [List.map_toArray, List.map_cons, List.map_nil]); first | done | rfl | (simp only [List.length_drop, List.length_take]; rfl)) ?_; (with_reducible refine (impl_Contains.calls kj2 a0 a1 t143 _ A8.out).mono ?_); rintro e w' ⟨rfl, ⟨nd, rfl⟩⟩; refine ⟨_, rfl, ?_⟩) | ((with_reducible refine gate_callee (f := 14) rfl ?_); refine goesL_ (some 23) rfl rfl Try.func14 (by kernel_rfl) rfl #[.string a0, .string a1] rfl (by (try simp only [List.map_toArray, List.map_cons, List.map_nil]); first | done | rfl | (simp only [List.length_drop, List.length_take]; rfl)) ?_; (with_reducible refine (spec_Holds.calls kj2 a0 a1 t144 _ A9.out).mono ?_); rintro e w' ⟨rfl, ⟨nd, rfl⟩⟩; refine ⟨_, rfl, ?_⟩) | (go_at_call 15; (with_reducible refine (impl_HasPrefix.calls a0 a1 t145 _ A11.out).mono ?_); rintro e w' ⟨rfl, ⟨nd, rfl⟩⟩) | (go_at_call 16; (with_reducible refine (spec_Begins.calls a0 a1 t146 _ A12.out).mono ?_); rintro e w' ⟨rfl, ⟨nd, rfl⟩⟩) | (go_at_call 17; (with_reducible refine (impl_HasSuffix.calls a0 a1 t147 _ A14.out).mono ?_); rintro e w' ⟨rfl, ⟨nd, rfl⟩⟩) | (go_at_call 18; (with_reducible refine (spec_Ends.calls a0 a1 t148 _ A15.out).mono ?_); rintro e w' ⟨rfl, ⟨nd, rfl⟩⟩) | (go_at_call 13; (with_reducible refine (impl_Contains.calls kj2 a0 (a1 ++ a0) false _ A18.out).mono ?_); rintro e w' ⟨rfl, ⟨nd, rfl⟩⟩))
                    go_ret
                    exact ⟨by first | rfl | (simp [errW_none, errW_some] <;> rfl) | (simp [*, errW_none, errW_some] <;> rfl), by repeat (first | (with_reducible first | exact HB.out | apply below_alloc | apply pw_below_drewN | apply below_drew1) | exact HB.out)⟩
                · rw [if_neg c17] at H
                  exact absurd H (by simp)
              · rw [if_neg c16] at H
                have c16b0 : (t147 == t148) = false := by simpa using c16
                (try (have c16b1 : decide (t147 = t148) = false := by simpa using c16))
                (try (have c16b2 : (t147 == t148) = false := by simpa using c16))
                (try (have c16b3 : ¬ (t147 = t148) := by simpa using c16))
                clear c16
                obtain rfl := Option.some.inj H
                go_wp2_with (first | ((with_reducible refine gate_dst (N := 15) rfl ?_); (try (refine gate_guard (by rfl) ?_; dsimp only)); refine Kd.R_lit Kd.string _ 9 ?hg (N := 15) ?hd (xs := ([a0, a1] : List ByteArray)) (inner := [.string a0, .string a1]) (ok := fun _ => True) (okp := fun _ => True) ?hr ?hp (fun _ hk => hk) trivial (Below.refl _ _) (Nat.le_refl _) (by simp) ?_; (case hd => rfl); (case hg => rfl); (case hr => first | (go_simp; done) | (go_simp; rfl)); (case hp => exact (Reps.one (show Kd.M Kd.string _ _ _ a0 [.string a0] from rfl) (Reps.one (show Kd.M Kd.string _ _ _ a1 [.string a1] from rfl) (Reps.none _ _)))); intro v140 w36 ho37 hb hg_ hnew_; clear hg_ hnew_; (first | rw [← Ny139.out] at ho37 | (simp only [Int.reduceToNat] at ho37; rw [← Ny139.out] at ho37)); have n0_ := Aside0.mk (Kd.R_lower ho37 (below_size (by repeat (first | (with_reducible first | exact HB.out | apply below_alloc | apply pw_below_drewN | apply below_drew1) | exact HB.out)))); have n1_ := Aside0.mk (below_step (by repeat (first | (with_reducible first | exact HB.out | apply below_alloc | apply pw_below_drewN | apply below_drew1) | exact HB.out)) hb); clear HB; have HO141 := n0_; have HB := n1_; clear n0_ n1_; clear hb ho37; obtain ⟨Ao38, co38, eo38⟩ := Kd.R_slice HO141.out; subst eo38) | ((with_reducible refine gate_callee (f := 9) rfl ?_); refine goesL_ (some 16) rfl rfl Try.func9 (by kernel_rfl) rfl #[.slice Ao38 y139.length co38] rfl (by (try simp only [List.map_toArray, List.map_cons, List.map_nil]); first | done | rfl | (simp only [List.length_drop, List.length_take]; rfl)) ?_; (with_reducible refine (laws_text9.calls kj2 _ _ y139 true _ ?side1 ?side2 A6.out).mono ?_); (case side1 => repeat (first | exact (Kd.R_reads' HO141.out).2.2 | (with_reducible refine Kd.C_alloc ?_ _) | (with_reducible refine Kd.C_drewN ?_ _) | (with_reducible refine Kd.C_drew ?_))); (case side2 => exact (Kd.R_reads' HO141.out).2.1); rintro e w39 ⟨rfl, hb⟩; refine ⟨_, rfl, ?_⟩; have n0_ := Aside0.mk (Kd.R_below (by (with_reducible repeat (first | apply Kd.R_alloc | apply Kd.R_drewN | apply Kd.R_drew)); exact HO141.out) hb); have n1_ := Aside0.mk (below_step (by repeat (first | (with_reducible first | exact HB.out | apply below_alloc | apply pw_below_drewN | apply below_drew1) | exact HB.out)) hb); clear HO141; clear HB; have HO141 := n0_; have HB := n1_; clear n0_ n1_; (try clear hb); (try clear hb2); (try clear hk); (try clear hi)) | ((with_reducible refine gate_callee (f := 13) rfl ?_); refine goesL_ (some 20) rfl rfl Try.func13 (by kernel_rfl) rfl #[.string a0, .string a1] rfl (by (try simp only [List.map_toArray, List.map_cons, List.map_nil]); first | done | rfl | (simp only [List.length_drop, List.length_take]; rfl)) ?_; (with_reducible refine (impl_Contains.calls kj2 a0 a1 t143 _ A8.out).mono ?_); rintro e w' ⟨rfl, ⟨nd, rfl⟩⟩; refine ⟨_, rfl, ?_⟩) | ((with_reducible refine gate_callee (f := 14) rfl ?_); refine goesL_ (some 23) rfl rfl Try.func14 (by kernel_rfl) rfl #[.string a0, .string a1] rfl (by (try simp only [List.map_toArray, List.map_cons, List.map_nil]); first | done | rfl | (simp only [List.length_drop, List.length_take]; rfl)) ?_; (with_reducible refine (spec_Holds.calls kj2 a0 a1 t144 _ A9.out).mono ?_); rintro e w' ⟨rfl, ⟨nd, rfl⟩⟩; refine ⟨_, rfl, ?_⟩) | (go_at_call 15; (with_reducible refine (impl_HasPrefix.calls a0 a1 t145 _ A11.out).mono ?_); rintro e w' ⟨rfl, ⟨nd, rfl⟩⟩) | (go_at_call 16; (with_reducible refine (spec_Begins.calls a0 a1 t146 _ A12.out).mono ?_); rintro e w' ⟨rfl, ⟨nd, rfl⟩⟩) | (go_at_call 17; (with_reducible refine (impl_HasSuffix.calls a0 a1 t147 _ A14.out).mono ?_); rintro e w' ⟨rfl, ⟨nd, rfl⟩⟩) | (go_at_call 18; (with_reducible refine (spec_Ends.calls a0 a1 t148 _ A15.out).mono ?_); rintro e w' ⟨rfl, ⟨nd, rfl⟩⟩))
                go_ret
                exact ⟨by first | rfl | (simp [errW_none, errW_some] <;> rfl) | (simp [*, errW_none, errW_some] <;> rfl), by repeat (first | (with_reducible first | exact HB.out | apply below_alloc | apply pw_below_drewN | apply below_drew1) | exact HB.out)⟩
            · rw [if_neg c13] at H
              have c13b0 : (t145 == t146) = false := by simpa using c13
              (try (have c13b1 : decide (t145 = t146) = false := by simpa using c13))
              (try (have c13b2 : (t145 == t146) = false := by simpa using c13))
              (try (have c13b3 : ¬ (t145 = t146) := by simpa using c13))
              clear c13
              obtain rfl := Option.some.inj H
              go_wp2_with (first | ((with_reducible refine gate_dst (N := 15) rfl ?_); (try (refine gate_guard (by rfl) ?_; dsimp only)); refine Kd.R_lit Kd.string _ 9 ?hg (N := 15) ?hd (xs := ([a0, a1] : List ByteArray)) (inner := [.string a0, .string a1]) (ok := fun _ => True) (okp := fun _ => True) ?hr ?hp (fun _ hk => hk) trivial (Below.refl _ _) (Nat.le_refl _) (by simp) ?_; (case hd => rfl); (case hg => rfl); (case hr => first | (go_simp; done) | (go_simp; rfl)); (case hp => exact (Reps.one (show Kd.M Kd.string _ _ _ a0 [.string a0] from rfl) (Reps.one (show Kd.M Kd.string _ _ _ a1 [.string a1] from rfl) (Reps.none _ _)))); intro v140 w40 ho41 hb hg_ hnew_; clear hg_ hnew_; (first | rw [← Ny139.out] at ho41 | (simp only [Int.reduceToNat] at ho41; rw [← Ny139.out] at ho41)); have n0_ := Aside0.mk (Kd.R_lower ho41 (below_size (by repeat (first | (with_reducible first | exact HB.out | apply below_alloc | apply pw_below_drewN | apply below_drew1) | exact HB.out)))); have n1_ := Aside0.mk (below_step (by repeat (first | (with_reducible first | exact HB.out | apply below_alloc | apply pw_below_drewN | apply below_drew1) | exact HB.out)) hb); clear HB; have HO141 := n0_; have HB := n1_; clear n0_ n1_; clear hb ho41; obtain ⟨Ao42, co42, eo42⟩ := Kd.R_slice HO141.out; subst eo42) | ((with_reducible refine gate_callee (f := 9) rfl ?_); refine goesL_ (some 16) rfl rfl Try.func9 (by kernel_rfl) rfl #[.slice Ao42 y139.length co42] rfl (by (try simp only [List.map_toArray, List.map_cons, List.map_nil]); first | done | rfl | (simp only [List.length_drop, List.length_take]; rfl)) ?_; (with_reducible refine (laws_text9.calls kj2 _ _ y139 true _ ?side1 ?side2 A6.out).mono ?_); (case side1 => repeat (first | exact (Kd.R_reads' HO141.out).2.2 | (with_reducible refine Kd.C_alloc ?_ _) | (with_reducible refine Kd.C_drewN ?_ _) | (with_reducible refine Kd.C_drew ?_))); (case side2 => exact (Kd.R_reads' HO141.out).2.1); rintro e w43 ⟨rfl, hb⟩; refine ⟨_, rfl, ?_⟩; have n0_ := Aside0.mk (Kd.R_below (by (with_reducible repeat (first | apply Kd.R_alloc | apply Kd.R_drewN | apply Kd.R_drew)); exact HO141.out) hb); have n1_ := Aside0.mk (below_step (by repeat (first | (with_reducible first | exact HB.out | apply below_alloc | apply pw_below_drewN | apply below_drew1) | exact HB.out)) hb); clear HO141; clear HB; have HO141 := n0_; have HB := n1_; clear n0_ n1_; (try clear hb); (try clear hb2); (try clear hk); (try clear hi)) | ((with_reducible refine gate_callee (f := 13) rfl ?_); refine goesL_ (some 20) rfl rfl Try.func13 (by kernel_rfl) rfl #[.string a0, .string a1] rfl (by (try simp only [List.map_toArray, List.map_cons, List.map_nil]); first | done | rfl | (simp only [List.length_drop, List.length_take]; rfl)) ?_; (with_reducible refine (impl_Contains.calls kj2 a0 a1 t143 _ A8.out).mono ?_); rintro e w' ⟨rfl, ⟨nd, rfl⟩⟩; refine ⟨_, rfl, ?_⟩) | ((with_reducible refine gate_callee (f := 14) rfl ?_); refine goesL_ (some 23) rfl rfl Try.func14 (by kernel_rfl) rfl #[.string a0, .string a1] rfl (by (try simp only [List.map_toArray, List.map_cons, List.map_nil]); first | done | rfl | (simp only [List.length_drop, List.length_take]; rfl)) ?_; (with_reducible refine (spec_Holds.calls kj2 a0 a1 t144 _ A9.out).mono ?_); rintro e w' ⟨rfl, ⟨nd, rfl⟩⟩; refine ⟨_, rfl, ?_⟩) | (go_at_call 15; (with_reducible refine (impl_HasPrefix.calls a0 a1 t145 _ A11.out).mono ?_); rintro e w' ⟨rfl, ⟨nd, rfl⟩⟩) | (go_at_call 16; (with_reducible refine (spec_Begins.calls a0 a1 t146 _ A12.out).mono ?_); rintro e w' ⟨rfl, ⟨nd, rfl⟩⟩))
              go_ret
              exact ⟨by first | rfl | (simp [errW_none, errW_some] <;> rfl) | (simp [*, errW_none, errW_some] <;> rfl), by repeat (first | (with_reducible first | exact HB.out | apply below_alloc | apply pw_below_drewN | apply below_drew1) | exact HB.out)⟩
          · rw [if_neg c10] at H
            have c10b0 : (t143 == t144) = false := by simpa using c10
            (try (have c10b1 : decide (t143 = t144) = false := by simpa using c10))
            (try (have c10b2 : (t143 == t144) = false := by simpa using c10))
            (try (have c10b3 : ¬ (t143 = t144) := by simpa using c10))
            clear c10
            obtain rfl := Option.some.inj H
            go_wp2_with (first | ((with_reducible refine gate_dst (N := 15) rfl ?_); (try (refine gate_guard (by rfl) ?_; dsimp only)); refine Kd.R_lit Kd.string _ 9 ?hg (N := 15) ?hd (xs := ([a0, a1] : List ByteArray)) (inner := [.string a0, .string a1]) (ok := fun _ => True) (okp := fun _ => True) ?hr ?hp (fun _ hk => hk) trivial (Below.refl _ _) (Nat.le_refl _) (by simp) ?_; (case hd => rfl); (case hg => rfl); (case hr => first | (go_simp; done) | (go_simp; rfl)); (case hp => exact (Reps.one (show Kd.M Kd.string _ _ _ a0 [.string a0] from rfl) (Reps.one (show Kd.M Kd.string _ _ _ a1 [.string a1] from rfl) (Reps.none _ _)))); intro v140 w44 ho45 hb hg_ hnew_; clear hg_ hnew_; (first | rw [← Ny139.out] at ho45 | (simp only [Int.reduceToNat] at ho45; rw [← Ny139.out] at ho45)); have n0_ := Aside0.mk (Kd.R_lower ho45 (below_size (by repeat (first | (with_reducible first | exact HB.out | apply below_alloc | apply pw_below_drewN | apply below_drew1) | exact HB.out)))); have n1_ := Aside0.mk (below_step (by repeat (first | (with_reducible first | exact HB.out | apply below_alloc | apply pw_below_drewN | apply below_drew1) | exact HB.out)) hb); clear HB; have HO141 := n0_; have HB := n1_; clear n0_ n1_; clear hb ho45; obtain ⟨Ao46, co46, eo46⟩ := Kd.R_slice HO141.out; subst eo46) | ((with_reducible refine gate_callee (f := 9) rfl ?_); refine goesL_ (some 16) rfl rfl Try.func9 (by kernel_rfl) rfl #[.slice Ao46 y139.length co46] rfl (by (try simp only [List.map_toArray, List.map_cons, List.map_nil]); first | done | rfl | (simp only [List.length_drop, List.length_take]; rfl)) ?_; (with_reducible refine (laws_text9.calls kj2 _ _ y139 true _ ?side1 ?side2 A6.out).mono ?_); (case side1 => repeat (first | exact (Kd.R_reads' HO141.out).2.2 | (with_reducible refine Kd.C_alloc ?_ _) | (with_reducible refine Kd.C_drewN ?_ _) | (with_reducible refine Kd.C_drew ?_))); (case side2 => exact (Kd.R_reads' HO141.out).2.1); rintro e w47 ⟨rfl, hb⟩; refine ⟨_, rfl, ?_⟩; have n0_ := Aside0.mk (Kd.R_below (by (with_reducible repeat (first | apply Kd.R_alloc | apply Kd.R_drewN | apply Kd.R_drew)); exact HO141.out) hb); have n1_ := Aside0.mk (below_step (by repeat (first | (with_reducible first | exact HB.out | apply below_alloc | apply pw_below_drewN | apply below_drew1) | exact HB.out)) hb); clear HO141; clear HB; have HO141 := n0_; have HB := n1_; clear n0_ n1_; (try clear hb); (try clear hb2); (try clear hk); (try clear hi)) | ((with_reducible refine gate_callee (f := 13) rfl ?_); refine goesL_ (some 20) rfl rfl Try.func13 (by kernel_rfl) rfl #[.string a0, .string a1] rfl (by (try simp only [List.map_toArray, List.map_cons, List.map_nil]); first | done | rfl | (simp only [List.length_drop, List.length_take]; rfl)) ?_; (with_reducible refine (impl_Contains.calls kj2 a0 a1 t143 _ A8.out).mono ?_); rintro e w' ⟨rfl, ⟨nd, rfl⟩⟩; refine ⟨_, rfl, ?_⟩) | ((with_reducible refine gate_callee (f := 14) rfl ?_); refine goesL_ (some 23) rfl rfl Try.func14 (by kernel_rfl) rfl #[.string a0, .string a1] rfl (by (try simp only [List.map_toArray, List.map_cons, List.map_nil]); first | done | rfl | (simp only [List.length_drop, List.length_take]; rfl)) ?_; (with_reducible refine (spec_Holds.calls kj2 a0 a1 t144 _ A9.out).mono ?_); rintro e w' ⟨rfl, ⟨nd, rfl⟩⟩; refine ⟨_, rfl, ?_⟩))
            go_ret
            exact ⟨by first | rfl | (simp [errW_none, errW_some] <;> rfl) | (simp [*, errW_none, errW_some] <;> rfl), by repeat (first | (with_reducible first | exact HB.out | apply below_alloc | apply pw_below_drewN | apply below_drew1) | exact HB.out)⟩
        · replace c7 := Bool.eq_false_iff.mpr c7
          subst c7
          have H1 : (some true) = some r := by rw [if_neg (show ¬ (false = true) by decide)] at H; exact H
          clear H
          have H := H1
          clear H1
          obtain rfl := Option.some.inj H
          go_wp2_with (first | ((with_reducible refine gate_dst (N := 15) rfl ?_); (try (refine gate_guard (by rfl) ?_; dsimp only)); refine Kd.R_lit Kd.string _ 9 ?hg (N := 15) ?hd (xs := ([a0, a1] : List ByteArray)) (inner := [.string a0, .string a1]) (ok := fun _ => True) (okp := fun _ => True) ?hr ?hp (fun _ hk => hk) trivial (Below.refl _ _) (Nat.le_refl _) (by simp) ?_; (case hd => rfl); (case hg => rfl); (case hr => first | (go_simp; done) | (go_simp; rfl)); (case hp => exact (Reps.one (show Kd.M Kd.string _ _ _ a0 [.string a0] from rfl) (Reps.one (show Kd.M Kd.string _ _ _ a1 [.string a1] from rfl) (Reps.none _ _)))); intro v140 w48 ho49 hb hg_ hnew_; clear hg_ hnew_; (first | rw [← Ny139.out] at ho49 | (simp only [Int.reduceToNat] at ho49; rw [← Ny139.out] at ho49)); have n0_ := Aside0.mk (Kd.R_lower ho49 (below_size (by repeat (first | (with_reducible first | exact HB.out | apply below_alloc | apply pw_below_drewN | apply below_drew1) | exact HB.out)))); have n1_ := Aside0.mk (below_step (by repeat (first | (with_reducible first | exact HB.out | apply below_alloc | apply pw_below_drewN | apply below_drew1) | exact HB.out)) hb); clear HB; have HO141 := n0_; have HB := n1_; clear n0_ n1_; clear hb ho49; obtain ⟨Ao50, co50, eo50⟩ := Kd.R_slice HO141.out; subst eo50) | ((with_reducible refine gate_callee (f := 9) rfl ?_); refine goesL_ (some 16) rfl rfl Try.func9 (by kernel_rfl) rfl #[.slice Ao50 y139.length co50] rfl (by (try simp only [List.map_toArray, List.map_cons, List.map_nil]); first | done | rfl | (simp only [List.length_drop, List.length_take]; rfl)) ?_; (with_reducible refine (laws_text9.calls kj2 _ _ y139 false _ ?side1 ?side2 A6.out).mono ?_); (case side1 => repeat (first | exact (Kd.R_reads' HO141.out).2.2 | (with_reducible refine Kd.C_alloc ?_ _) | (with_reducible refine Kd.C_drewN ?_ _) | (with_reducible refine Kd.C_drew ?_))); (case side2 => exact (Kd.R_reads' HO141.out).2.1); rintro e w51 ⟨rfl, hb⟩; refine ⟨_, rfl, ?_⟩; have n0_ := Aside0.mk (Kd.R_below (by (with_reducible repeat (first | apply Kd.R_alloc | apply Kd.R_drewN | apply Kd.R_drew)); exact HO141.out) hb); have n1_ := Aside0.mk (below_step (by repeat (first | (with_reducible first | exact HB.out | apply below_alloc | apply pw_below_drewN | apply below_drew1) | exact HB.out)) hb); clear HO141; clear HB; have HO141 := n0_; have HB := n1_; clear n0_ n1_; (try clear hb); (try clear hb2); (try clear hk); (try clear hi)))
          go_ret
          exact ⟨by first | rfl | (simp [errW_none, errW_some] <;> rfl) | (simp [*, errW_none, errW_some] <;> rfl), by repeat (first | (with_reducible first | exact HB.out | apply below_alloc | apply pw_below_drewN | apply below_drew1) | exact HB.out)⟩

/-- THE ONE PURE STATEMENT of laws_FnHolds: yours. -/
def laws_FnHolds.Pure : Prop := ∀ (a0 : ByteArray) (a1 : ByteArray), a0.size ≤ 140737488351232 → a1.size ≤ 140737488351232 → ∃ k, laws_FnHolds.f k a0 a1 = some true
theorem laws_FnHolds.walk (P : laws_FnHolds.Pure) (a0 : ByteArray) (a1 : ByteArray) (w : World) (w0 : a0.size ≤ 140737488351232) (w1 : a1.size ≤ 140737488351232) :
    Calls Try.prog 5 #[.string a0, .string a1] w fun e w' => e = .returned (.bool true) ∧ Below w.heap.size w w' := by
  obtain ⟨k, h⟩ := P a0 a1 w0 w1
  refine (laws_FnHolds.calls k a0 a1 true w h).mono ?_
  rintro e w' ⟨rfl, hd⟩
  exact ⟨rfl, hd⟩

end Go.Proofs.Ytfnogloefimeiaa.P
