-- WRITTEN by xprint.py (a program of this session, over the kit's print) out of the translation. Not trusted: Lean checks it.
import Derived.Test.YtlhijjfbcgconaaGreatDoorZPx0
import Derived.Test.YtlhijjfbcgconaaGreatDoorZPx1
import Derived.Test.YtlhijjfbcgconaaGreatDoorZPx4
namespace Go.Proofs.YtlhijjfbcgconaaGreatDoor.P
open Go.RowKit Go.Proofs.YtlhijjfbcgconaaGreatDoorW.PrintWords Go.Proofs.YtlhijjfbcgconaaGreatDoorW.PrintLast Go.Proofs.YtlhijjfbcgconaaGreatDoorW.PrintMore
attribute [local go_sem] max2_int min2_int max_two min_two max_three min_three max_four min_four run_store_float   -- for this text's walks alone
set_option linter.unusedVariables false
set_option linter.unusedSimpArgs false

/-! ### spec_Among: function 5 -/
def spec_Among.l0 : Nat → List ByteArray → ByteArray → Int → Option (Bool)
  | 0, _, _, _ => none
  | k + 1, x0, x1, x5 => if x5 < (x0.length : Int) then (if 0 ≤ x5 then (if (rdOf ByteArray.empty x0 x5).toList = x1.toList then (some true) else (spec_Among.l0 k x0 x1 (wrap64 (x5 + 1)))) else (none)) else (some false)
def spec_Among.f (k : Nat) (l0 : List ByteArray) (a1 : ByteArray) : Option (Bool) := spec_Among.l0 k l0 a1 0
theorem spec_Among.mono_l : ∀ k, (∀ y0 y1 y2, LeO (spec_Among.l0 k y0 y1 y2) (spec_Among.l0 (k + 1) y0 y1 y2))
  | 0 => fun _ _ _ r h => by simp [spec_Among.l0] at h
  | k + 1 => by
    have ih0 := spec_Among.mono_l k
    · intro y0 y1 y2
      unfold spec_Among.l0
      repeat' first
      | (with_reducible exact ih0 _ _ _)
      | (with_reducible exact LeO.refl _)
      | (with_reducible exact LeO.none _)
      | (with_reducible refine LeO.ite ?_ ?_)
      | (with_reducible refine LeO.bind ?_ (fun _ => ?_))
      | exact ih0 _ _ _
      | exact LeO.none _
      | refine LeO.ite ?_ ?_
      | refine LeO.bind ?_ (fun _ => ?_)
theorem spec_Among.mono : ∀ a0 a1 k, LeO (spec_Among.f k a0 a1) (spec_Among.f (k + 1) a0 a1) := by
  intro a0 a1 k
  have ih0 := spec_Among.mono_l k
  unfold spec_Among.f
  repeat' first
      | (with_reducible exact ih0 _ _ _)
      | (with_reducible exact LeO.refl _)
      | (with_reducible exact LeO.none _)
      | (with_reducible refine LeO.ite ?_ ?_)
      | (with_reducible refine LeO.bind ?_ (fun _ => ?_))
      | exact ih0 _ _ _
      | exact LeO.none _
      | refine LeO.ite ?_ ?_
      | refine LeO.bind ?_ (fun _ => ?_)
set_option maxHeartbeats 8000000 in
set_option maxRecDepth 100000 in
theorem spec_Among.calls (k : Nat) (A0 : Option Addr) (c0 : Nat) (l0 : List ByteArray) (a1 : ByteArray) (r : Bool) (w : World) (hr0 : Kd.C Kd.string w A0 l0.length l0) (hc0 : l0.length ≤ c0) (h : spec_Among.f k l0 a1 = some r) :
    Calls Tryz.prog 5 #[.slice A0 l0.length c0, .string a1] w fun e w' => e = .returned (.bool r) ∧ Drawn0 w w' := by
  have HR0 := Aside0.mk hr0
  have HC0 := Aside0.mk hc0
  clear hr0 hc0
  have H : (spec_Among.l0 k l0 a1 0) = some r := h
  clear h
  have H' := Aside0.mk H
  clear H
  go_enter Tryz.func5, Tryz.ntmps5
  go_wp2
  go_loopg [5] k (fun kq v5 w' => ∃ (x5_1 : Int), v5 = .int .i64 x5_1 ∧ Aside0 (spec_Among.l0 kq l0 a1 x5_1 = some r) ∧ Aside0 (kq ≤ k) ∧ Drawn0 w w')
  case atStart => exact ⟨(0), (by first | rfl | (simp only [bytesLe_not]; done) | (simp; done) | (simp [*]; done)), H', ⟨Nat.le_refl _⟩, by repeat (first | exact Drawn0.refl _ | apply Drawn0.step)⟩
  case round =>
    clear H'
    try clear p2
    obtain ⟨x5_1, rfl, HA, HK1, ⟨m1, rfl⟩⟩ := hrel
    cases gk with
    | zero => exact absurd HA.out (by simp [spec_Among.l0])
    | succ k1 =>
      have H := HA.out
      clear HA
      simp only [spec_Among.l0] at H
      by_cases c3 : x5_1 < (l0.length : Int)
      · rw [if_pos c3] at H
        have c3b0 : decide (x5_1 < (l0.length : Int)) = true := decide_eq_true c3
        clear c3
        by_cases c4 : 0 ≤ x5_1
        · rw [if_pos c4] at H
          have c4b0 : decide (0 ≤ x5_1) = true := decide_eq_true c4
          clear c4
          by_cases c5 : (rdOf ByteArray.empty l0 x5_1).toList = a1.toList
          · rw [if_pos c5] at H
            have c5b0 : ((rdOf ByteArray.empty l0 x5_1).toList == a1.toList) = true := beq_iff_eq.mpr c5
            have c5b1 : ((rdOf ByteArray.empty l0 x5_1).toList != a1.toList) = false := bne_eq_false_iff_eq.mpr c5
            clear c5
            as_aux_lemma =>
              obtain rfl := Option.some.inj H
              have p136 : 0 ≤ (x5_1 : Int) := of_decide_eq_true (by first | (with_reducible assumption) | assumption)
              have q136 : x5_1 < (l0.length : Int) := of_decide_eq_true (by first | (with_reducible assumption) | assumption)
              obtain ⟨ad136, e136, hx136_0⟩ := Kd.at_string HR0.out x5_1 p136 q136
              cases e136
              replace p136 := eq_true p136
              replace q136 := eq_true q136
              go_wp2
              go_ret
              exact ⟨by first | rfl | (simp only [bytesLe_not]; done) | (simp; done) | (simp [*]; done), by repeat (first | exact Drawn0.refl _ | apply Drawn0.step)⟩
          · rw [if_neg c5] at H
            have c5b0 : ((rdOf ByteArray.empty l0 x5_1).toList == a1.toList) = false := beq_eq_false_iff_ne.mpr c5
            have c5b1 : ((rdOf ByteArray.empty l0 x5_1).toList != a1.toList) = true := bne_iff_ne.mpr c5
            as_aux_lemma =>
              have H' := Aside0.mk H
              clear H
              have p136 : 0 ≤ (x5_1 : Int) := of_decide_eq_true (by first | (with_reducible assumption) | assumption)
              have q136 : x5_1 < (l0.length : Int) := of_decide_eq_true (by first | (with_reducible assumption) | assumption)
              obtain ⟨ad136, e136, hx136_0⟩ := Kd.at_string HR0.out x5_1 p136 q136
              cases e136
              replace p136 := eq_true p136
              replace q136 := eq_true q136
              go_wp2
              go_roundg k1
              case measure => have := HK1.out; omega
              case rel => exact ⟨(wrap64 (x5_1 + 1)), (by first | rfl | (simp only [bytesLe_not]; done) | (simp; done) | (simp [*]; done)), H', ⟨by have := HK1.out; omega⟩, by repeat (first | exact Drawn0.refl _ | apply Drawn0.step)⟩
        · rw [if_neg c4] at H
          exact absurd H (by simp)
      · rw [if_neg c3] at H
        have c3b0 : decide (x5_1 < (l0.length : Int)) = false := decide_eq_false c3
        clear c3
        as_aux_lemma =>
          obtain rfl := Option.some.inj H
          go_wp2
          go_ret
          exact ⟨by first | rfl | (simp only [bytesLe_not]; done) | (simp; done) | (simp [*]; done), by repeat (first | exact Drawn0.refl _ | apply Drawn0.step)⟩


/-! ### spec_sign: function 13 -/
def spec_sign.f (a0 : Int) : Option (Int) := if a0 < 0 then (some (-1)) else (some (mn a0 1))
set_option maxHeartbeats 8000000 in
set_option maxRecDepth 100000 in
theorem spec_sign.calls (a0 : Int) (r : Int) (w : World) (h : spec_sign.f a0 = some r) :
    Calls Tryz.prog 13 #[.int .i64 a0] w fun e w' => e = .returned (.int .i64 r) ∧ Below w.heap.size w w' := by
  have HB := Aside0.mk (Below.refl w.heap.size w)
  have H : (if a0 < 0 then (some (-1)) else (some (mn a0 1))) = some r := h
  clear h
  by_cases c2 : a0 < 0
  · rw [if_pos c2] at H
    have c2b0 : decide (a0 < 0) = true := decide_eq_true c2
    clear c2
    as_aux_lemma =>
      obtain rfl := Option.some.inj H
      go_enter Tryz.func13, Tryz.ntmps13
      go_wp2
      go_ret
      exact ⟨by first | rfl | (simp [errW_none, errW_some] <;> rfl) | (simp [*, errW_none, errW_some] <;> rfl), by repeat (first | (with_reducible first | exact HB.out | apply below_alloc | apply pw_below_drewN | apply below_drew1) | exact HB.out)⟩
  · rw [if_neg c2] at H
    have c2b0 : decide (a0 < 0) = false := decide_eq_false c2
    clear c2
    obtain ⟨ji3, hji3⟩ : ∃ j_ : Int, (mn a0 1) = j_ := ⟨_, rfl⟩
    replace H : (some ji3) = some r := by first | (rw [hji3] at H; exact H) | (simp only [hji3] at H ⊢; exact H)
    (try (have hji3h : ji3 ≤ 1 := by (rw [← hji3]; unfold mn; (repeat' split) <;> omega)))
    (try (have hji3g : ji3 ≤ 64 := by omega))
    have hji3_ : (if 1 < a0 then 1 else a0) = ji3 := hji3
    as_aux_lemma =>
      obtain rfl := Option.some.inj H
      go_enter Tryz.func13, Tryz.ntmps13
      go_wp2
      go_ret
      exact ⟨by first | rfl | (simp [errW_none, errW_some] <;> rfl) | (simp only [← hji3]; first | rfl | (simp [errW_none, errW_some] <;> rfl)) | (simp [*, errW_none, errW_some] <;> rfl), by repeat (first | (with_reducible first | exact HB.out | apply below_alloc | apply pw_below_drewN | apply below_drew1) | exact HB.out)⟩

end Go.Proofs.YtlhijjfbcgconaaGreatDoor.P

