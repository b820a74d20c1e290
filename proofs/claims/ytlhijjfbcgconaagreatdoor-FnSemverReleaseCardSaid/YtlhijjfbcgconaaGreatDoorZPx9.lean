-- WRITTEN by xprint.py (a program of this session, over the kit's print) out of the translation. Not trusted: Lean checks it.
import Derived.Test.YtlhijjfbcgconaaGreatDoorZPx0
import Derived.Test.YtlhijjfbcgconaaGreatDoorZPx8
namespace Go.Proofs.YtlhijjfbcgconaaGreatDoor.P
open Go.RowKit Go.Proofs.YtlhijjfbcgconaaGreatDoorW.PrintWords Go.Proofs.YtlhijjfbcgconaaGreatDoorW.PrintLast Go.Proofs.YtlhijjfbcgconaaGreatDoorW.PrintMore
attribute [local go_sem] max2_int min2_int max_two min_two max_three min_three max_four min_four run_store_float   -- for this text's walks alone
set_option linter.unusedVariables false
set_option linter.unusedSimpArgs false

/-! ### semver_zzParts: function 44 -/
mutual
def semver_zzParts.j0 : Nat → ByteArray → Int → Bool → Option (Int)
  | 0, _, _, _ => none
  | k + 1, x0, x1, x18 => if x18 = true then (some x1) else ((semver_zzPart.f k x0 (wrap64 (x1 + 1))).bind fun t144 => (if t144 = (wrap64 (x1 + 1)) then (some x1) else (semver_zzParts.l0 k x0 t144)))
def semver_zzParts.l0 : Nat → ByteArray → Int → Option (Int)
  | 0, _, _ => none
  | k + 1, x0, x7 => if x7 < (x0.size : Int) then (if 0 ≤ x7 then (if (bt x0 x7) = 46 then ((semver_zzPart.f k x0 (wrap64 (x7 + 1))).bind fun t145 => (semver_zzParts.j2 k x0 x7 (decide (t145 > (wrap64 (x7 + 1)))))) else (semver_zzParts.j2 k x0 x7 false)) else (none)) else (semver_zzParts.j2 k x0 x7 false)
def semver_zzParts.j2 : Nat → ByteArray → Int → Bool → Option (Int)
  | 0, _, _, _ => none
  | k + 1, x0, x7, x47 => if x47 = true then ((semver_zzPart.f k x0 (wrap64 (x7 + 1))).bind fun t146 => (semver_zzParts.l0 k x0 t146)) else (some x7)
end
def semver_zzParts.f (k : Nat) (a0 : ByteArray) (a1 : Int) (a2 : Int) : Option (Int) := if a1 ≥ (a0.size : Int) then (semver_zzParts.j0 k a0 a1 true) else (if 0 ≤ a1 then (if a1 < (a0.size : Int) then (semver_zzParts.j0 k a0 a1 ((bt a0 a1) != a2)) else (none)) else (none))
theorem semver_zzParts.mono_l : ∀ k, (∀ y0 y1 y2, LeO (semver_zzParts.j0 k y0 y1 y2) (semver_zzParts.j0 (k + 1) y0 y1 y2)) ∧ (∀ y0 y1, LeO (semver_zzParts.l0 k y0 y1) (semver_zzParts.l0 (k + 1) y0 y1)) ∧ (∀ y0 y1 y2, LeO (semver_zzParts.j2 k y0 y1 y2) (semver_zzParts.j2 (k + 1) y0 y1 y2))
  | 0 => ⟨fun _ _ _ r h => by simp [semver_zzParts.j0] at h, fun _ _ r h => by simp [semver_zzParts.l0] at h, fun _ _ _ r h => by simp [semver_zzParts.j2] at h⟩
  | k + 1 => by
    obtain ⟨ih0, ih1, ih2⟩ := semver_zzParts.mono_l k
    refine ⟨?_, ?_, ?_⟩
    · intro y0 y1 y2
      unfold semver_zzParts.j0
      repeat' first
      | (with_reducible exact ih0 _ _ _)
      | (with_reducible exact ih1 _ _)
      | (with_reducible exact ih2 _ _ _)
      | (with_reducible exact semver_zzPart.mono _ _ _)
      | (with_reducible exact LeO.refl _)
      | (with_reducible exact LeO.none _)
      | (with_reducible refine LeO.ite ?_ ?_)
      | (with_reducible refine LeO.bind ?_ (fun _ => ?_))
      | exact ih0 _ _ _
      | exact ih1 _ _
      | exact ih2 _ _ _
      | exact semver_zzPart.mono _ _ _
      | exact LeO.none _
      | refine LeO.ite ?_ ?_
      | refine LeO.bind ?_ (fun _ => ?_)
    · intro y0 y1
      unfold semver_zzParts.l0
      repeat' first
      | (with_reducible exact ih0 _ _ _)
      | (with_reducible exact ih1 _ _)
      | (with_reducible exact ih2 _ _ _)
      | (with_reducible exact semver_zzPart.mono _ _ _)
      | (with_reducible exact LeO.refl _)
      | (with_reducible exact LeO.none _)
      | (with_reducible refine LeO.ite ?_ ?_)
      | (with_reducible refine LeO.bind ?_ (fun _ => ?_))
      | exact ih0 _ _ _
      | exact ih1 _ _
      | exact ih2 _ _ _
      | exact semver_zzPart.mono _ _ _
      | exact LeO.none _
      | refine LeO.ite ?_ ?_
      | refine LeO.bind ?_ (fun _ => ?_)
    · intro y0 y1 y2
      unfold semver_zzParts.j2
      repeat' first
      | (with_reducible exact ih0 _ _ _)
      | (with_reducible exact ih1 _ _)
      | (with_reducible exact ih2 _ _ _)
      | (with_reducible exact semver_zzPart.mono _ _ _)
      | (with_reducible exact LeO.refl _)
      | (with_reducible exact LeO.none _)
      | (with_reducible refine LeO.ite ?_ ?_)
      | (with_reducible refine LeO.bind ?_ (fun _ => ?_))
      | exact ih0 _ _ _
      | exact ih1 _ _
      | exact ih2 _ _ _
      | exact semver_zzPart.mono _ _ _
      | exact LeO.none _
      | refine LeO.ite ?_ ?_
      | refine LeO.bind ?_ (fun _ => ?_)
theorem semver_zzParts.mono : ∀ a0 a1 a2 k, LeO (semver_zzParts.f k a0 a1 a2) (semver_zzParts.f (k + 1) a0 a1 a2) := by
  intro a0 a1 a2 k
  obtain ⟨ih0, ih1, ih2⟩ := semver_zzParts.mono_l k
  unfold semver_zzParts.f
  repeat' first
      | (with_reducible exact ih0 _ _ _)
      | (with_reducible exact ih1 _ _)
      | (with_reducible exact ih2 _ _ _)
      | (with_reducible exact semver_zzPart.mono _ _ _)
      | (with_reducible exact LeO.refl _)
      | (with_reducible exact LeO.none _)
      | (with_reducible refine LeO.ite ?_ ?_)
      | (with_reducible refine LeO.bind ?_ (fun _ => ?_))
      | exact ih0 _ _ _
      | exact ih1 _ _
      | exact ih2 _ _ _
      | exact semver_zzPart.mono _ _ _
      | exact LeO.none _
      | refine LeO.ite ?_ ?_
      | refine LeO.bind ?_ (fun _ => ?_)
set_option maxHeartbeats 8000000 in
set_option maxRecDepth 100000 in
theorem semver_zzParts.calls (k : Nat) (a0 : ByteArray) (a1 : Int) (a2 : Int) (r : Int) (w : World) (h : semver_zzParts.f k a0 a1 a2 = some r) :
    Calls Tryz.prog 44 #[.string a0, .int .i64 a1, .int .u8 a2] w fun e w' => e = .returned (.int .i64 r) ∧ Drawn0 w w' := by
  have H : (if a1 ≥ (a0.size : Int) then (semver_zzParts.j0 k a0 a1 true) else (if 0 ≤ a1 then (if a1 < (a0.size : Int) then (semver_zzParts.j0 k a0 a1 ((bt a0 a1) != a2)) else (none)) else (none))) = some r := h
  clear h
  have HC4 := Aside0.mk H
  clear H
  go_enter Tryz.func44, Tryz.ntmps44
  go_upto_region 1 with (fail)
  go_cut [18] (fun v18 wc => ∃ (kq : Nat) (x18_3 : Bool), v18 = .bool x18_3 ∧ Aside0 (semver_zzParts.j0 kq a0 a1 x18_3 = some r) ∧ Aside0 (kq ≤ k) ∧ Drawn0 w wc)
  case first =>
    have H := HC4.out
    clear HC4
    by_cases c5 : a1 ≥ (a0.size : Int)
    · rw [if_pos c5] at H
      have c5b0 : decide ((a0.size : Int) ≤ a1) = true := decide_eq_true c5
      clear c5
      (first | rw [c5b0] | (simp only [i64_w, i32_w]; rw [c5b0]) | skip)
      as_aux_lemma =>
        have H' := Aside0.mk H
        clear H
        go_wp2
        go_meet
        case rel => exact ⟨_, (true), (by first | rfl | (simp only [bytesLe_not]; done) | (simp; done) | (simp [*]; done)), H', ⟨by first | omega | exact Nat.le_refl _⟩, by repeat (first | exact Drawn0.refl _ | apply Drawn0.step)⟩
    · rw [if_neg c5] at H
      have c5b0 : decide ((a0.size : Int) ≤ a1) = false := decide_eq_false c5
      clear c5
      (first | rw [c5b0] | (simp only [i64_w, i32_w]; rw [c5b0]) | skip)
      by_cases c6 : 0 ≤ a1
      · rw [if_pos c6] at H
        have c6b0 : decide (0 ≤ a1) = true := decide_eq_true c6
        clear c6
        by_cases c7 : a1 < (a0.size : Int)
        · rw [if_pos c7] at H
          have c7b0 : decide (a1 < (a0.size : Int)) = true := decide_eq_true c7
          clear c7
          as_aux_lemma =>
            have H' := Aside0.mk H
            clear H
            have p8 : 0 ≤ (a1 : Int) := of_decide_eq_true (by first | (with_reducible assumption) | assumption)
            have q8 : a1 < (a0.size : Int) := of_decide_eq_true (by first | (with_reducible assumption) | assumption)
            have hx8 := bt_at a0 a1
            replace p8 := eq_true p8
            replace q8 := eq_true q8
            go_wp2
            go_meet
            case rel => exact ⟨_, (((bt a0 a1) != a2)), (by first | rfl | (simp only [bytesLe_not]; done) | (simp; done) | (simp [*]; done)), H', ⟨by first | omega | exact Nat.le_refl _⟩, by repeat (first | exact Drawn0.refl _ | apply Drawn0.step)⟩
        · rw [if_neg c7] at H
          exact absurd H (by simp)
      · rw [if_neg c6] at H
        exact absurd H (by simp)
  case rest =>
    clear HC4
    try clear p2
    try clear c4
    try clear c5
    try clear c5b0
    try clear c6
    try clear c6b0
    try clear c7
    try clear c7b0
    try clear p8
    try clear q8
    try clear hx8
    try clear p8
    try clear q8
    obtain ⟨kq, x18_3, rfl, HA, HJ3, ⟨mc3, rfl⟩⟩ := hcut
    cases kq with
    | zero => exact absurd HA.out (by simp [semver_zzParts.j0])
    | succ kj3 =>
      have H := HA.out
      clear HA
      simp only [semver_zzParts.j0] at H
      by_cases c9 : x18_3 = true
      · subst c9
        have H1 : (some a1) = some r := by rw [if_pos rfl] at H; exact H
        clear H
        have H := H1
        clear H1
        as_aux_lemma =>
          obtain rfl := Option.some.inj H
          go_wp2
          go_ret
          exact ⟨by first | rfl | (simp only [bytesLe_not]; done) | (simp; done) | (simp [*]; done), by repeat (first | exact Drawn0.refl _ | apply Drawn0.step)⟩
      · replace c9 := Bool.eq_false_iff.mpr c9
        subst c9
        have H1 : ((semver_zzPart.f kj3 a0 (wrap64 (a1 + 1))).bind fun t144 => (if t144 = (wrap64 (a1 + 1)) then (some a1) else (semver_zzParts.l0 kj3 a0 t144))) = some r := by rw [if_neg (show ¬ (false = true) by decide)] at H; exact H
        clear H
        have H := H1
        clear H1
        replace H := Option.bind_eq_some_iff.mp H
        obtain ⟨t144, A100, H⟩ := H
        replace H : (if t144 = (wrap64 (a1 + 1)) then (some a1) else (semver_zzParts.l0 kj3 a0 t144)) = some r := H
        have A10 := Aside0.mk A100
        clear A100
        by_cases c11 : t144 = (wrap64 (a1 + 1))
        · rw [if_pos c11] at H
          have c11b0 : (t144 == (wrap64 (a1 + 1))) = true := beq_iff_eq.mpr c11
          have c11b1 : (t144 != (wrap64 (a1 + 1))) = false := bne_eq_false_iff_eq.mpr c11
          clear c11
          as_aux_lemma =>
            obtain rfl := Option.some.inj H
            go_wp2_with (first | ((with_reducible refine gate_callee (f := 61) rfl ?_); refine goesL_ (some 23) rfl rfl Tryz.func61 (by kernel_rfl) rfl #[.string a0, .int .i64 (wrap64 (a1 + 1))] rfl (by (try simp only [List.map_toArray, List.map_cons, List.map_nil]); first | done | rfl | (simp only [List.length_drop, List.length_take]; rfl)) ?_; (with_reducible refine (semver_zzPart.calls kj3 a0 (wrap64 (a1 + 1)) t144 _ A10.out).mono ?_); rintro e w' ⟨rfl, ⟨nd, rfl⟩⟩; refine ⟨_, rfl, ?_⟩))
            go_ret
            exact ⟨by first | rfl | (simp only [bytesLe_not]; done) | (simp; done) | (simp [*]; done), by repeat (first | exact Drawn0.refl _ | apply Drawn0.step)⟩
        · rw [if_neg c11] at H
          have c11b0 : (t144 == (wrap64 (a1 + 1))) = false := beq_eq_false_iff_ne.mpr c11
          have c11b1 : (t144 != (wrap64 (a1 + 1))) = true := bne_iff_ne.mpr c11
          have H' := Aside0.mk H
          clear H
          go_wp2_with (first | ((with_reducible refine gate_callee (f := 61) rfl ?_); refine goesL_ (some 23) rfl rfl Tryz.func61 (by kernel_rfl) rfl #[.string a0, .int .i64 (wrap64 (a1 + 1))] rfl (by (try simp only [List.map_toArray, List.map_cons, List.map_nil]); first | done | rfl | (simp only [List.length_drop, List.length_take]; rfl)) ?_; (with_reducible refine (semver_zzPart.calls kj3 a0 (wrap64 (a1 + 1)) t144 _ A10.out).mono ?_); rintro e w' ⟨rfl, ⟨nd, rfl⟩⟩; refine ⟨_, rfl, ?_⟩))
          go_loopg [7] kj3 (fun kq v7 w' => ∃ (x7_2 : Int), v7 = .int .i64 x7_2 ∧ Aside0 (semver_zzParts.l0 kq a0 x7_2 = some r) ∧ Aside0 (kq ≤ kj3) ∧ Drawn0 w w')
          case atStart => exact ⟨(t144), (by first | rfl | (simp only [bytesLe_not]; done) | (simp; done) | (simp [*]; done)), H', ⟨Nat.le_refl _⟩, by repeat (first | exact Drawn0.refl _ | apply Drawn0.step)⟩
          case round =>
            clear H'
            try clear c1
            try clear p2
            try clear c3
            try clear c4
            try clear c5
            try clear c5b0
            try clear c6
            try clear c6b0
            try clear p6
            try clear c7
            try clear c7b0
            try clear p8
            try clear q8
            try clear hx8
            try clear c9
            try clear c11
            try clear c11b0
            try clear c11b1
            try clear p2
            try clear p8
            try clear q8
            obtain ⟨x7_2, rfl, HA, HK2, ⟨m2, rfl⟩⟩ := hrel
            cases gk with
            | zero => exact absurd HA.out (by simp [semver_zzParts.l0])
            | succ k2 =>
              have H := HA.out
              clear HA
              simp only [semver_zzParts.l0] at H
              have HC12 := Aside0.mk H
              clear H
              go_upto_region 6 with (fail)
              go_cut [47] (fun v47 wc => ∃ (kq : Nat) (x47_11 : Bool), v47 = .bool x47_11 ∧ Aside0 (semver_zzParts.j2 kq a0 x7_2 x47_11 = some r) ∧ Aside0 (kq ≤ k2) ∧ Drawn0 w wc)
              case first =>
                have H := HC12.out
                clear HC12
                by_cases c13 : x7_2 < (a0.size : Int)
                · rw [if_pos c13] at H
                  have c13b0 : decide (x7_2 < (a0.size : Int)) = true := decide_eq_true c13
                  clear c13
                  (first | rw [c13b0] | (simp only [i64_w, i32_w]; rw [c13b0]) | skip)
                  by_cases c14 : 0 ≤ x7_2
                  · rw [if_pos c14] at H
                    have c14b0 : decide (0 ≤ x7_2) = true := decide_eq_true c14
                    clear c14
                    by_cases c16 : (bt a0 x7_2) = 46
                    · rw [if_pos c16] at H
                      have c16b0 : ((bt a0 x7_2) == 46) = true := beq_iff_eq.mpr c16
                      have c16b1 : ((bt a0 x7_2) != 46) = false := bne_eq_false_iff_eq.mpr c16
                      clear c16
                      replace H := Option.bind_eq_some_iff.mp H
                      obtain ⟨t145, A170, H⟩ := H
                      replace H : (semver_zzParts.j2 k2 a0 x7_2 (decide (t145 > (wrap64 (x7_2 + 1))))) = some r := H
                      have A17 := Aside0.mk A170
                      clear A170
                      as_aux_lemma =>
                        have H' := Aside0.mk H
                        clear H
                        have p15 : 0 ≤ (x7_2 : Int) := of_decide_eq_true (by first | (with_reducible assumption) | assumption)
                        have q15 : x7_2 < (a0.size : Int) := of_decide_eq_true (by first | (with_reducible assumption) | assumption)
                        have hx15 := bt_at a0 x7_2
                        replace p15 := eq_true p15
                        replace q15 := eq_true q15
                        go_wp2_with (first | (go_at_call 61; (with_reducible refine (semver_zzPart.calls k2 a0 (wrap64 (x7_2 + 1)) t145 _ A17.out).mono ?_); rintro e w' ⟨rfl, ⟨nd, rfl⟩⟩))
                        go_meet
                        case rel => exact ⟨_, (decide (t145 > (wrap64 (x7_2 + 1)))), (by first | rfl | (simp only [bytesLe_not]; done) | (simp; done) | (simp [*]; done)), H', ⟨by have := HJ3.out; have := HK2.out; first | omega | exact Nat.le_refl _⟩, by repeat (first | exact Drawn0.refl _ | apply Drawn0.step)⟩
                    · rw [if_neg c16] at H
                      have c16b0 : ((bt a0 x7_2) == 46) = false := beq_eq_false_iff_ne.mpr c16
                      have c16b1 : ((bt a0 x7_2) != 46) = true := bne_iff_ne.mpr c16
                      as_aux_lemma =>
                        have H' := Aside0.mk H
                        clear H
                        have p15 : 0 ≤ (x7_2 : Int) := of_decide_eq_true (by first | (with_reducible assumption) | assumption)
                        have q15 : x7_2 < (a0.size : Int) := of_decide_eq_true (by first | (with_reducible assumption) | assumption)
                        have hx15 := bt_at a0 x7_2
                        replace p15 := eq_true p15
                        replace q15 := eq_true q15
                        go_wp2
                        go_meet
                        case rel => exact ⟨_, (false), (by first | rfl | (simp only [bytesLe_not]; done) | (simp; done) | (simp [*]; done)), H', ⟨by have := HJ3.out; have := HK2.out; first | omega | exact Nat.le_refl _⟩, by repeat (first | exact Drawn0.refl _ | apply Drawn0.step)⟩
                  · rw [if_neg c14] at H
                    exact absurd H (by simp)
                · rw [if_neg c13] at H
                  have c13b0 : decide (x7_2 < (a0.size : Int)) = false := decide_eq_false c13
                  clear c13
                  (first | rw [c13b0] | (simp only [i64_w, i32_w]; rw [c13b0]) | skip)
                  as_aux_lemma =>
                    have H' := Aside0.mk H
                    clear H
                    go_wp2
                    go_meet
                    case rel => exact ⟨_, (false), (by first | rfl | (simp only [bytesLe_not]; done) | (simp; done) | (simp [*]; done)), H', ⟨by have := HJ3.out; have := HK2.out; first | omega | exact Nat.le_refl _⟩, by repeat (first | exact Drawn0.refl _ | apply Drawn0.step)⟩
              case rest =>
                clear HC12
                try clear c1
                try clear p1
                try clear q1
                try clear hx1
                try clear p2
                try clear c3
                try clear c4
                try clear c5
                try clear c5b0
                try clear c6
                try clear c6b0
                try clear p6
                try clear c7
                try clear c7b0
                try clear p8
                try clear q8
                try clear hx8
                try clear c9
                try clear c11
                try clear c11b0
                try clear c11b1
                try clear c13
                try clear c13b0
                try clear c14
                try clear c14b0
                try clear p15
                try clear q15
                try clear hx15
                try clear c16
                try clear c16b0
                try clear c16b1
                try clear p15
                try clear p2
                try clear p6
                try clear p8
                try clear q15
                try clear q8
                obtain ⟨kq, x47_11, rfl, HA, HJ11, ⟨mc11, rfl⟩⟩ := hcut
                cases kq with
                | zero => exact absurd HA.out (by simp [semver_zzParts.j2])
                | succ kj11 =>
                  have H := HA.out
                  clear HA
                  simp only [semver_zzParts.j2] at H
                  by_cases c18 : x47_11 = true
                  · subst c18
                    have H1 : ((semver_zzPart.f kj11 a0 (wrap64 (x7_2 + 1))).bind fun t146 => (semver_zzParts.l0 kj11 a0 t146)) = some r := by rw [if_pos rfl] at H; exact H
                    clear H
                    have H := H1
                    clear H1
                    replace H := Option.bind_eq_some_iff.mp H
                    obtain ⟨t146, A190, H⟩ := H
                    replace H : (semver_zzParts.l0 kj11 a0 t146) = some r := H
                    have A19 := Aside0.mk A190
                    clear A190
                    as_aux_lemma =>
                      have H' := Aside0.mk H
                      clear H
                      go_wp2_with (first | ((with_reducible refine gate_callee (f := 61) rfl ?_); refine goesL_ (some 51) rfl rfl Tryz.func61 (by kernel_rfl) rfl #[.string a0, .int .i64 (wrap64 (x7_2 + 1))] rfl (by (try simp only [List.map_toArray, List.map_cons, List.map_nil]); first | done | rfl | (simp only [List.length_drop, List.length_take]; rfl)) ?_; (with_reducible refine (semver_zzPart.calls kj11 a0 (wrap64 (x7_2 + 1)) t146 _ A19.out).mono ?_); rintro e w' ⟨rfl, ⟨nd, rfl⟩⟩; refine ⟨_, rfl, ?_⟩))
                      go_roundg kj11
                      case measure => have := HJ3.out; have := HK2.out; have := HJ11.out; omega
                      case rel => exact ⟨(t146), (by first | rfl | (simp only [bytesLe_not]; done) | (simp; done) | (simp [*]; done)), H', ⟨by have := HJ3.out; have := HK2.out; have := HJ11.out; omega⟩, by repeat (first | exact Drawn0.refl _ | apply Drawn0.step)⟩
                  · replace c18 := Bool.eq_false_iff.mpr c18
                    subst c18
                    have H1 : (some x7_2) = some r := by rw [if_neg (show ¬ (false = true) by decide)] at H; exact H
                    clear H
                    have H := H1
                    clear H1
                    as_aux_lemma =>
                      obtain rfl := Option.some.inj H
                      go_wp2
                      go_ret
                      exact ⟨by first | rfl | (simp only [bytesLe_not]; done) | (simp; done) | (simp [*]; done), by repeat (first | exact Drawn0.refl _ | apply Drawn0.step)⟩

-- NOT PRINTED: function 31 (semver_zzVersion)

/-! ### semver_zzIndex: function 33 -/
def semver_zzIndex.l0 : Nat → ByteArray → ByteArray → Int → Option (Int)
  | 0, _, _, _ => none
  | k + 1, x0, x1, x5 => if (wrap64 (x5 + (x1.size : Int))) ≤ (x0.size : Int) then (if 0 ≤ x5 then (if x5 ≤ (wrap64 (x5 + (x1.size : Int))) then (if (x0.extract (x5 : Int).toNat ((wrap64 (x5 + (x1.size : Int))) : Int).toNat).toList = x1.toList then (some x5) else (semver_zzIndex.l0 k x0 x1 (wrap64 (x5 + 1)))) else (none)) else (none)) else (some (-1))
def semver_zzIndex.f (k : Nat) (a0 : ByteArray) (a1 : ByteArray) : Option (Int) := semver_zzIndex.l0 k a0 a1 0
theorem semver_zzIndex.mono_l : ∀ k, (∀ y0 y1 y2, LeO (semver_zzIndex.l0 k y0 y1 y2) (semver_zzIndex.l0 (k + 1) y0 y1 y2))
  | 0 => fun _ _ _ r h => by simp [semver_zzIndex.l0] at h
  | k + 1 => by
    have ih0 := semver_zzIndex.mono_l k
    · intro y0 y1 y2
      unfold semver_zzIndex.l0
      repeat' first
      | (with_reducible exact ih0 _ _ _)
      | (with_reducible exact LeO.refl _)
      | (with_reducible exact LeO.none _)
      | (with_reducible refine LeO.ite ?_ ?_)
      | (with_reducible refine LeO.bind ?_ (fun _ => ?_))
      | exact ih0 _ _ _
      | exact LeO.none _
      | refine LeO.ite ?_ ?_
      | refine LeO.bind ?_ (fun _ => ?_)
theorem semver_zzIndex.mono : ∀ a0 a1 k, LeO (semver_zzIndex.f k a0 a1) (semver_zzIndex.f (k + 1) a0 a1) := by
  intro a0 a1 k
  have ih0 := semver_zzIndex.mono_l k
  unfold semver_zzIndex.f
  repeat' first
      | (with_reducible exact ih0 _ _ _)
      | (with_reducible exact LeO.refl _)
      | (with_reducible exact LeO.none _)
      | (with_reducible refine LeO.ite ?_ ?_)
      | (with_reducible refine LeO.bind ?_ (fun _ => ?_))
      | exact ih0 _ _ _
      | exact LeO.none _
      | refine LeO.ite ?_ ?_
      | refine LeO.bind ?_ (fun _ => ?_)
set_option maxHeartbeats 8000000 in
set_option maxRecDepth 100000 in
theorem semver_zzIndex.calls (k : Nat) (a0 : ByteArray) (a1 : ByteArray) (r : Int) (w : World) (h : semver_zzIndex.f k a0 a1 = some r) :
    Calls Tryz.prog 33 #[.string a0, .string a1] w fun e w' => e = .returned (.int .i64 r) ∧ Drawn0 w w' := by
  have H : (semver_zzIndex.l0 k a0 a1 0) = some r := h
  clear h
  have H' := Aside0.mk H
  clear H
  go_enter Tryz.func33, Tryz.ntmps33
  go_wp2
  go_loopg [5] k (fun kq v5 w' => ∃ (x5_1 : Int), v5 = .int .i64 x5_1 ∧ Aside0 (semver_zzIndex.l0 kq a0 a1 x5_1 = some r) ∧ Aside0 (kq ≤ k) ∧ Drawn0 w w')
  case atStart => exact ⟨(0), (by first | rfl | (simp only [bytesLe_not]; done) | (simp; done) | (simp [*]; done)), H', ⟨Nat.le_refl _⟩, by repeat (first | exact Drawn0.refl _ | apply Drawn0.step)⟩
  case round =>
    clear H'
    try clear p2
    obtain ⟨x5_1, rfl, HA, HK1, ⟨m1, rfl⟩⟩ := hrel
    cases gk with
    | zero => exact absurd HA.out (by simp [semver_zzIndex.l0])
    | succ k1 =>
      have H := HA.out
      clear HA
      simp only [semver_zzIndex.l0] at H
      by_cases c3 : (wrap64 (x5_1 + (a1.size : Int))) ≤ (a0.size : Int)
      · rw [if_pos c3] at H
        have c3b0 : decide ((wrap64 (x5_1 + (a1.size : Int))) ≤ (a0.size : Int)) = true := decide_eq_true c3
        clear c3
        by_cases c4 : 0 ≤ x5_1
        · rw [if_pos c4] at H
          have c4b0 := eq_true c4
          have c4b1 : decide (0 ≤ x5_1) = true := decide_eq_true c4
          clear c4
          by_cases c5 : x5_1 ≤ (wrap64 (x5_1 + (a1.size : Int)))
          · rw [if_pos c5] at H
            have c5b0 := eq_true c5
            have c5b1 : decide (x5_1 ≤ (wrap64 (x5_1 + (a1.size : Int)))) = true := decide_eq_true c5
            have c6b0 := eq_true (of_decide_eq_true (by first | (with_reducible assumption) | assumption) : (wrap64 (x5_1 + (a1.size : Int))) ≤ (a0.size : Int))
            by_cases c7 : (a0.extract (x5_1 : Int).toNat ((wrap64 (x5_1 + (a1.size : Int))) : Int).toNat).toList = a1.toList
            · rw [if_pos c7] at H
              have c7b0 : ((a0.extract (x5_1 : Int).toNat ((wrap64 (x5_1 + (a1.size : Int))) : Int).toNat).toList == a1.toList) = true := beq_iff_eq.mpr c7
              have c7b1 : ((a0.extract (x5_1 : Int).toNat ((wrap64 (x5_1 + (a1.size : Int))) : Int).toNat).toList != a1.toList) = false := bne_eq_false_iff_eq.mpr c7
              clear c7
              as_aux_lemma =>
                obtain rfl := Option.some.inj H
                go_wp2
                go_ret
                exact ⟨by first | rfl | (simp only [bytesLe_not]; done) | (simp; done) | (simp [*]; done), by repeat (first | exact Drawn0.refl _ | apply Drawn0.step)⟩
            · rw [if_neg c7] at H
              have c7b0 : ((a0.extract (x5_1 : Int).toNat ((wrap64 (x5_1 + (a1.size : Int))) : Int).toNat).toList == a1.toList) = false := beq_eq_false_iff_ne.mpr c7
              have c7b1 : ((a0.extract (x5_1 : Int).toNat ((wrap64 (x5_1 + (a1.size : Int))) : Int).toNat).toList != a1.toList) = true := bne_iff_ne.mpr c7
              as_aux_lemma =>
                have H' := Aside0.mk H
                clear H
                go_wp2
                go_roundg k1
                case measure => have := HK1.out; omega
                case rel => exact ⟨(wrap64 (x5_1 + 1)), (by first | rfl | (simp only [bytesLe_not]; done) | (simp; done) | (simp [*]; done)), H', ⟨by have := HK1.out; omega⟩, by repeat (first | exact Drawn0.refl _ | apply Drawn0.step)⟩
          · rw [if_neg c5] at H
            exact absurd H (by simp)
        · rw [if_neg c4] at H
          exact absurd H (by simp)
      · rw [if_neg c3] at H
        have c3b0 : decide ((wrap64 (x5_1 + (a1.size : Int))) ≤ (a0.size : Int)) = false := decide_eq_false c3
        clear c3
        as_aux_lemma =>
          obtain rfl := Option.some.inj H
          go_wp2
          go_ret
          exact ⟨by first | rfl | (simp only [bytesLe_not]; done) | (simp; done) | (simp [*]; done), by repeat (first | exact Drawn0.refl _ | apply Drawn0.step)⟩

-- NOT PRINTED: function 62 (utf8_decodeRuneInStringSlow)

end Go.Proofs.YtlhijjfbcgconaaGreatDoor.P

