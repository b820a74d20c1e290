-- WRITTEN by xprint.py (a program of this session, over the kit's print) out of the translation. Not trusted: Lean checks it.
import Derived.Test.YtlhijjfbcgconaaDoorZPx0
import Derived.Test.YtlhijjfbcgconaaDoorZPx1
namespace Go.Proofs.YtlhijjfbcgconaaDoor.P
open Go.RowKit Go.Proofs.YtlhijjfbcgconaaDoorW.PrintWords Go.Proofs.YtlhijjfbcgconaaDoorW.PrintLast Go.Proofs.YtlhijjfbcgconaaDoorW.PrintMore
attribute [local go_sem] max2_int min2_int max_two min_two max_three min_three max_four min_four run_store_float   -- for this text's walks alone
set_option linter.unusedVariables false
set_option linter.unusedSimpArgs false

/-! ### spec_sign: function 38 -/
def spec_sign.f (a0 : Int) : Option (Int) := if a0 < 0 then (some (-1)) else (some (mn a0 1))
set_option maxHeartbeats 8000000 in
set_option maxRecDepth 100000 in
theorem spec_sign.calls (a0 : Int) (r : Int) (w : World) (h : spec_sign.f a0 = some r) :
    Calls Tryd.prog 38 #[.int .i64 a0] w fun e w' => e = .returned (.int .i64 r) ∧ Below w.heap.size w w' := by
  have HB := Aside0.mk (Below.refl w.heap.size w)
  have H : (if a0 < 0 then (some (-1)) else (some (mn a0 1))) = some r := h
  clear h
  by_cases c2 : a0 < 0
  · rw [if_pos c2] at H
    have c2b0 : decide (a0 < 0) = true := decide_eq_true c2
    clear c2
    as_aux_lemma =>
      obtain rfl := Option.some.inj H
      go_enter Tryd.func38, Tryd.ntmps38
      go_wp2
      go_ret
      exact ⟨by first | rfl | (simp [errW_none, errW_some] <;> rfl) | (simp [*, errW_none, errW_some] <;> rfl), by repeat (first | (with_reducible first | exact HB.out | apply below_alloc | apply pw_below_drewN | apply below_drew1) | exact HB.out)⟩
  · rw [if_neg c2] at H
    have c2b0 : decide (a0 < 0) = false := decide_eq_false c2
    clear c2
    obtain ⟨ji3, hji3⟩ : ∃ j_ : Int, (mn a0 1) = j_ := ⟨_, rfl⟩
    replace H : (some ji3) = some r := by first | (rw [hji3] at H; exact H) | (simp only [hji3] at H ⊢; exact H)
    (try (have hji3h : ji3 ≤ 1 := by (rw [← hji3]; unfold mn; (repeat' split) <;> omega)))
    (try (have hji3g : ji3 ≤ 64 := by omega))
    have hji3_ : (if 1 < a0 then 1 else a0) = ji3 := hji3
    as_aux_lemma =>
      obtain rfl := Option.some.inj H
      go_enter Tryd.func38, Tryd.ntmps38
      go_wp2
      go_ret
      exact ⟨by first | rfl | (simp [errW_none, errW_some] <;> rfl) | (simp only [← hji3]; first | rfl | (simp [errW_none, errW_some] <;> rfl)) | (simp [*, errW_none, errW_some] <;> rfl), by repeat (first | (with_reducible first | exact HB.out | apply below_alloc | apply pw_below_drewN | apply below_drew1) | exact HB.out)⟩

/-! ### spec_identifier: function 37 -/
mutual
def spec_identifier.j0 : Nat → ByteArray → ByteArray → Bool → Bool → Bool → Option (Int)
  | 0, _, _, _, _, _ => none
  | k + 1, x0, x1, x5, x6, x15 => if x15 = true then (some (-1)) else (if x6 = true then (spec_identifier.j1 k x0 x1 x5 (!x5)) else (spec_identifier.j1 k x0 x1 x5 false))
def spec_identifier.j1 : Nat → ByteArray → ByteArray → Bool → Bool → Option (Int)
  | 0, _, _, _, _ => none
  | k + 1, x0, x1, x5, x21 => if x21 = true then (some 1) else (if x5 = true then (spec_identifier.j2 k x0 x1 ((x0.size : Int) != (x1.size : Int))) else (spec_identifier.j2 k x0 x1 false))
def spec_identifier.j2 : Nat → ByteArray → ByteArray → Bool → Option (Int)
  | 0, _, _, _ => none
  | k + 1, x0, x1, x27 => if x27 = true then ((spec_sign.f (wrap64 ((x0.size : Int) - (x1.size : Int)))).bind fun t211 => (some t211)) else (if (Op.bytesLess x0.toList x1.toList) = true then (some (-1)) else (some 1))
end
def spec_identifier.f (k : Nat) (a0 : ByteArray) (a1 : ByteArray) : Option (Int) := (spec_onlyDigits.f k a0).bind fun t209 => ((spec_onlyDigits.f k a1).bind fun t210 => (if a0.toList = a1.toList then (some 0) else (if t209 = true then (spec_identifier.j0 k a0 a1 t209 t210 (!t210)) else (spec_identifier.j0 k a0 a1 t209 t210 false))))
theorem spec_identifier.mono_l : ∀ k, (∀ y0 y1 y2 y3 y4, LeO (spec_identifier.j0 k y0 y1 y2 y3 y4) (spec_identifier.j0 (k + 1) y0 y1 y2 y3 y4)) ∧ (∀ y0 y1 y2 y3, LeO (spec_identifier.j1 k y0 y1 y2 y3) (spec_identifier.j1 (k + 1) y0 y1 y2 y3)) ∧ (∀ y0 y1 y2, LeO (spec_identifier.j2 k y0 y1 y2) (spec_identifier.j2 (k + 1) y0 y1 y2))
  | 0 => ⟨fun _ _ _ _ _ r h => by simp [spec_identifier.j0] at h, fun _ _ _ _ r h => by simp [spec_identifier.j1] at h, fun _ _ _ r h => by simp [spec_identifier.j2] at h⟩
  | k + 1 => by
    obtain ⟨ih0, ih1, ih2⟩ := spec_identifier.mono_l k
    refine ⟨?_, ?_, ?_⟩
    · intro y0 y1 y2 y3 y4
      unfold spec_identifier.j0
      repeat' first
      | (with_reducible exact ih0 _ _ _ _ _)
      | (with_reducible exact ih1 _ _ _ _)
      | (with_reducible exact ih2 _ _ _)
      | (with_reducible exact spec_onlyDigits.mono _ _)
      | (with_reducible exact LeO.refl _)
      | (with_reducible exact LeO.none _)
      | (with_reducible refine LeO.ite ?_ ?_)
      | (with_reducible refine LeO.bind ?_ (fun _ => ?_))
      | exact ih0 _ _ _ _ _
      | exact ih1 _ _ _ _
      | exact ih2 _ _ _
      | exact spec_onlyDigits.mono _ _
      | exact LeO.none _
      | refine LeO.ite ?_ ?_
      | refine LeO.bind ?_ (fun _ => ?_)
    · intro y0 y1 y2 y3
      unfold spec_identifier.j1
      repeat' first
      | (with_reducible exact ih0 _ _ _ _ _)
      | (with_reducible exact ih1 _ _ _ _)
      | (with_reducible exact ih2 _ _ _)
      | (with_reducible exact spec_onlyDigits.mono _ _)
      | (with_reducible exact LeO.refl _)
      | (with_reducible exact LeO.none _)
      | (with_reducible refine LeO.ite ?_ ?_)
      | (with_reducible refine LeO.bind ?_ (fun _ => ?_))
      | exact ih0 _ _ _ _ _
      | exact ih1 _ _ _ _
      | exact ih2 _ _ _
      | exact spec_onlyDigits.mono _ _
      | exact LeO.none _
      | refine LeO.ite ?_ ?_
      | refine LeO.bind ?_ (fun _ => ?_)
    · intro y0 y1 y2
      unfold spec_identifier.j2
      repeat' first
      | (with_reducible exact ih0 _ _ _ _ _)
      | (with_reducible exact ih1 _ _ _ _)
      | (with_reducible exact ih2 _ _ _)
      | (with_reducible exact spec_onlyDigits.mono _ _)
      | (with_reducible exact LeO.refl _)
      | (with_reducible exact LeO.none _)
      | (with_reducible refine LeO.ite ?_ ?_)
      | (with_reducible refine LeO.bind ?_ (fun _ => ?_))
      | exact ih0 _ _ _ _ _
      | exact ih1 _ _ _ _
      | exact ih2 _ _ _
      | exact spec_onlyDigits.mono _ _
      | exact LeO.none _
      | refine LeO.ite ?_ ?_
      | refine LeO.bind ?_ (fun _ => ?_)
theorem spec_identifier.mono : ∀ a0 a1 k, LeO (spec_identifier.f k a0 a1) (spec_identifier.f (k + 1) a0 a1) := by
  intro a0 a1 k
  obtain ⟨ih0, ih1, ih2⟩ := spec_identifier.mono_l k
  unfold spec_identifier.f
  repeat' first
      | (with_reducible exact ih0 _ _ _ _ _)
      | (with_reducible exact ih1 _ _ _ _)
      | (with_reducible exact ih2 _ _ _)
      | (with_reducible exact spec_onlyDigits.mono _ _)
      | (with_reducible exact LeO.refl _)
      | (with_reducible exact LeO.none _)
      | (with_reducible refine LeO.ite ?_ ?_)
      | (with_reducible refine LeO.bind ?_ (fun _ => ?_))
      | exact ih0 _ _ _ _ _
      | exact ih1 _ _ _ _
      | exact ih2 _ _ _
      | exact spec_onlyDigits.mono _ _
      | exact LeO.none _
      | refine LeO.ite ?_ ?_
      | refine LeO.bind ?_ (fun _ => ?_)
set_option maxHeartbeats 8000000 in
set_option maxRecDepth 100000 in
theorem spec_identifier.calls (k : Nat) (a0 : ByteArray) (a1 : ByteArray) (r : Int) (w : World) (h : spec_identifier.f k a0 a1 = some r) :
    Calls Tryd.prog 37 #[.string a0, .string a1] w fun e w' => e = .returned (.int .i64 r) ∧ Below w.heap.size w w' := by
  have HB := Aside0.mk (Below.refl w.heap.size w)
  have H : ((spec_onlyDigits.f k a0).bind fun t209 => ((spec_onlyDigits.f k a1).bind fun t210 => (if a0.toList = a1.toList then (some 0) else (if t209 = true then (spec_identifier.j0 k a0 a1 t209 t210 (!t210)) else (spec_identifier.j0 k a0 a1 t209 t210 false))))) = some r := h
  clear h
  replace H := Option.bind_eq_some_iff.mp H
  obtain ⟨t209, A30, H⟩ := H
  replace H : ((spec_onlyDigits.f k a1).bind fun t210 => (if a0.toList = a1.toList then (some 0) else (if t209 = true then (spec_identifier.j0 k a0 a1 t209 t210 (!t210)) else (spec_identifier.j0 k a0 a1 t209 t210 false)))) = some r := H
  have A3 := Aside0.mk A30
  clear A30
  replace H := Option.bind_eq_some_iff.mp H
  obtain ⟨t210, A40, H⟩ := H
  replace H : (if a0.toList = a1.toList then (some 0) else (if t209 = true then (spec_identifier.j0 k a0 a1 t209 t210 (!t210)) else (spec_identifier.j0 k a0 a1 t209 t210 false))) = some r := H
  have A4 := Aside0.mk A40
  clear A40
  by_cases c5 : a0.toList = a1.toList
  · rw [if_pos c5] at H
    have c5b0 : (a0.toList == a1.toList) = true := beq_iff_eq.mpr c5
    have c5b1 : (a0.toList != a1.toList) = false := bne_eq_false_iff_eq.mpr c5
    clear c5
    as_aux_lemma =>
      obtain rfl := Option.some.inj H
      go_enter Tryd.func37, Tryd.ntmps37
      go_wp2_with (first | ((with_reducible refine gate_callee (f := 50) rfl ?_); refine goesL_ (some 8) rfl rfl Tryd.func50 (by kernel_rfl) rfl #[.string a0] rfl (by (try simp only [List.map_toArray, List.map_cons, List.map_nil]); first | done | rfl | (simp only [List.length_drop, List.length_take]; rfl)) ?_; (with_reducible refine (spec_onlyDigits.calls k a0 t209 _ A3.out).mono ?_); rintro e w' ⟨rfl, ⟨nd, rfl⟩⟩; refine ⟨_, rfl, ?_⟩) | ((with_reducible refine gate_callee (f := 50) rfl ?_); refine goesL_ (some 10) rfl rfl Tryd.func50 (by kernel_rfl) rfl #[.string a1] rfl (by (try simp only [List.map_toArray, List.map_cons, List.map_nil]); first | done | rfl | (simp only [List.length_drop, List.length_take]; rfl)) ?_; (with_reducible refine (spec_onlyDigits.calls k a1 t210 _ A4.out).mono ?_); rintro e w' ⟨rfl, ⟨nd, rfl⟩⟩; refine ⟨_, rfl, ?_⟩))
      go_ret
      exact ⟨by first | rfl | (simp [errW_none, errW_some] <;> rfl) | (simp [*, errW_none, errW_some] <;> rfl), by repeat (first | (with_reducible first | exact HB.out | apply below_alloc | apply pw_below_drewN | apply below_drew1) | exact HB.out)⟩
  · rw [if_neg c5] at H
    have c5b0 : (a0.toList == a1.toList) = false := beq_eq_false_iff_ne.mpr c5
    have c5b1 : (a0.toList != a1.toList) = true := bne_iff_ne.mpr c5
    have HC6 := Aside0.mk H
    clear H
    go_enter Tryd.func37, Tryd.ntmps37
    go_upto_region 4 with (first | ((with_reducible refine gate_callee (f := 50) rfl ?_); refine goesL_ (some 8) rfl rfl Tryd.func50 (by kernel_rfl) rfl #[.string a0] rfl (by (try simp only [List.map_toArray, List.map_cons, List.map_nil]); first | done | rfl | (simp only [List.length_drop, List.length_take]; rfl)) ?_; (with_reducible refine (spec_onlyDigits.calls k a0 t209 _ A3.out).mono ?_); rintro e w' ⟨rfl, ⟨nd, rfl⟩⟩; refine ⟨_, rfl, ?_⟩) | ((with_reducible refine gate_callee (f := 50) rfl ?_); refine goesL_ (some 10) rfl rfl Tryd.func50 (by kernel_rfl) rfl #[.string a1] rfl (by (try simp only [List.map_toArray, List.map_cons, List.map_nil]); first | done | rfl | (simp only [List.length_drop, List.length_take]; rfl)) ?_; (with_reducible refine (spec_onlyDigits.calls k a1 t210 _ A4.out).mono ?_); rintro e w' ⟨rfl, ⟨nd, rfl⟩⟩; refine ⟨_, rfl, ?_⟩))
    (try simp only [Act.put, List.setIfInBounds_toArray, List.set_cons_zero, List.set_cons_succ])
    go_cut [15] (fun v15 wc => ∃ (kq : Nat) (x15_5 : Bool), v15 = .bool x15_5 ∧ Aside0 (spec_identifier.j0 kq a0 a1 t209 t210 x15_5 = some r) ∧ Aside0 (kq ≤ k) ∧ Aside0 (Below w.heap.size w wc))
    case first =>
      have H := HC6.out
      clear HC6
      by_cases c7 : t209 = true
      · subst c7
        have H1 : (spec_identifier.j0 k a0 a1 true t210 (!t210)) = some r := by rw [if_pos rfl] at H; exact H
        clear H
        have H := H1
        clear H1
        as_aux_lemma =>
          have H' := Aside0.mk H
          clear H
          go_wp2
          go_meet
          case rel => exact ⟨_, (!t210), (by first | rfl | (simp only [bytesLe_not]; done) | (simp; done) | (simp [*]; done)), H', ⟨by first | omega | exact Nat.le_refl _⟩, ⟨by repeat (first | (with_reducible first | exact HB.out | apply below_alloc | apply pw_below_drewN | apply below_drew1) | exact HB.out)⟩⟩
      · replace c7 := Bool.eq_false_iff.mpr c7
        subst c7
        have H1 : (spec_identifier.j0 k a0 a1 false t210 false) = some r := by rw [if_neg (show ¬ (false = true) by decide)] at H; exact H
        clear H
        have H := H1
        clear H1
        as_aux_lemma =>
          have H' := Aside0.mk H
          clear H
          go_wp2
          go_meet
          case rel => exact ⟨_, (false), (by first | rfl | (simp only [bytesLe_not]; done) | (simp; done) | (simp [*]; done)), H', ⟨by first | omega | exact Nat.le_refl _⟩, ⟨by repeat (first | (with_reducible first | exact HB.out | apply below_alloc | apply pw_below_drewN | apply below_drew1) | exact HB.out)⟩⟩
    case rest =>
      clear HC6
      try clear p2
      try clear c3
      try clear c5
      try clear c5b0
      try clear c5b1
      try clear c7
      obtain ⟨kq, x15_5, rfl, HA, HJ5, HB⟩ := hcut
      cases kq with
      | zero => exact absurd HA.out (by simp [spec_identifier.j0])
      | succ kj5 =>
        have H := HA.out
        clear HA
        simp only [spec_identifier.j0] at H
        by_cases c8 : x15_5 = true
        · subst c8
          have H1 : (some (-1)) = some r := by rw [if_pos rfl] at H; exact H
          clear H
          have H := H1
          clear H1
          as_aux_lemma =>
            obtain rfl := Option.some.inj H
            go_wp2
            go_ret
            exact ⟨by first | rfl | (simp [errW_none, errW_some] <;> rfl) | (simp [*, errW_none, errW_some] <;> rfl), by repeat (first | (with_reducible first | exact HB.out | apply below_alloc | apply pw_below_drewN | apply below_drew1) | exact HB.out)⟩
        · replace c8 := Bool.eq_false_iff.mpr c8
          subst c8
          have H1 : (if t210 = true then (spec_identifier.j1 kj5 a0 a1 t209 (!t209)) else (spec_identifier.j1 kj5 a0 a1 t209 false)) = some r := by rw [if_neg (show ¬ (false = true) by decide)] at H; exact H
          clear H
          have H := H1
          clear H1
          have HC9 := Aside0.mk H
          clear H
          go_upto_region 6 with (fail)
          go_cut [21] (fun v21 wc => ∃ (kq : Nat) (x21_8 : Bool), v21 = .bool x21_8 ∧ Aside0 (spec_identifier.j1 kq a0 a1 t209 x21_8 = some r) ∧ Aside0 (kq ≤ kj5) ∧ Aside0 (Below w.heap.size w wc))
          case first =>
            have H := HC9.out
            clear HC9
            by_cases c10 : t210 = true
            · subst c10
              have H1 : (spec_identifier.j1 kj5 a0 a1 t209 (!t209)) = some r := by rw [if_pos rfl] at H; exact H
              clear H
              have H := H1
              clear H1
              as_aux_lemma =>
                have H' := Aside0.mk H
                clear H
                go_wp2
                go_meet
                case rel => exact ⟨_, (!t209), (by first | rfl | (simp only [bytesLe_not]; done) | (simp; done) | (simp [*]; done)), H', ⟨by have := HJ5.out; first | omega | exact Nat.le_refl _⟩, ⟨by repeat (first | (with_reducible first | exact HB.out | apply below_alloc | apply pw_below_drewN | apply below_drew1) | exact HB.out)⟩⟩
            · replace c10 := Bool.eq_false_iff.mpr c10
              subst c10
              have H1 : (spec_identifier.j1 kj5 a0 a1 t209 false) = some r := by rw [if_neg (show ¬ (false = true) by decide)] at H; exact H
              clear H
              have H := H1
              clear H1
              as_aux_lemma =>
                have H' := Aside0.mk H
                clear H
                go_wp2
                go_meet
                case rel => exact ⟨_, (false), (by first | rfl | (simp only [bytesLe_not]; done) | (simp; done) | (simp [*]; done)), H', ⟨by have := HJ5.out; first | omega | exact Nat.le_refl _⟩, ⟨by repeat (first | (with_reducible first | exact HB.out | apply below_alloc | apply pw_below_drewN | apply below_drew1) | exact HB.out)⟩⟩
          case rest =>
            clear HC9
            try clear c1
            try clear p2
            try clear c3
            try clear c5
            try clear c5b0
            try clear c5b1
            try clear c7
            try clear c8
            try clear c10
            try clear p2
            obtain ⟨kq, x21_8, rfl, HA, HJ8, HB⟩ := hcut
            cases kq with
            | zero => exact absurd HA.out (by simp [spec_identifier.j1])
            | succ kj8 =>
              have H := HA.out
              clear HA
              simp only [spec_identifier.j1] at H
              by_cases c11 : x21_8 = true
              · subst c11
                have H1 : (some 1) = some r := by rw [if_pos rfl] at H; exact H
                clear H
                have H := H1
                clear H1
                as_aux_lemma =>
                  obtain rfl := Option.some.inj H
                  go_wp2
                  go_ret
                  exact ⟨by first | rfl | (simp [errW_none, errW_some] <;> rfl) | (simp [*, errW_none, errW_some] <;> rfl), by repeat (first | (with_reducible first | exact HB.out | apply below_alloc | apply pw_below_drewN | apply below_drew1) | exact HB.out)⟩
              · replace c11 := Bool.eq_false_iff.mpr c11
                subst c11
                have H1 : (if t209 = true then (spec_identifier.j2 kj8 a0 a1 ((a0.size : Int) != (a1.size : Int))) else (spec_identifier.j2 kj8 a0 a1 false)) = some r := by rw [if_neg (show ¬ (false = true) by decide)] at H; exact H
                clear H
                have H := H1
                clear H1
                have HC12 := Aside0.mk H
                clear H
                go_upto_region 8 with (fail)
                go_cut [27] (fun v27 wc => ∃ (kq : Nat) (x27_11 : Bool), v27 = .bool x27_11 ∧ Aside0 (spec_identifier.j2 kq a0 a1 x27_11 = some r) ∧ Aside0 (kq ≤ kj8) ∧ Aside0 (Below w.heap.size w wc))
                case first =>
                  have H := HC12.out
                  clear HC12
                  by_cases c13 : t209 = true
                  · subst c13
                    have H1 : (spec_identifier.j2 kj8 a0 a1 ((a0.size : Int) != (a1.size : Int))) = some r := by rw [if_pos rfl] at H; exact H
                    clear H
                    have H := H1
                    clear H1
                    as_aux_lemma =>
                      have H' := Aside0.mk H
                      clear H
                      go_wp2
                      go_meet
                      case rel => exact ⟨_, (((a0.size : Int) != (a1.size : Int))), (by first | rfl | (simp only [bytesLe_not]; done) | (simp; done) | (simp [*]; done)), H', ⟨by have := HJ5.out; have := HJ8.out; first | omega | exact Nat.le_refl _⟩, ⟨by repeat (first | (with_reducible first | exact HB.out | apply below_alloc | apply pw_below_drewN | apply below_drew1) | exact HB.out)⟩⟩
                  · replace c13 := Bool.eq_false_iff.mpr c13
                    subst c13
                    have H1 : (spec_identifier.j2 kj8 a0 a1 false) = some r := by rw [if_neg (show ¬ (false = true) by decide)] at H; exact H
                    clear H
                    have H := H1
                    clear H1
                    as_aux_lemma =>
                      have H' := Aside0.mk H
                      clear H
                      go_wp2
                      go_meet
                      case rel => exact ⟨_, (false), (by first | rfl | (simp only [bytesLe_not]; done) | (simp; done) | (simp [*]; done)), H', ⟨by have := HJ5.out; have := HJ8.out; first | omega | exact Nat.le_refl _⟩, ⟨by repeat (first | (with_reducible first | exact HB.out | apply below_alloc | apply pw_below_drewN | apply below_drew1) | exact HB.out)⟩⟩
                case rest =>
                  clear HC12
                  try clear c1
                  try clear p2
                  try clear c3
                  try clear c5
                  try clear c5b0
                  try clear c5b1
                  try clear c7
                  try clear c8
                  try clear c10
                  try clear c11
                  try clear c13
                  try clear p2
                  obtain ⟨kq, x27_11, rfl, HA, HJ11, HB⟩ := hcut
                  cases kq with
                  | zero => exact absurd HA.out (by simp [spec_identifier.j2])
                  | succ kj11 =>
                    have H := HA.out
                    clear HA
                    simp only [spec_identifier.j2] at H
                    by_cases c14 : x27_11 = true
                    · subst c14
                      have H1 : ((spec_sign.f (wrap64 ((a0.size : Int) - (a1.size : Int)))).bind fun t211 => (some t211)) = some r := by rw [if_pos rfl] at H; exact H
                      clear H
                      have H := H1
                      clear H1
                      replace H := Option.bind_eq_some_iff.mp H
                      obtain ⟨t211, A150, H⟩ := H
                      replace H : (some t211) = some r := H
                      have A15 := Aside0.mk A150
                      clear A150
                      as_aux_lemma =>
                        obtain rfl := Option.some.inj H
                        go_wp2_with (first | ((with_reducible refine gate_callee (f := 38) rfl ?_); refine goesL_ (some 41) rfl rfl Tryd.func38 (by kernel_rfl) rfl #[.int .i64 (wrap64 ((a0.size : Int) - (a1.size : Int)))] rfl (by (try simp only [List.map_toArray, List.map_cons, List.map_nil]); first | done | rfl | (simp only [List.length_drop, List.length_take]; rfl)) ?_; (with_reducible refine (spec_sign.calls (wrap64 ((a0.size : Int) - (a1.size : Int))) t211 _ A15.out).mono ?_); rintro e w16 ⟨rfl, hb⟩; refine ⟨_, rfl, ?_⟩; have n0_ := Aside0.mk (below_step (by repeat (first | (with_reducible first | exact HB.out | apply below_alloc | apply pw_below_drewN | apply below_drew1) | exact HB.out)) hb); clear HB; have HB := n0_; clear n0_; (try clear hb); (try clear hb2); (try clear hk); (try clear hi)))
                        go_ret
                        exact ⟨by first | rfl | (simp [errW_none, errW_some] <;> rfl) | (simp [*, errW_none, errW_some] <;> rfl), by repeat (first | (with_reducible first | exact HB.out | apply below_alloc | apply pw_below_drewN | apply below_drew1) | exact HB.out)⟩
                    · replace c14 := Bool.eq_false_iff.mpr c14
                      subst c14
                      have H1 : (if (Op.bytesLess a0.toList a1.toList) = true then (some (-1)) else (some 1)) = some r := by rw [if_neg (show ¬ (false = true) by decide)] at H; exact H
                      clear H
                      have H := H1
                      clear H1
                      by_cases c17 : (Op.bytesLess a0.toList a1.toList) = true
                      · rw [if_pos c17] at H
                        have c17b0 : (Op.bytesLess a0.toList a1.toList) = true := c17
                        clear c17
                        as_aux_lemma =>
                          obtain rfl := Option.some.inj H
                          go_wp2
                          go_ret
                          exact ⟨by first | rfl | (simp [errW_none, errW_some] <;> rfl) | (simp [*, errW_none, errW_some] <;> rfl), by repeat (first | (with_reducible first | exact HB.out | apply below_alloc | apply pw_below_drewN | apply below_drew1) | exact HB.out)⟩
                      · rw [if_neg c17] at H
                        have c17b0 : (Op.bytesLess a0.toList a1.toList) = false := by simpa using c17
                        clear c17
                        as_aux_lemma =>
                          obtain rfl := Option.some.inj H
                          go_wp2
                          go_ret
                          exact ⟨by first | rfl | (simp [errW_none, errW_some] <;> rfl) | (simp [*, errW_none, errW_some] <;> rfl), by repeat (first | (with_reducible first | exact HB.out | apply below_alloc | apply pw_below_drewN | apply below_drew1) | exact HB.out)⟩

-- NOT PRINTED: function 14 (spec_Whole)

-- NOT PRINTED: function 4 (laws_FnSemverOrder)

/-! ### spec_Digits: function 15 -/
def spec_Digits.l0 : Nat → ByteArray → Int → Int → Int → Option (Int)
  | 0, _, _, _, _ => none
  | k + 1, x0, x3, x4, x5 => if x5 < (x0.size : Int) then (if 0 ≤ x5 then (if (bt x0 x5) < 48 then (spec_Digits.l0 k x0 x3 0 (wrap64 (x5 + 1))) else (if (bt x0 x5) > 57 then (spec_Digits.l0 k x0 x3 0 (wrap64 (x5 + 1))) else (spec_Digits.l0 k x0 (mx x3 (wrap64 (x4 + 1))) (wrap64 (x4 + 1)) (wrap64 (x5 + 1))))) else (none)) else (some x3)
def spec_Digits.f (k : Nat) (a0 : ByteArray) : Option (Int) := spec_Digits.l0 k a0 0 0 0
theorem spec_Digits.mono_l : ∀ k, (∀ y0 y1 y2 y3, LeO (spec_Digits.l0 k y0 y1 y2 y3) (spec_Digits.l0 (k + 1) y0 y1 y2 y3))
  | 0 => fun _ _ _ _ r h => by simp [spec_Digits.l0] at h
  | k + 1 => by
    have ih0 := spec_Digits.mono_l k
    · intro y0 y1 y2 y3
      unfold spec_Digits.l0
      repeat' first
      | (with_reducible exact ih0 _ _ _ _)
      | (with_reducible exact LeO.refl _)
      | (with_reducible exact LeO.none _)
      | (with_reducible refine LeO.ite ?_ ?_)
      | (with_reducible refine LeO.bind ?_ (fun _ => ?_))
      | exact ih0 _ _ _ _
      | exact LeO.none _
      | refine LeO.ite ?_ ?_
      | refine LeO.bind ?_ (fun _ => ?_)
theorem spec_Digits.mono : ∀ a0 k, LeO (spec_Digits.f k a0) (spec_Digits.f (k + 1) a0) := by
  intro a0 k
  have ih0 := spec_Digits.mono_l k
  unfold spec_Digits.f
  repeat' first
      | (with_reducible exact ih0 _ _ _ _)
      | (with_reducible exact LeO.refl _)
      | (with_reducible exact LeO.none _)
      | (with_reducible refine LeO.ite ?_ ?_)
      | (with_reducible refine LeO.bind ?_ (fun _ => ?_))
      | exact ih0 _ _ _ _
      | exact LeO.none _
      | refine LeO.ite ?_ ?_
      | refine LeO.bind ?_ (fun _ => ?_)
set_option maxHeartbeats 8000000 in
set_option maxRecDepth 100000 in
theorem spec_Digits.calls (k : Nat) (a0 : ByteArray) (r : Int) (w : World) (h : spec_Digits.f k a0 = some r) :
    Calls Tryd.prog 15 #[.string a0] w fun e w' => e = .returned (.int .i64 r) ∧ Below w.heap.size w w' := by
  have HB := Aside0.mk (Below.refl w.heap.size w)
  have H : (spec_Digits.l0 k a0 0 0 0) = some r := h
  clear h
  have H' := Aside0.mk H
  clear H
  go_enter Tryd.func15, Tryd.ntmps15
  go_wp2
  go_loopg [3, 4, 5] k (fun kq v3 v4 v5 w' => ∃ (x3_1 : Int) (x4_1 : Int) (x5_1 : Int), v3 = .int .i64 x3_1 ∧ v4 = .int .i64 x4_1 ∧ v5 = .int .i64 x5_1 ∧ Aside0 (spec_Digits.l0 kq a0 x3_1 x4_1 x5_1 = some r) ∧ Aside0 (kq ≤ k) ∧ Aside0 (Below w.heap.size w w'))
  case atStart => exact ⟨(0), (0), (0), (by first | rfl | (simp only [bytesLe_not]; done) | (simp; done) | (simp [*]; done)), (by first | rfl | (simp only [bytesLe_not]; done) | (simp; done) | (simp [*]; done)), (by first | rfl | (simp only [bytesLe_not]; done) | (simp; done) | (simp [*]; done)), H', ⟨Nat.le_refl _⟩, ⟨by repeat (first | (with_reducible first | exact HB.out | apply below_alloc | apply pw_below_drewN | apply below_drew1) | exact HB.out)⟩⟩
  case round =>
    clear H'
    try clear c1
    obtain ⟨x3_1, x4_1, x5_1, rfl, rfl, rfl, HA, HK1, HB⟩ := hrel
    cases gk with
    | zero => exact absurd HA.out (by simp [spec_Digits.l0])
    | succ k1 =>
      have H := HA.out
      clear HA
      simp only [spec_Digits.l0] at H
      by_cases c2 : x5_1 < (a0.size : Int)
      · rw [if_pos c2] at H
        have c2b0 : decide (x5_1 < (a0.size : Int)) = true := decide_eq_true c2
        clear c2
        by_cases c3 : 0 ≤ x5_1
        · rw [if_pos c3] at H
          have c3b0 : decide (0 ≤ x5_1) = true := decide_eq_true c3
          clear c3
          by_cases c5 : (bt a0 x5_1) < 48
          · rw [if_pos c5] at H
            have c5b0 : decide ((bt a0 x5_1) < 48) = true := decide_eq_true c5
            clear c5
            as_aux_lemma =>
              have H' := Aside0.mk H
              clear H
              have p4 : 0 ≤ (x5_1 : Int) := of_decide_eq_true (by first | (with_reducible assumption) | assumption)
              have q4 : x5_1 < (a0.size : Int) := of_decide_eq_true (by first | (with_reducible assumption) | assumption)
              have hx4 := bt_at a0 x5_1
              replace p4 := eq_true p4
              replace q4 := eq_true q4
              go_wp2
              go_roundg k1
              case measure => have := HK1.out; omega
              case rel => exact ⟨(x3_1), (0), (wrap64 (x5_1 + 1)), (by first | rfl | (simp only [bytesLe_not]; done) | (simp; done) | (simp [*]; done)), (by first | rfl | (simp only [bytesLe_not]; done) | (simp; done) | (simp [*]; done)), (by first | rfl | (simp only [bytesLe_not]; done) | (simp; done) | (simp [*]; done)), H', ⟨by have := HK1.out; omega⟩, ⟨by repeat (first | (with_reducible first | exact HB.out | apply below_alloc | apply pw_below_drewN | apply below_drew1) | exact HB.out)⟩⟩
          · rw [if_neg c5] at H
            have c5b0 : decide ((bt a0 x5_1) < 48) = false := decide_eq_false c5
            clear c5
            by_cases c7 : (bt a0 x5_1) > 57
            · rw [if_pos c7] at H
              have c7b0 : decide (57 < (bt a0 x5_1)) = true := decide_eq_true c7
              clear c7
              as_aux_lemma =>
                have H' := Aside0.mk H
                clear H
                have p4 : 0 ≤ (x5_1 : Int) := of_decide_eq_true (by first | (with_reducible assumption) | assumption)
                have q4 : x5_1 < (a0.size : Int) := of_decide_eq_true (by first | (with_reducible assumption) | assumption)
                have hx4 := bt_at a0 x5_1
                replace p4 := eq_true p4
                replace q4 := eq_true q4
                have p6 : 0 ≤ (x5_1 : Int) := of_decide_eq_true (by first | (with_reducible assumption) | assumption)
                have q6 : x5_1 < (a0.size : Int) := of_decide_eq_true (by first | (with_reducible assumption) | assumption)
                have hx6 := bt_at a0 x5_1
                replace p6 := eq_true p6
                replace q6 := eq_true q6
                go_wp2
                go_roundg k1
                case measure => have := HK1.out; omega
                case rel => exact ⟨(x3_1), (0), (wrap64 (x5_1 + 1)), (by first | rfl | (simp only [bytesLe_not]; done) | (simp; done) | (simp [*]; done)), (by first | rfl | (simp only [bytesLe_not]; done) | (simp; done) | (simp [*]; done)), (by first | rfl | (simp only [bytesLe_not]; done) | (simp; done) | (simp [*]; done)), H', ⟨by have := HK1.out; omega⟩, ⟨by repeat (first | (with_reducible first | exact HB.out | apply below_alloc | apply pw_below_drewN | apply below_drew1) | exact HB.out)⟩⟩
            · rw [if_neg c7] at H
              have c7b0 : decide (57 < (bt a0 x5_1)) = false := decide_eq_false c7
              clear c7
              obtain ⟨ji8, hji8⟩ : ∃ j_ : Int, (mx x3_1 (wrap64 (x4_1 + 1))) = j_ := ⟨_, rfl⟩
              replace H : (spec_Digits.l0 k1 a0 ji8 (wrap64 (x4_1 + 1)) (wrap64 (x5_1 + 1))) = some r := by first | (rw [hji8] at H; exact H) | (simp only [hji8] at H ⊢; exact H)
              have hji8_ : (if x3_1 < (wrap64 (x4_1 + 1)) then (wrap64 (x4_1 + 1)) else x3_1) = ji8 := hji8
              as_aux_lemma =>
                have H' := Aside0.mk H
                clear H
                have p4 : 0 ≤ (x5_1 : Int) := of_decide_eq_true (by first | (with_reducible assumption) | assumption)
                have q4 : x5_1 < (a0.size : Int) := of_decide_eq_true (by first | (with_reducible assumption) | assumption)
                have hx4 := bt_at a0 x5_1
                replace p4 := eq_true p4
                replace q4 := eq_true q4
                have p6 : 0 ≤ (x5_1 : Int) := of_decide_eq_true (by first | (with_reducible assumption) | assumption)
                have q6 : x5_1 < (a0.size : Int) := of_decide_eq_true (by first | (with_reducible assumption) | assumption)
                have hx6 := bt_at a0 x5_1
                replace p6 := eq_true p6
                replace q6 := eq_true q6
                go_wp2
                go_roundg k1
                case measure => have := HK1.out; omega
                case rel => exact ⟨(ji8), (wrap64 (x4_1 + 1)), (wrap64 (x5_1 + 1)), (by first | rfl | (simp only [bytesLe_not]; done) | (simp; done) | (simp only [← hji8] <;> (first | rfl | simp)) | (simp [*]; done)), (by first | rfl | (simp only [bytesLe_not]; done) | (simp; done) | (simp [*]; done)), (by first | rfl | (simp only [bytesLe_not]; done) | (simp; done) | (simp [*]; done)), H', ⟨by have := HK1.out; omega⟩, ⟨by repeat (first | (with_reducible first | exact HB.out | apply below_alloc | apply pw_below_drewN | apply below_drew1) | exact HB.out)⟩⟩
        · rw [if_neg c3] at H
          exact absurd H (by simp)
      · rw [if_neg c2] at H
        have c2b0 : decide (x5_1 < (a0.size : Int)) = false := decide_eq_false c2
        clear c2
        as_aux_lemma =>
          obtain rfl := Option.some.inj H
          go_wp2
          go_ret
          exact ⟨by first | rfl | (simp [errW_none, errW_some] <;> rfl) | (simp [*, errW_none, errW_some] <;> rfl), by repeat (first | (with_reducible first | exact HB.out | apply below_alloc | apply pw_below_drewN | apply below_drew1) | exact HB.out)⟩

-- NOT PRINTED: function 80 (utf8_decodeRuneInStringSlow)

end Go.Proofs.YtlhijjfbcgconaaDoor.P

