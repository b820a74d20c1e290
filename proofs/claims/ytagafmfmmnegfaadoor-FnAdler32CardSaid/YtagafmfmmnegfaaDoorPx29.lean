-- WRITTEN by xprint.py (a program of this session, over the kit's print) out of the translation. Not trusted: Lean checks it.
import Derived.Test.YtagafmfmmnegfaaDoorPx0
import Derived.Test.YtagafmfmmnegfaaDoorPx24
import Derived.Test.YtagafmfmmnegfaaDoorPx28
namespace Go.Proofs.YtagafmfmmnegfaaDoor.P
open Go.RowKit Go.Proofs.YtagafmfmmnegfaaDoorW.PrintWords Go.Proofs.YtagafmfmmnegfaaDoorW.PrintLast Go.Proofs.YtagafmfmmnegfaaDoorW.PrintMore
attribute [local go_sem] max2_int min2_int max_two min_two max_three min_three max_four min_four   -- for this text's walks alone
set_option linter.unusedVariables false
set_option linter.unusedSimpArgs false

/-! ### laws_FnDiv: function 10 -/
def laws_FnDiv.j0 : Nat → Int → Int → Bool → Option (Bool)
  | 0, _, _, _ => none
  | k + 1, x0, x1, x18 => if x18 = true then (some true) else ((impl_Div.f x0 x1).bind fun bt128 => ((impl_Mod.f x0 x1).bind fun bt130 => (if bt128.2 = true then (if bt130.2 = true then (if x1 = 0 then (none) else (if bt128.1 = (wrap64 (Int.tdiv x0 x1)) then (if bt130.1 = (Int.tmod x0 x1) then (some ((wrap64 ((wrap64 (bt128.1 * x1)) + bt130.1)) == x0)) else (some false)) else (some false))) else (some false)) else (some false))))
def laws_FnDiv.f (k : Nat) (a0 : Int) (a1 : Int) : Option (Bool) := if a1 = 0 then (laws_FnDiv.j0 k a0 a1 true) else (if a0 = (-9223372036854775808) then (laws_FnDiv.j0 k a0 a1 (a1 == (-1))) else (laws_FnDiv.j0 k a0 a1 false))
theorem laws_FnDiv.mono_l : ∀ k, (∀ y0 y1 y2, LeO (laws_FnDiv.j0 k y0 y1 y2) (laws_FnDiv.j0 (k + 1) y0 y1 y2))
  | 0 => fun _ _ _ r h => by simp [laws_FnDiv.j0] at h
  | k + 1 => by
    have ih0 := laws_FnDiv.mono_l k
    · intro y0 y1 y2
      unfold laws_FnDiv.j0
      repeat' first
      | (with_reducible exact ih0 _ _ _)
      | (with_reducible exact LeO.refl _)
      | (with_reducible exact LeO.none _)
      | (with_reducible refine LeO.ite ?_ ?_)
      | (with_reducible refine LeO.bind ?_ (fun _ => ?_))
      | exact ih0 _ _ _
      | exact LeO.none _
      | refine LeO.ite ?_ ?_
      | refine LeO.bind ?_ (fun _ => ?_)
theorem laws_FnDiv.mono : ∀ a0 a1 k, LeO (laws_FnDiv.f k a0 a1) (laws_FnDiv.f (k + 1) a0 a1) := by
  intro a0 a1 k
  have ih0 := laws_FnDiv.mono_l k
  unfold laws_FnDiv.f
  repeat' first
      | (with_reducible exact ih0 _ _ _)
      | (with_reducible exact LeO.refl _)
      | (with_reducible exact LeO.none _)
      | (with_reducible refine LeO.ite ?_ ?_)
      | (with_reducible refine LeO.bind ?_ (fun _ => ?_))
      | exact ih0 _ _ _
      | exact LeO.none _
      | refine LeO.ite ?_ ?_
      | refine LeO.bind ?_ (fun _ => ?_)
set_option maxHeartbeats 8000000 in
set_option maxRecDepth 100000 in
theorem laws_FnDiv.calls (k : Nat) (a0 : Int) (a1 : Int) (r : Bool) (w : World) (h : laws_FnDiv.f k a0 a1 = some r) :
    Calls Tryd.prog 10 #[.int .i64 a0, .int .i64 a1] w fun e w' => e = .returned (.bool r) ∧ Below w.heap.size w w' := by
  have HB := Aside0.mk (Below.refl w.heap.size w)
  have H : (if a1 = 0 then (laws_FnDiv.j0 k a0 a1 true) else (if a0 = (-9223372036854775808) then (laws_FnDiv.j0 k a0 a1 (a1 == (-1))) else (laws_FnDiv.j0 k a0 a1 false))) = some r := h
  clear h
  have HC3 := Aside0.mk H
  clear H
  go_enter Tryd.func10, Tryd.ntmps10
  go_upto_region 1 with (fail)
  go_cut [18] (fun v18 wc => ∃ (kq : Nat) (x18_2 : Bool), v18 = .bool x18_2 ∧ Aside0 (laws_FnDiv.j0 kq a0 a1 x18_2 = some r) ∧ Aside0 (kq ≤ k) ∧ Aside0 (Below w.heap.size w wc))
  case first =>
    have H := HC3.out
    clear HC3
    by_cases c4 : a1 = 0
    · rw [if_pos c4] at H
      have c4b0 : (a1 == 0) = true := beq_iff_eq.mpr c4
      have c4b1 : (a1 != 0) = false := bne_eq_false_iff_eq.mpr c4
      clear c4
      (first | rw [c4b0] | (simp only [i64_w, i32_w]; rw [c4b0]) | skip)
      have H' := Aside0.mk H
      clear H
      go_wp2
      go_meet
      case rel => exact ⟨_, (true), (by first | rfl | (simp; done) | (simp [*]; done)), H', ⟨by first | omega | exact Nat.le_refl _⟩, ⟨by repeat (first | (with_reducible first | exact HB.out | apply below_alloc | apply pw_below_drewN | apply below_drew1) | exact HB.out)⟩⟩
    · rw [if_neg c4] at H
      have c4b0 : (a1 == 0) = false := beq_eq_false_iff_ne.mpr c4
      have c4b1 : (a1 != 0) = true := bne_iff_ne.mpr c4
      (first | rw [c4b0] | (simp only [i64_w, i32_w]; rw [c4b0]) | skip)
      by_cases c5 : a0 = (-9223372036854775808)
      · rw [if_pos c5] at H
        have c5b0 : (a0 == (-9223372036854775808)) = true := beq_iff_eq.mpr c5
        have c5b1 : (a0 != (-9223372036854775808)) = false := bne_eq_false_iff_eq.mpr c5
        clear c5
        have H' := Aside0.mk H
        clear H
        go_wp2
        go_meet
        case rel => exact ⟨_, ((a1 == (-1))), (by first | rfl | (simp; done) | (simp [*]; done)), H', ⟨by first | omega | exact Nat.le_refl _⟩, ⟨by repeat (first | (with_reducible first | exact HB.out | apply below_alloc | apply pw_below_drewN | apply below_drew1) | exact HB.out)⟩⟩
      · rw [if_neg c5] at H
        have c5b0 : (a0 == (-9223372036854775808)) = false := beq_eq_false_iff_ne.mpr c5
        have c5b1 : (a0 != (-9223372036854775808)) = true := bne_iff_ne.mpr c5
        have H' := Aside0.mk H
        clear H
        go_wp2
        go_meet
        case rel => exact ⟨_, (false), (by first | rfl | (simp; done) | (simp [*]; done)), H', ⟨by first | omega | exact Nat.le_refl _⟩, ⟨by repeat (first | (with_reducible first | exact HB.out | apply below_alloc | apply pw_below_drewN | apply below_drew1) | exact HB.out)⟩⟩
  case rest =>
    clear HC3
    try clear c1
    try clear p2
    try clear c4
    try clear c4b0
    try clear c4b1
    try clear c5
    try clear c5b0
    try clear c5b1
    obtain ⟨kq, x18_2, rfl, HA, HJ2, HB⟩ := hcut
    cases kq with
    | zero => exact absurd HA.out (by simp [laws_FnDiv.j0])
    | succ kj2 =>
      have H := HA.out
      clear HA
      simp only [laws_FnDiv.j0] at H
      by_cases c6 : x18_2 = true
      · subst c6
        have H1 : (some true) = some r := by rw [if_pos rfl] at H; exact H
        clear H
        have H := H1
        clear H1
        obtain rfl := Option.some.inj H
        go_wp2
        go_ret
        exact ⟨by first | rfl | (simp [errW_none, errW_some] <;> rfl) | (simp [*, errW_none, errW_some] <;> rfl), by repeat (first | (with_reducible first | exact HB.out | apply below_alloc | apply pw_below_drewN | apply below_drew1) | exact HB.out)⟩
      · replace c6 := Bool.eq_false_iff.mpr c6
        subst c6
        have H1 : ((impl_Div.f a0 a1).bind fun bt128 => ((impl_Mod.f a0 a1).bind fun bt130 => (if bt128.2 = true then (if bt130.2 = true then (if a1 = 0 then (none) else (if bt128.1 = (wrap64 (Int.tdiv a0 a1)) then (if bt130.1 = (Int.tmod a0 a1) then (some ((wrap64 ((wrap64 (bt128.1 * a1)) + bt130.1)) == a0)) else (some false)) else (some false))) else (some false)) else (some false)))) = some r := by rw [if_neg (show ¬ (false = true) by decide)] at H; exact H
        clear H
        have H := H1
        clear H1
        replace H := Option.bind_eq_some_iff.mp H
        obtain ⟨⟨t128, t129⟩, A70, H⟩ := H
        replace H : ((impl_Mod.f a0 a1).bind fun bt130 => (if t129 = true then (if bt130.2 = true then (if a1 = 0 then (none) else (if t128 = (wrap64 (Int.tdiv a0 a1)) then (if bt130.1 = (Int.tmod a0 a1) then (some ((wrap64 ((wrap64 (t128 * a1)) + bt130.1)) == a0)) else (some false)) else (some false))) else (some false)) else (some false))) = some r := H
        have A7 := Aside0.mk A70
        clear A70
        replace H := Option.bind_eq_some_iff.mp H
        obtain ⟨⟨t130, t131⟩, A80, H⟩ := H
        replace H : (if t129 = true then (if t131 = true then (if a1 = 0 then (none) else (if t128 = (wrap64 (Int.tdiv a0 a1)) then (if t130 = (Int.tmod a0 a1) then (some ((wrap64 ((wrap64 (t128 * a1)) + t130)) == a0)) else (some false)) else (some false))) else (some false)) else (some false)) = some r := H
        have A8 := Aside0.mk A80
        clear A80
        by_cases c9 : t129 = true
        · subst c9
          have H1 : (if t131 = true then (if a1 = 0 then (none) else (if t128 = (wrap64 (Int.tdiv a0 a1)) then (if t130 = (Int.tmod a0 a1) then (some ((wrap64 ((wrap64 (t128 * a1)) + t130)) == a0)) else (some false)) else (some false))) else (some false)) = some r := by rw [if_pos rfl] at H; exact H
          clear H
          have H := H1
          clear H1
          by_cases c10 : t131 = true
          · subst c10
            have H1 : (if a1 = 0 then (none) else (if t128 = (wrap64 (Int.tdiv a0 a1)) then (if t130 = (Int.tmod a0 a1) then (some ((wrap64 ((wrap64 (t128 * a1)) + t130)) == a0)) else (some false)) else (some false))) = some r := by rw [if_pos rfl] at H; exact H
            clear H
            have H := H1
            clear H1
            by_cases c11 : a1 = 0
            · rw [if_pos c11] at H
              exact absurd H (by simp)
            · rw [if_neg c11] at H
              have c11b0 : (a1 == 0) = false := beq_eq_false_iff_ne.mpr c11
              have c11b1 : (a1 != 0) = true := bne_iff_ne.mpr c11
              by_cases c12 : t128 = (wrap64 (Int.tdiv a0 a1))
              · rw [if_pos c12] at H
                have c12b0 : (t128 == (wrap64 (Int.tdiv a0 a1))) = true := beq_iff_eq.mpr c12
                have c12b1 : (t128 != (wrap64 (Int.tdiv a0 a1))) = false := bne_eq_false_iff_eq.mpr c12
                clear c12
                by_cases c13 : t130 = (Int.tmod a0 a1)
                · rw [if_pos c13] at H
                  have c13b0 : (t130 == (Int.tmod a0 a1)) = true := beq_iff_eq.mpr c13
                  have c13b1 : (t130 != (Int.tmod a0 a1)) = false := bne_eq_false_iff_eq.mpr c13
                  clear c13
                  obtain rfl := Option.some.inj H
                  go_wp2_with (first | ((with_reducible refine gate_callee (f := 39) rfl ?_); refine goesL_ (some 22) rfl rfl Tryd.func39 (by kernel_rfl) rfl #[.int .i64 a0, .int .i64 a1] rfl (by (try simp only [List.map_toArray, List.map_cons, List.map_nil]); first | done | rfl | (simp only [List.length_drop, List.length_take]; rfl)) ?_; (with_reducible refine (impl_Div.calls a0 a1 t128 true _ A7.out).mono ?_); rintro e w14 ⟨rfl, hb⟩; refine ⟨_, rfl, ?_⟩; have n0_ := Aside0.mk (below_step (by repeat (first | (with_reducible first | exact HB.out | apply below_alloc | apply pw_below_drewN | apply below_drew1) | exact HB.out)) hb); clear HB; have HB := n0_; clear n0_; (try clear hb); (try clear hb2); (try clear hk); (try clear hi)) | ((with_reducible refine gate_callee (f := 40) rfl ?_); refine goesL_ (some 28) rfl rfl Tryd.func40 (by kernel_rfl) rfl #[.int .i64 a0, .int .i64 a1] rfl (by (try simp only [List.map_toArray, List.map_cons, List.map_nil]); first | done | rfl | (simp only [List.length_drop, List.length_take]; rfl)) ?_; (with_reducible refine (impl_Mod.calls a0 a1 t130 true _ A8.out).mono ?_); rintro e w15 ⟨rfl, hb⟩; refine ⟨_, rfl, ?_⟩; have n0_ := Aside0.mk (below_step (by repeat (first | (with_reducible first | exact HB.out | apply below_alloc | apply pw_below_drewN | apply below_drew1) | exact HB.out)) hb); clear HB; have HB := n0_; clear n0_; (try clear hb); (try clear hb2); (try clear hk); (try clear hi)))
                  go_ret
                  exact ⟨by first | rfl | (simp [errW_none, errW_some] <;> rfl) | (simp [*, errW_none, errW_some] <;> rfl), by repeat (first | (with_reducible first | exact HB.out | apply below_alloc | apply pw_below_drewN | apply below_drew1) | exact HB.out)⟩
                · rw [if_neg c13] at H
                  have c13b0 : (t130 == (Int.tmod a0 a1)) = false := beq_eq_false_iff_ne.mpr c13
                  have c13b1 : (t130 != (Int.tmod a0 a1)) = true := bne_iff_ne.mpr c13
                  obtain rfl := Option.some.inj H
                  go_wp2_with (first | ((with_reducible refine gate_callee (f := 39) rfl ?_); refine goesL_ (some 22) rfl rfl Tryd.func39 (by kernel_rfl) rfl #[.int .i64 a0, .int .i64 a1] rfl (by (try simp only [List.map_toArray, List.map_cons, List.map_nil]); first | done | rfl | (simp only [List.length_drop, List.length_take]; rfl)) ?_; (with_reducible refine (impl_Div.calls a0 a1 t128 true _ A7.out).mono ?_); rintro e w16 ⟨rfl, hb⟩; refine ⟨_, rfl, ?_⟩; have n0_ := Aside0.mk (below_step (by repeat (first | (with_reducible first | exact HB.out | apply below_alloc | apply pw_below_drewN | apply below_drew1) | exact HB.out)) hb); clear HB; have HB := n0_; clear n0_; (try clear hb); (try clear hb2); (try clear hk); (try clear hi)) | ((with_reducible refine gate_callee (f := 40) rfl ?_); refine goesL_ (some 28) rfl rfl Tryd.func40 (by kernel_rfl) rfl #[.int .i64 a0, .int .i64 a1] rfl (by (try simp only [List.map_toArray, List.map_cons, List.map_nil]); first | done | rfl | (simp only [List.length_drop, List.length_take]; rfl)) ?_; (with_reducible refine (impl_Mod.calls a0 a1 t130 true _ A8.out).mono ?_); rintro e w17 ⟨rfl, hb⟩; refine ⟨_, rfl, ?_⟩; have n0_ := Aside0.mk (below_step (by repeat (first | (with_reducible first | exact HB.out | apply below_alloc | apply pw_below_drewN | apply below_drew1) | exact HB.out)) hb); clear HB; have HB := n0_; clear n0_; (try clear hb); (try clear hb2); (try clear hk); (try clear hi)))
                  go_ret
                  exact ⟨by first | rfl | (simp [errW_none, errW_some] <;> rfl) | (simp [*, errW_none, errW_some] <;> rfl), by repeat (first | (with_reducible first | exact HB.out | apply below_alloc | apply pw_below_drewN | apply below_drew1) | exact HB.out)⟩
              · rw [if_neg c12] at H
                have c12b0 : (t128 == (wrap64 (Int.tdiv a0 a1))) = false := beq_eq_false_iff_ne.mpr c12
                have c12b1 : (t128 != (wrap64 (Int.tdiv a0 a1))) = true := bne_iff_ne.mpr c12
                obtain rfl := Option.some.inj H
                go_wp2_with (first | ((with_reducible refine gate_callee (f := 39) rfl ?_); refine goesL_ (some 22) rfl rfl Tryd.func39 (by kernel_rfl) rfl #[.int .i64 a0, .int .i64 a1] rfl (by (try simp only [List.map_toArray, List.map_cons, List.map_nil]); first | done | rfl | (simp only [List.length_drop, List.length_take]; rfl)) ?_; (with_reducible refine (impl_Div.calls a0 a1 t128 true _ A7.out).mono ?_); rintro e w18 ⟨rfl, hb⟩; refine ⟨_, rfl, ?_⟩; have n0_ := Aside0.mk (below_step (by repeat (first | (with_reducible first | exact HB.out | apply below_alloc | apply pw_below_drewN | apply below_drew1) | exact HB.out)) hb); clear HB; have HB := n0_; clear n0_; (try clear hb); (try clear hb2); (try clear hk); (try clear hi)) | ((with_reducible refine gate_callee (f := 40) rfl ?_); refine goesL_ (some 28) rfl rfl Tryd.func40 (by kernel_rfl) rfl #[.int .i64 a0, .int .i64 a1] rfl (by (try simp only [List.map_toArray, List.map_cons, List.map_nil]); first | done | rfl | (simp only [List.length_drop, List.length_take]; rfl)) ?_; (with_reducible refine (impl_Mod.calls a0 a1 t130 true _ A8.out).mono ?_); rintro e w19 ⟨rfl, hb⟩; refine ⟨_, rfl, ?_⟩; have n0_ := Aside0.mk (below_step (by repeat (first | (with_reducible first | exact HB.out | apply below_alloc | apply pw_below_drewN | apply below_drew1) | exact HB.out)) hb); clear HB; have HB := n0_; clear n0_; (try clear hb); (try clear hb2); (try clear hk); (try clear hi)))
                go_ret
                exact ⟨by first | rfl | (simp [errW_none, errW_some] <;> rfl) | (simp [*, errW_none, errW_some] <;> rfl), by repeat (first | (with_reducible first | exact HB.out | apply below_alloc | apply pw_below_drewN | apply below_drew1) | exact HB.out)⟩
          · replace c10 := Bool.eq_false_iff.mpr c10
            subst c10
            have H1 : (some false) = some r := by rw [if_neg (show ¬ (false = true) by decide)] at H; exact H
            clear H
            have H := H1
            clear H1
            obtain rfl := Option.some.inj H
            go_wp2_with (first | ((with_reducible refine gate_callee (f := 39) rfl ?_); refine goesL_ (some 22) rfl rfl Tryd.func39 (by kernel_rfl) rfl #[.int .i64 a0, .int .i64 a1] rfl (by (try simp only [List.map_toArray, List.map_cons, List.map_nil]); first | done | rfl | (simp only [List.length_drop, List.length_take]; rfl)) ?_; (with_reducible refine (impl_Div.calls a0 a1 t128 true _ A7.out).mono ?_); rintro e w20 ⟨rfl, hb⟩; refine ⟨_, rfl, ?_⟩; have n0_ := Aside0.mk (below_step (by repeat (first | (with_reducible first | exact HB.out | apply below_alloc | apply pw_below_drewN | apply below_drew1) | exact HB.out)) hb); clear HB; have HB := n0_; clear n0_; (try clear hb); (try clear hb2); (try clear hk); (try clear hi)) | ((with_reducible refine gate_callee (f := 40) rfl ?_); refine goesL_ (some 28) rfl rfl Tryd.func40 (by kernel_rfl) rfl #[.int .i64 a0, .int .i64 a1] rfl (by (try simp only [List.map_toArray, List.map_cons, List.map_nil]); first | done | rfl | (simp only [List.length_drop, List.length_take]; rfl)) ?_; (with_reducible refine (impl_Mod.calls a0 a1 t130 false _ A8.out).mono ?_); rintro e w21 ⟨rfl, hb⟩; refine ⟨_, rfl, ?_⟩; have n0_ := Aside0.mk (below_step (by repeat (first | (with_reducible first | exact HB.out | apply below_alloc | apply pw_below_drewN | apply below_drew1) | exact HB.out)) hb); clear HB; have HB := n0_; clear n0_; (try clear hb); (try clear hb2); (try clear hk); (try clear hi)))
            go_ret
            exact ⟨by first | rfl | (simp [errW_none, errW_some] <;> rfl) | (simp [*, errW_none, errW_some] <;> rfl), by repeat (first | (with_reducible first | exact HB.out | apply below_alloc | apply pw_below_drewN | apply below_drew1) | exact HB.out)⟩
        · replace c9 := Bool.eq_false_iff.mpr c9
          subst c9
          have H1 : (some false) = some r := by rw [if_neg (show ¬ (false = true) by decide)] at H; exact H
          clear H
          have H := H1
          clear H1
          obtain rfl := Option.some.inj H
          go_wp2_with (first | ((with_reducible refine gate_callee (f := 39) rfl ?_); refine goesL_ (some 22) rfl rfl Tryd.func39 (by kernel_rfl) rfl #[.int .i64 a0, .int .i64 a1] rfl (by (try simp only [List.map_toArray, List.map_cons, List.map_nil]); first | done | rfl | (simp only [List.length_drop, List.length_take]; rfl)) ?_; (with_reducible refine (impl_Div.calls a0 a1 t128 false _ A7.out).mono ?_); rintro e w22 ⟨rfl, hb⟩; refine ⟨_, rfl, ?_⟩; have n0_ := Aside0.mk (below_step (by repeat (first | (with_reducible first | exact HB.out | apply below_alloc | apply pw_below_drewN | apply below_drew1) | exact HB.out)) hb); clear HB; have HB := n0_; clear n0_; (try clear hb); (try clear hb2); (try clear hk); (try clear hi)) | ((with_reducible refine gate_callee (f := 40) rfl ?_); refine goesL_ (some 28) rfl rfl Tryd.func40 (by kernel_rfl) rfl #[.int .i64 a0, .int .i64 a1] rfl (by (try simp only [List.map_toArray, List.map_cons, List.map_nil]); first | done | rfl | (simp only [List.length_drop, List.length_take]; rfl)) ?_; (with_reducible refine (impl_Mod.calls a0 a1 t130 t131 _ A8.out).mono ?_); rintro e w23 ⟨rfl, hb⟩; refine ⟨_, rfl, ?_⟩; have n0_ := Aside0.mk (below_step (by repeat (first | (with_reducible first | exact HB.out | apply below_alloc | apply pw_below_drewN | apply below_drew1) | exact HB.out)) hb); clear HB; have HB := n0_; clear n0_; (try clear hb); (try clear hb2); (try clear hk); (try clear hi)))
          go_ret
          exact ⟨by first | rfl | (simp [errW_none, errW_some] <;> rfl) | (simp [*, errW_none, errW_some] <;> rfl), by repeat (first | (with_reducible first | exact HB.out | apply below_alloc | apply pw_below_drewN | apply below_drew1) | exact HB.out)⟩

/-- THE ONE PURE STATEMENT of laws_FnDiv: yours. -/
def laws_FnDiv.Pure : Prop := ∀ (a0 : Int) (a1 : Int), (Lit.int .i64 a0).wf = true → (Lit.int .i64 a1).wf = true → ∃ k, laws_FnDiv.f k a0 a1 = some true
theorem laws_FnDiv.walk (P : laws_FnDiv.Pure) (a0 : Int) (a1 : Int) (w : World) (w0 : (Lit.int .i64 a0).wf = true) (w1 : (Lit.int .i64 a1).wf = true) :
    Calls Tryd.prog 10 #[.int .i64 a0, .int .i64 a1] w fun e w' => e = .returned (.bool true) ∧ Below w.heap.size w w' := by
  obtain ⟨k, h⟩ := P a0 a1 w0 w1
  refine (laws_FnDiv.calls k a0 a1 true w h).mono ?_
  rintro e w' ⟨rfl, hd⟩
  exact ⟨rfl, hd⟩

/-! ### adler32_update: function 114 -/
mutual
def adler32_update.l0 : Nat → List Int → Int → Int → Option (Int)
  | 0, _, _, _ => none
  | k + 1, x1, x5, x6 => if (x1.length : Int) > 0 then (if (x1.length : Int) > 5552 then (none) else (adler32_update.l1 k x1 x5 x6)) else (some (Go.bits .or .u32 ((x6 * 65536) % 4294967296) x5))
def adler32_update.l1 : Nat → List Int → Int → Int → Option (Int)
  | 0, _, _, _ => none
  | k + 1, x1, x5, x6 => if (x1.length : Int) ≥ 4 then (if 0 < (x1.length : Int) then (if 1 < (x1.length : Int) then (if 2 < (x1.length : Int) then (if 3 < (x1.length : Int) then (if 4 ≤ (x1.length : Int) then (adler32_update.l1 k (x1.drop 4) ((((((((x5 + ((rd x1 0) % 4294967296)) % 4294967296) + ((rd x1 1) % 4294967296)) % 4294967296) + ((rd x1 2) % 4294967296)) % 4294967296) + ((rd x1 3) % 4294967296)) % 4294967296) ((((((((x6 + ((x5 + ((rd x1 0) % 4294967296)) % 4294967296)) % 4294967296) + ((((x5 + ((rd x1 0) % 4294967296)) % 4294967296) + ((rd x1 1) % 4294967296)) % 4294967296)) % 4294967296) + ((((((x5 + ((rd x1 0) % 4294967296)) % 4294967296) + ((rd x1 1) % 4294967296)) % 4294967296) + ((rd x1 2) % 4294967296)) % 4294967296)) % 4294967296) + ((((((((x5 + ((rd x1 0) % 4294967296)) % 4294967296) + ((rd x1 1) % 4294967296)) % 4294967296) + ((rd x1 2) % 4294967296)) % 4294967296) + ((rd x1 3) % 4294967296)) % 4294967296)) % 4294967296)) else (none)) else (none)) else (none)) else (none)) else (none)) else (adler32_update.l2 k x5 x6 x1 (x1.length : Int) 0)
def adler32_update.l2 : Nat → Int → Int → List Int → Int → Int → Option (Int)
  | 0, _, _, _, _, _ => none
  | k + 1, x5, x6, x65, x66, x67 => if x67 < x66 then (if 0 ≤ x67 then (if x67 < (x65.length : Int) then (adler32_update.l2 k ((x5 + ((rd x65 x67) % 4294967296)) % 4294967296) ((x6 + ((x5 + ((rd x65 x67) % 4294967296)) % 4294967296)) % 4294967296) x65 x66 (wrap64 (x67 + 1))) else (none)) else (none)) else (adler32_update.l0 k ([] : List Int) (Int.tmod x5 65521) (Int.tmod x6 65521))
end
def adler32_update.f (k : Nat) (a0 : Int) (l1 : List Int) : Option (Int) := adler32_update.l0 k l1 (Go.bits .and .u32 a0 65535) (a0 / 65536)
theorem adler32_update.mono_l : ∀ k, (∀ y0 y1 y2, LeO (adler32_update.l0 k y0 y1 y2) (adler32_update.l0 (k + 1) y0 y1 y2)) ∧ (∀ y0 y1 y2, LeO (adler32_update.l1 k y0 y1 y2) (adler32_update.l1 (k + 1) y0 y1 y2)) ∧ (∀ y0 y1 y2 y3 y4, LeO (adler32_update.l2 k y0 y1 y2 y3 y4) (adler32_update.l2 (k + 1) y0 y1 y2 y3 y4))
  | 0 => ⟨fun _ _ _ r h => by simp [adler32_update.l0] at h, fun _ _ _ r h => by simp [adler32_update.l1] at h, fun _ _ _ _ _ r h => by simp [adler32_update.l2] at h⟩
  | k + 1 => by
    obtain ⟨ih0, ih1, ih2⟩ := adler32_update.mono_l k
    refine ⟨?_, ?_, ?_⟩
    · intro y0 y1 y2
      unfold adler32_update.l0
      repeat' first
      | (with_reducible exact ih0 _ _ _)
      | (with_reducible exact ih1 _ _ _)
      | (with_reducible exact ih2 _ _ _ _ _)
      | (with_reducible exact LeO.refl _)
      | (with_reducible exact LeO.none _)
      | (with_reducible refine LeO.ite ?_ ?_)
      | (with_reducible refine LeO.bind ?_ (fun _ => ?_))
      | exact ih0 _ _ _
      | exact ih1 _ _ _
      | exact ih2 _ _ _ _ _
      | exact LeO.none _
      | refine LeO.ite ?_ ?_
      | refine LeO.bind ?_ (fun _ => ?_)
    · intro y0 y1 y2
      unfold adler32_update.l1
      repeat' first
      | (with_reducible exact ih0 _ _ _)
      | (with_reducible exact ih1 _ _ _)
      | (with_reducible exact ih2 _ _ _ _ _)
      | (with_reducible exact LeO.refl _)
      | (with_reducible exact LeO.none _)
      | (with_reducible refine LeO.ite ?_ ?_)
      | (with_reducible refine LeO.bind ?_ (fun _ => ?_))
      | exact ih0 _ _ _
      | exact ih1 _ _ _
      | exact ih2 _ _ _ _ _
      | exact LeO.none _
      | refine LeO.ite ?_ ?_
      | refine LeO.bind ?_ (fun _ => ?_)
    · intro y0 y1 y2 y3 y4
      unfold adler32_update.l2
      repeat' first
      | (with_reducible exact ih0 _ _ _)
      | (with_reducible exact ih1 _ _ _)
      | (with_reducible exact ih2 _ _ _ _ _)
      | (with_reducible exact LeO.refl _)
      | (with_reducible exact LeO.none _)
      | (with_reducible refine LeO.ite ?_ ?_)
      | (with_reducible refine LeO.bind ?_ (fun _ => ?_))
      | exact ih0 _ _ _
      | exact ih1 _ _ _
      | exact ih2 _ _ _ _ _
      | exact LeO.none _
      | refine LeO.ite ?_ ?_
      | refine LeO.bind ?_ (fun _ => ?_)
theorem adler32_update.mono : ∀ a0 a1 k, LeO (adler32_update.f k a0 a1) (adler32_update.f (k + 1) a0 a1) := by
  intro a0 a1 k
  obtain ⟨ih0, ih1, ih2⟩ := adler32_update.mono_l k
  unfold adler32_update.f
  repeat' first
      | (with_reducible exact ih0 _ _ _)
      | (with_reducible exact ih1 _ _ _)
      | (with_reducible exact ih2 _ _ _ _ _)
      | (with_reducible exact LeO.refl _)
      | (with_reducible exact LeO.none _)
      | (with_reducible refine LeO.ite ?_ ?_)
      | (with_reducible refine LeO.bind ?_ (fun _ => ?_))
      | exact ih0 _ _ _
      | exact ih1 _ _ _
      | exact ih2 _ _ _ _ _
      | exact LeO.none _
      | refine LeO.ite ?_ ?_
      | refine LeO.bind ?_ (fun _ => ?_)
set_option maxHeartbeats 8000000 in
set_option maxRecDepth 100000 in
theorem adler32_update.calls (k : Nat) (a0 : Int) (P1_ : Nat → Prop) (A1 : Option Addr) (c1 : Nat) (l1 : List Int) (r : Int) (w : World) (hs1 : Kd.V (Kd.int .u8) 5 w w.heap.size (fun k_ => P1_ k_) (.slice A1 l1.length c1) l1) (h : adler32_update.f k a0 l1 = some r) :
    Calls Tryd.prog 114 #[.int .u32 a0, .slice A1 l1.length c1] w fun e w' => e = .returned (.int .u32 r) ∧ Below w.heap.size w w' := by
  have HO1 := Aside0.mk (show Kd.V (Kd.int .u8) 5 w w.heap.size (fun k_ => (P1_ k_ ∨ w.heap.size ≤ k_)) (.slice A1 l1.length c1) l1 from Kd.V_mono hs1 (fun k_ hk => .inl hk))
  have HB := Aside0.mk (Below.refl w.heap.size w)
  have H : (adler32_update.l0 k l1 (Go.bits .and .u32 a0 65535) (a0 / 65536)) = some r := h
  clear h
  have H' := Aside0.mk H
  clear H
  go_enter Tryd.func114, Tryd.ntmps114
  go_wp2
  repeat (go_quiet (fail); try go_wp2)
  go_loopg [1, 5, 6] k (fun kq v1 v5 v6 w' => ∃ (x1_1 : List Int) (x5_1 : Int) (x6_1 : Int), v5 = .int .u32 x5_1 ∧ v6 = .int .u32 x6_1 ∧ Aside0 (adler32_update.l0 kq x1_1 x5_1 x6_1 = some r) ∧ Aside0 (kq ≤ k) ∧ Aside0 (Kd.V (Kd.int .u8) 5 w' w.heap.size (fun k_ => (P1_ k_ ∨ w.heap.size ≤ k_)) v1 x1_1) ∧ Aside0 (Below w.heap.size w w'))
  case atStart => exact ⟨(l1), (Go.bits .and .u32 a0 65535), (a0 / 65536), (by first | rfl | (simp; done) | (simp [*]; done)), (by first | rfl | (simp; done) | (simp [*]; done)), H', ⟨Nat.le_refl _⟩, ⟨by (with_reducible repeat (first | apply Kd.V_alloc | apply Kd.V_drewN | apply Kd.V_drew)); exact HO1.out⟩, ⟨by repeat (first | (with_reducible first | exact HB.out | apply below_alloc | apply pw_below_drewN | apply below_drew1) | exact HB.out)⟩⟩
  case round =>
    clear H'
    try clear c1
    try clear p2
    obtain ⟨x1_1, x5_1, x6_1, rfl, rfl, HA, HK1, HO_1, HB⟩ := hrel
    cases gk with
    | zero => exact absurd HA.out (by simp [adler32_update.l0])
    | succ k1 =>
      have H := HA.out
      clear HA
      simp only [adler32_update.l0] at H
      by_cases c3 : (x1_1.length : Int) > 0
      · rw [if_pos c3] at H
        have c3b0 : decide (0 < (x1_1.length : Int)) = true := decide_eq_true c3
        have c3b1 : decide (0 < x1_1.length) = true := decide_eq_true (by omega)
        clear c3
        by_cases c4 : (x1_1.length : Int) > 5552
        · rw [if_pos c4] at H
          exact absurd H (by simp)
        · rw [if_neg c4] at H
          have c4b0 : decide (5552 < (x1_1.length : Int)) = false := decide_eq_false c4
          have c4b1 : decide (5552 < x1_1.length) = false := decide_eq_false (by omega)
          clear c4
          have H' := Aside0.mk H
          clear H
          obtain ⟨Ao5, co5, eo5⟩ := Kd.V_slice HO_1.out
          subst eo5
          go_wp2
          repeat (go_quiet (fail); try go_wp2)
          go_loopg [1, 5, 6] k1 (fun kq v1 v5 v6 w' => ∃ (x1_2 : List Int) (x5_2 : Int) (x6_2 : Int), v5 = .int .u32 x5_2 ∧ v6 = .int .u32 x6_2 ∧ Aside0 (adler32_update.l1 kq x1_2 x5_2 x6_2 = some r) ∧ Aside0 (kq ≤ k1) ∧ Aside0 (Kd.V (Kd.int .u8) 5 w' w.heap.size (fun k_ => (P1_ k_ ∨ w.heap.size ≤ k_)) v1 x1_2) ∧ Aside0 (Below w.heap.size w w'))
          case atStart => exact ⟨(x1_1), (x5_1), (x6_1), (by first | rfl | (simp; done) | (simp [*]; done)), (by first | rfl | (simp; done) | (simp [*]; done)), H', ⟨Nat.le_refl _⟩, ⟨by (with_reducible repeat (first | apply Kd.V_alloc | apply Kd.V_drewN | apply Kd.V_drew)); exact HO_1.out⟩, ⟨by repeat (first | (with_reducible first | exact HB.out | apply below_alloc | apply pw_below_drewN | apply below_drew1) | exact HB.out)⟩⟩
          case round =>
            clear H'
            try clear c1
            try clear p2
            try clear c3
            try clear c3b0
            try clear c3b1
            try clear c4
            try clear c4b0
            try clear c4b1
            try clear p2
            obtain ⟨x1_2, x5_2, x6_2, rfl, rfl, HA, HK2, HO_1, HB⟩ := hrel
            cases gk with
            | zero => exact absurd HA.out (by simp [adler32_update.l1])
            | succ k2 =>
              have H := HA.out
              clear HA
              simp only [adler32_update.l1] at H
              by_cases c6 : (x1_2.length : Int) ≥ 4
              · rw [if_pos c6] at H
                have c6b0 : decide (4 ≤ (x1_2.length : Int)) = true := decide_eq_true c6
                have c6b1 : decide (4 ≤ x1_2.length) = true := decide_eq_true (by omega)
                clear c6
                by_cases c7 : 0 < (x1_2.length : Int)
                · rw [if_pos c7] at H
                  have c7b0 : decide (0 < (x1_2.length : Int)) = true := decide_eq_true c7
                  have c7b1 : decide (0 < x1_2.length) = true := decide_eq_true (by omega)
                  clear c7
                  by_cases c8 : 1 < (x1_2.length : Int)
                  · rw [if_pos c8] at H
                    have c8b0 : decide (1 < (x1_2.length : Int)) = true := decide_eq_true c8
                    have c8b1 : decide (1 < x1_2.length) = true := decide_eq_true (by omega)
                    clear c8
                    by_cases c9 : 2 < (x1_2.length : Int)
                    · rw [if_pos c9] at H
                      have c9b0 : decide (2 < (x1_2.length : Int)) = true := decide_eq_true c9
                      have c9b1 : decide (2 < x1_2.length) = true := decide_eq_true (by omega)
                      clear c9
                      by_cases c10 : 3 < (x1_2.length : Int)
                      · rw [if_pos c10] at H
                        have c10b0 : decide (3 < (x1_2.length : Int)) = true := decide_eq_true c10
                        have c10b1 : decide (3 < x1_2.length) = true := decide_eq_true (by omega)
                        clear c10
                        by_cases c11 : 4 ≤ (x1_2.length : Int)
                        · rw [if_pos c11] at H
                          have c11b0 := eq_true c11
                          have c11b1 : decide (4 ≤ (x1_2.length : Int)) = true := decide_eq_true c11
                          clear c11
                          obtain ⟨y136, hy136⟩ : ∃ y_ : List Int, y_ = (x1_2.drop 4) := ⟨_, rfl⟩
                          replace H : (adler32_update.l1 k2 y136 ((((((((x5_2 + ((rd x1_2 0) % 4294967296)) % 4294967296) + ((rd x1_2 1) % 4294967296)) % 4294967296) + ((rd x1_2 2) % 4294967296)) % 4294967296) + ((rd x1_2 3) % 4294967296)) % 4294967296) ((((((((x6_2 + ((x5_2 + ((rd x1_2 0) % 4294967296)) % 4294967296)) % 4294967296) + ((((x5_2 + ((rd x1_2 0) % 4294967296)) % 4294967296) + ((rd x1_2 1) % 4294967296)) % 4294967296)) % 4294967296) + ((((((x5_2 + ((rd x1_2 0) % 4294967296)) % 4294967296) + ((rd x1_2 1) % 4294967296)) % 4294967296) + ((rd x1_2 2) % 4294967296)) % 4294967296)) % 4294967296) + ((((((((x5_2 + ((rd x1_2 0) % 4294967296)) % 4294967296) + ((rd x1_2 1) % 4294967296)) % 4294967296) + ((rd x1_2 2) % 4294967296)) % 4294967296) + ((rd x1_2 3) % 4294967296)) % 4294967296)) % 4294967296)) = some r := by first | (rw [hy136]; with_reducible exact H) | (have H2_ := (Option.bind_some _ _).symm.trans H; rw [hy136]; with_reducible exact H2_) | (have H2_ := (Option.bind_some _ _).symm.trans H; with_reducible exact H2_) | with_reducible exact H | (rw [hy136]; exact H) | exact H
                          have Ny136 := Aside0.mk hy136
                          clear hy136
                          have H' := Aside0.mk H
                          clear H
                          obtain ⟨Ao12, co12, eo12⟩ := Kd.V_slice HO_1.out
                          subst eo12
                          have p132 : 0 ≤ (0 : Int) := (by omega)
                          have q132 : 0 < (x1_2.length : Int) := of_decide_eq_true (by first | (with_reducible assumption) | assumption)
                          obtain ⟨ad132, e132, hx132_0⟩ := Kd.at_int (Kd.V_reads' HO_1.out).2.2 0 p132 q132
                          cases e132
                          have qi132 : (0 < x1_2.length) = True := eq_true (by omega)
                          (try rw [show ((0 : Int)).toNat = 0 from rfl] at hx132_0)
                          (try rw [Addr.add_zero'] at hx132_0)
                          replace p132 := eq_true p132
                          replace q132 := eq_true q132
                          have p133 : 0 ≤ (1 : Int) := (by omega)
                          have q133 : 1 < (x1_2.length : Int) := of_decide_eq_true (by first | (with_reducible assumption) | assumption)
                          obtain ⟨ad133, e133, hx133_0⟩ := Kd.at_int (Kd.V_reads' HO_1.out).2.2 1 p133 q133
                          obtain rfl : ad132 = ad133 := (by injection e133)
                          (try simp only [show (1 : Int).toNat = 1 from rfl, Nat.reduceMul, Nat.reduceEqDiff, Go.Addr.add, ↓reduceIte] at hx133_0)
                          have qi133 : (1 < x1_2.length) = True := eq_true (by omega)
                          (try rw [show ((1 : Int)).toNat = 1 from rfl] at hx133_0)
                          replace p133 := eq_true p133
                          replace q133 := eq_true q133
                          have p134 : 0 ≤ (2 : Int) := (by omega)
                          have q134 : 2 < (x1_2.length : Int) := of_decide_eq_true (by first | (with_reducible assumption) | assumption)
                          obtain ⟨ad134, e134, hx134_0⟩ := Kd.at_int (Kd.V_reads' HO_1.out).2.2 2 p134 q134
                          obtain rfl : ad132 = ad134 := (by injection e134)
                          (try simp only [show (2 : Int).toNat = 2 from rfl, Nat.reduceMul, Nat.reduceEqDiff, Go.Addr.add, ↓reduceIte] at hx134_0)
                          have qi134 : (2 < x1_2.length) = True := eq_true (by omega)
                          (try rw [show ((2 : Int)).toNat = 2 from rfl] at hx134_0)
                          replace p134 := eq_true p134
                          replace q134 := eq_true q134
                          have p135 : 0 ≤ (3 : Int) := (by omega)
                          have q135 : 3 < (x1_2.length : Int) := of_decide_eq_true (by first | (with_reducible assumption) | assumption)
                          obtain ⟨ad135, e135, hx135_0⟩ := Kd.at_int (Kd.V_reads' HO_1.out).2.2 3 p135 q135
                          obtain rfl : ad132 = ad135 := (by injection e135)
                          (try simp only [show (3 : Int).toNat = 3 from rfl, Nat.reduceMul, Nat.reduceEqDiff, Go.Addr.add, ↓reduceIte] at hx135_0)
                          have qi135 : (3 < x1_2.length) = True := eq_true (by omega)
                          (try rw [show ((3 : Int)).toNat = 3 from rfl] at hx135_0)
                          replace p135 := eq_true p135
                          replace q135 := eq_true q135
                          have q13 : (4 : Int) ≤ ((x1_2.length : Int) : Int) := of_decide_eq_true (by first | (with_reducible assumption) | assumption)
                          obtain ⟨i013, hi013, _, hsz13, _⟩ := info_parts info5
                          have hroom13 : x1_2.length ≤ co12 := (Kd.V_reads' HO_1.out).2.1
                          have hC13 : Kd.F (Kd.int .u8) _ _ (some ad132) x1_2.length x1_2 := (Kd.V_at (base := w.heap.size) HO_1.out).2.2
                          have hcut13 := cut_from (P := Tryd.prog) 66 5 .i64 Tryd.underlying66 hi013 1 hsz13 (some ad132) x1_2.length co12 4 (by omega) q13
                          have hr13 := Kd.F_cut (m := (4 : Int).toNat) (c := co12) hC13 (by omega) hroom13
                          obtain ⟨A13, hA13⟩ : ∃ A1, A1 = (if co12 = (4 : Int).toNat then (some ad132) else ((some ad132) : Option Addr).map (·.add ((4 : Int).toNat * 1))) := ⟨_, rfl⟩
                          obtain ⟨c13, hc13⟩ : ∃ c1, c1 = co12 - (4 : Int).toNat := ⟨_, rfl⟩
                          have hy13 : y136.length = x1_2.length - (4 : Int).toNat := (by rw [Ny136.out, List.length_drop] <;> omega)
                          rw [show (x1_2).drop (4 : Int).toNat = y136 from Ny136.out.symm] at hr13
                          replace hr13 : Kd.F (Kd.int .u8) _ _ A13 y136.length y136 := (by rw [hA13]; exact hr13)
                          rw [← hy13, ← hA13, ← hc13] at hcut13
                          have HO140 := Aside0.mk (show Kd.V (Kd.int .u8) 5 _ w.heap.size _ (.slice A13 y136.length c13) y136 from Kd.V_mk (by rw [hy13, hc13]; exact Nat.sub_le_sub_right hroom13 _) hr13)
                          have HC140 := Aside0.mk (show y136.length ≤ c13 from by rw [hy13, hc13]; exact Nat.sub_le_sub_right hroom13 _)
                          clear hr13 hC13 hroom13 hi013 hsz13 hc13
                          have KY13 := Aside0.mk hy13
                          have KA13 := Aside0.mk hA13
                          clear hy13 hA13
                          replace q13 := eq_true q13
                          go_wp2
                          repeat (go_quiet (fail); try go_wp2)
                          go_roundg k2
                          case measure => have := HK1.out; have := HK2.out; omega
                          case rel => exact ⟨(y136), ((((((((x5_2 + ((rd x1_2 0) % 4294967296)) % 4294967296) + ((rd x1_2 1) % 4294967296)) % 4294967296) + ((rd x1_2 2) % 4294967296)) % 4294967296) + ((rd x1_2 3) % 4294967296)) % 4294967296), ((((((((x6_2 + ((x5_2 + ((rd x1_2 0) % 4294967296)) % 4294967296)) % 4294967296) + ((((x5_2 + ((rd x1_2 0) % 4294967296)) % 4294967296) + ((rd x1_2 1) % 4294967296)) % 4294967296)) % 4294967296) + ((((((x5_2 + ((rd x1_2 0) % 4294967296)) % 4294967296) + ((rd x1_2 1) % 4294967296)) % 4294967296) + ((rd x1_2 2) % 4294967296)) % 4294967296)) % 4294967296) + ((((((((x5_2 + ((rd x1_2 0) % 4294967296)) % 4294967296) + ((rd x1_2 1) % 4294967296)) % 4294967296) + ((rd x1_2 2) % 4294967296)) % 4294967296) + ((rd x1_2 3) % 4294967296)) % 4294967296)) % 4294967296), (by first | rfl | (simp; done) | (simp [*]; done)), (by first | rfl | (simp; done) | (simp [*]; done)), H', ⟨by have := HK1.out; have := HK2.out; omega⟩, ⟨by (with_reducible repeat (first | apply Kd.V_alloc | apply Kd.V_drewN | apply Kd.V_drew)); exact HO140.out⟩, ⟨by repeat (first | (with_reducible first | exact HB.out | apply below_alloc | apply pw_below_drewN | apply below_drew1) | exact HB.out)⟩⟩
                        · rw [if_neg c11] at H
                          exact absurd H (by simp)
                      · rw [if_neg c10] at H
                        exact absurd H (by simp)
                    · rw [if_neg c9] at H
                      exact absurd H (by simp)
                  · rw [if_neg c8] at H
                    exact absurd H (by simp)
                · rw [if_neg c7] at H
                  exact absurd H (by simp)
              · rw [if_neg c6] at H
                have c6b0 : decide (4 ≤ (x1_2.length : Int)) = false := decide_eq_false c6
                have c6b1 : decide (4 ≤ x1_2.length) = false := decide_eq_false (by omega)
                clear c6
                have H' := Aside0.mk H
                clear H
                obtain ⟨Ao14, co14, eo14⟩ := Kd.V_slice HO_1.out
                subst eo14
                go_wp2
                repeat (go_quiet (fail); try go_wp2)
                go_loopg [5, 6, 67] k2 (fun kq v5 v6 v67 w' => ∃ (x5_3 : Int) (x6_3 : Int) (x67_3 : Int), v5 = .int .u32 x5_3 ∧ v6 = .int .u32 x6_3 ∧ v67 = .int .i64 x67_3 ∧ Aside0 (adler32_update.l2 kq x5_3 x6_3 x1_2 (x1_2.length : Int) x67_3 = some r) ∧ Aside0 (kq ≤ k2) ∧ Aside0 (Kd.V (Kd.int .u8) 5 w' w.heap.size (fun k_ => (P1_ k_ ∨ w.heap.size ≤ k_)) (.slice Ao14 x1_2.length co14) x1_2) ∧ Aside0 (Below w.heap.size w w'))
                case atStart => exact ⟨(x5_2), (x6_2), (0), (by first | rfl | (simp; done) | (simp [*]; done)), (by first | rfl | (simp; done) | (simp [*]; done)), (by first | rfl | (simp; done) | (simp [*]; done)), H', ⟨Nat.le_refl _⟩, ⟨by (with_reducible repeat (first | apply Kd.V_alloc | apply Kd.V_drewN | apply Kd.V_drew)); exact HO_1.out⟩, ⟨by repeat (first | (with_reducible first | exact HB.out | apply below_alloc | apply pw_below_drewN | apply below_drew1) | exact HB.out)⟩⟩
                case round =>
                  clear H'
                  try clear c1
                  try clear p1
                  try clear q1
                  try clear hx1
                  try clear qi1
                  try clear p2
                  try clear c3
                  try clear c3b0
                  try clear c3b1
                  try clear c4
                  try clear c4b0
                  try clear c4b1
                  try clear c6
                  try clear c6b0
                  try clear c6b1
                  try clear c7
                  try clear c7b0
                  try clear c7b1
                  try clear c8
                  try clear c8b0
                  try clear c8b1
                  try clear c9
                  try clear c9b0
                  try clear c9b1
                  try clear c10
                  try clear c10b0
                  try clear c10b1
                  try clear c11
                  try clear c11b0
                  try clear c11b1
                  try clear c13
                  try clear p13
                  try clear q13
                  try clear hx13
                  try clear qi13
                  try clear hx132_0
                  try clear hx133_0
                  try clear hx134_0
                  try clear hx135_0
                  try clear p132
                  try clear p133
                  try clear p134
                  try clear p135
                  try clear p2
                  try clear q13
                  try clear q132
                  try clear q133
                  try clear q134
                  try clear q135
                  obtain ⟨x5_3, x6_3, x67_3, rfl, rfl, rfl, HA, HK3, HO_65, HB⟩ := hrel
                  cases gk with
                  | zero => exact absurd HA.out (by simp [adler32_update.l2])
                  | succ k3 =>
                    have H := HA.out
                    clear HA
                    simp only [adler32_update.l2] at H
                    by_cases c15 : x67_3 < (x1_2.length : Int)
                    · rw [if_pos c15] at H
                      have c15b0 : decide (x67_3 < (x1_2.length : Int)) = true := decide_eq_true c15
                      clear c15
                      by_cases c16 : 0 ≤ x67_3
                      · rw [if_pos c16] at H
                        have c16b0 : decide (0 ≤ x67_3) = true := decide_eq_true c16
                        clear c16
                        by_cases c17 : x67_3 < (x1_2.length : Int)
                        · rw [if_pos c17] at H
                          have c17b0 : decide (x67_3 < (x1_2.length : Int)) = true := decide_eq_true c17
                          clear c17
                          have H' := Aside0.mk H
                          clear H
                          have p141 : 0 ≤ (x67_3 : Int) := of_decide_eq_true (by first | (with_reducible assumption) | assumption)
                          have q141 : x67_3 < (x1_2.length : Int) := of_decide_eq_true (by first | (with_reducible assumption) | assumption)
                          obtain ⟨ad141, e141, hx141_0⟩ := Kd.at_int (Kd.V_reads' HO_65.out).2.2 x67_3 p141 q141
                          cases e141
                          replace p141 := eq_true p141
                          replace q141 := eq_true q141
                          go_wp2
                          repeat (go_quiet (fail); try go_wp2)
                          go_roundg k3
                          case measure => have := HK1.out; have := HK2.out; have := HK3.out; omega
                          case rel => exact ⟨((x5_3 + ((rd x1_2 x67_3) % 4294967296)) % 4294967296), ((x6_3 + ((x5_3 + ((rd x1_2 x67_3) % 4294967296)) % 4294967296)) % 4294967296), (wrap64 (x67_3 + 1)), (by first | rfl | (simp; done) | (simp [*]; done)), (by first | rfl | (simp; done) | (simp [*]; done)), (by first | rfl | (simp; done) | (simp [*]; done)), H', ⟨by have := HK1.out; have := HK2.out; have := HK3.out; omega⟩, ⟨by (with_reducible repeat (first | apply Kd.V_alloc | apply Kd.V_drewN | apply Kd.V_drew)); exact HO_65.out⟩, ⟨by repeat (first | (with_reducible first | exact HB.out | apply below_alloc | apply pw_below_drewN | apply below_drew1) | exact HB.out)⟩⟩
                        · rw [if_neg c17] at H
                          exact absurd H (by simp)
                      · rw [if_neg c16] at H
                        exact absurd H (by simp)
                    · rw [if_neg c15] at H
                      have c15b0 : decide (x67_3 < (x1_2.length : Int)) = false := decide_eq_false c15
                      clear c15
                      have H' := Aside0.mk H
                      clear H
                      go_wp2
                      repeat (go_quiet (fail); try go_wp2)
                      go_roundg k3
                      case measure => have := HK1.out; have := HK2.out; have := HK3.out; omega
                      case rel => exact ⟨(([] : List Int)), (Int.tmod x5_3 65521), (Int.tmod x6_3 65521), (by first | rfl | (simp; done) | (simp [*]; done)), (by first | rfl | (simp; done) | (simp [*]; done)), H', ⟨by have := HK1.out; have := HK2.out; have := HK3.out; omega⟩, ⟨Kd.V_nil _ _ _ _ _⟩, ⟨by repeat (first | (with_reducible first | exact HB.out | apply below_alloc | apply pw_below_drewN | apply below_drew1) | exact HB.out)⟩⟩
      · rw [if_neg c3] at H
        have c3b0 : decide (0 < (x1_1.length : Int)) = false := decide_eq_false c3
        have c3b1 : decide (0 < x1_1.length) = false := decide_eq_false (by omega)
        clear c3
        obtain rfl := Option.some.inj H
        obtain ⟨Ao18, co18, eo18⟩ := Kd.V_slice HO_1.out
        subst eo18
        go_wp2
        repeat (go_quiet (fail); try go_wp2)
        go_ret
        exact ⟨by first | rfl | (simp [errW_none, errW_some] <;> rfl) | (simp [*, errW_none, errW_some] <;> rfl), by repeat (first | (with_reducible first | exact HB.out | apply below_alloc | apply pw_below_drewN | apply below_drew1) | exact HB.out)⟩

/-! ### adler32_Checksum: function 95 -/
def adler32_Checksum.f (k : Nat) (l0 : List Int) : Option (Int) := (adler32_update.f k 1 l0).bind fun t142 => (some t142)
theorem adler32_Checksum.mono : ∀ a0 k, LeO (adler32_Checksum.f k a0) (adler32_Checksum.f (k + 1) a0) := by
  intro a0 k
  unfold adler32_Checksum.f
  repeat' first
      | (with_reducible exact adler32_update.mono _ _ _)
      | (with_reducible exact LeO.refl _)
      | (with_reducible exact LeO.none _)
      | (with_reducible refine LeO.ite ?_ ?_)
      | (with_reducible refine LeO.bind ?_ (fun _ => ?_))
      | exact adler32_update.mono _ _ _
      | exact LeO.none _
      | refine LeO.ite ?_ ?_
      | refine LeO.bind ?_ (fun _ => ?_)
set_option maxHeartbeats 8000000 in
set_option maxRecDepth 100000 in
theorem adler32_Checksum.calls (k : Nat) (A0 : Option Addr) (c0 : Nat) (l0 : List Int) (r : Int) (w : World) (hr0 : Kd.C (Kd.int .u8) w A0 l0.length l0) (hc0 : l0.length ≤ c0) (h : adler32_Checksum.f k l0 = some r) :
    Calls Tryd.prog 95 #[.slice A0 l0.length c0] w fun e w' => e = .returned (.int .u32 r) ∧ Below w.heap.size w w' := by
  have HR0 := Aside0.mk hr0
  have HC0 := Aside0.mk hc0
  clear hr0 hc0
  have HB := Aside0.mk (Below.refl w.heap.size w)
  have H : ((adler32_update.f k 1 l0).bind fun t142 => (some t142)) = some r := h
  clear h
  replace H := Option.bind_eq_some_iff.mp H
  obtain ⟨t142, A20, H⟩ := H
  replace H : (some t142) = some r := H
  have A2 := Aside0.mk A20
  clear A20
  obtain rfl := Option.some.inj H
  go_enter Tryd.func95, Tryd.ntmps95
  go_wp2_with (first | ((with_reducible refine gate_callee (f := 114) rfl ?_); refine goesL_ (some 4) rfl rfl Tryd.func114 (by kernel_rfl) rfl #[.int .u32 1, .slice A0 l0.length c0] rfl (by (try simp only [List.map_toArray, List.map_cons, List.map_nil]); first | done | rfl | (simp only [List.length_drop, List.length_take]; rfl)) ?_; (with_reducible refine (adler32_update.calls k 1 (fun k_ => k_ < w.heap.size) _ _ l0 t142 _ ?side1 A2.out).mono ?_); (case side1 => exact Kd.V_mk HC0.out (Kd.F_below (Kd.C_F (Kd.heap_int .u8) HR0.out) (by repeat (first | (with_reducible first | exact HB.out | apply below_alloc | apply pw_below_drewN | apply below_drew1) | exact HB.out)))); rintro e w3 ⟨rfl, hb⟩; refine ⟨_, rfl, ?_⟩; have n0_ := Aside0.mk (below_step (by repeat (first | (with_reducible first | exact HB.out | apply below_alloc | apply pw_below_drewN | apply below_drew1) | exact HB.out)) hb); clear HB; have HB := n0_; clear n0_; (try clear hb); (try clear hb2); (try clear hk); (try clear hi)))
  go_ret
  exact ⟨by first | rfl | (simp [errW_none, errW_some] <;> rfl) | (simp [*, errW_none, errW_some] <;> rfl), by repeat (first | (with_reducible first | exact HB.out | apply below_alloc | apply pw_below_drewN | apply below_drew1) | exact HB.out)⟩

end Go.Proofs.YtagafmfmmnegfaaDoor.P
