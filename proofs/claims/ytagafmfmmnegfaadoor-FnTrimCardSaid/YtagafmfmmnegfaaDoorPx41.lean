-- WRITTEN by xprint.py (a program of this session, over the kit's print) out of the translation. Not trusted: Lean checks it.
import Derived.Test.YtagafmfmmnegfaaDoorPx0
import Derived.Test.YtagafmfmmnegfaaDoorPx35
import Derived.Test.YtagafmfmmnegfaaDoorPx40
namespace Go.Proofs.YtagafmfmmnegfaaDoor.P
open Go.RowKit Go.Proofs.YtagafmfmmnegfaaDoorW.PrintWords Go.Proofs.YtagafmfmmnegfaaDoorW.PrintLast Go.Proofs.YtagafmfmmnegfaaDoorW.PrintMore
attribute [local go_sem] max2_int min2_int max_two min_two max_three min_three max_four min_four   -- for this text's walks alone
set_option linter.unusedVariables false
set_option linter.unusedSimpArgs false

/-! ### sprig_trim: function 74 -/
def sprig_trim.f (a0 : ByteArray) : Option (ByteArray) := (strings_TrimSpace.f a0).bind fun t174 => (some t174)
set_option maxHeartbeats 8000000 in
set_option maxRecDepth 100000 in
theorem sprig_trim.calls (a0 : ByteArray) (r : ByteArray) (w : World) (h : sprig_trim.f a0 = some r) (HT0T : TabsT w) :
    Calls Tryd.prog 74 #[.string a0] w fun e w' => e = .returned (.string r) ∧ Below w.heap.size w w' := by
  have HTT := Aside0.mk HT0T
  clear HT0T
  have HB := Aside0.mk (Below.refl w.heap.size w)
  have H : ((strings_TrimSpace.f a0).bind fun t174 => (some t174)) = some r := h
  clear h
  replace H := Option.bind_eq_some_iff.mp H
  obtain ⟨t174, A20, H⟩ := H
  replace H : (some t174) = some r := H
  have A2 := Aside0.mk A20
  clear A20
  obtain rfl := Option.some.inj H
  go_enter Tryd.func74, Tryd.ntmps74
  go_wp2_with (first | ((with_reducible refine gate_callee (f := 94) rfl ?_); refine goesL_ (some 4) rfl rfl Tryd.func94 (by kernel_rfl) rfl #[.string a0] rfl (by (try simp only [List.map_toArray, List.map_cons, List.map_nil]); first | done | rfl | (simp only [List.length_drop, List.length_take]; rfl)) ?_; (with_reducible refine (strings_TrimSpace.calls a0 t174 _ A2.out (TabsT.below HTT.out (by repeat (first | (with_reducible first | exact HB.out | apply below_alloc | apply pw_below_drewN | apply below_drew1) | exact HB.out)))).mono ?_); rintro e w3 ⟨rfl, hb⟩; refine ⟨_, rfl, ?_⟩; have n0_ := Aside0.mk (below_step (by repeat (first | (with_reducible first | exact HB.out | apply below_alloc | apply pw_below_drewN | apply below_drew1) | exact HB.out)) hb); clear HB; have HB := n0_; clear n0_; (try clear hb); (try clear hb2); (try clear hk); (try clear hi)))
  go_ret
  exact ⟨by first | rfl | (simp [errW_none, errW_some] <;> rfl) | (simp [*, errW_none, errW_some] <;> rfl), by repeat (first | (with_reducible first | exact HB.out | apply below_alloc | apply pw_below_drewN | apply below_drew1) | exact HB.out)⟩

/-! ### sprig_Trim: function 42 -/
def sprig_Trim.f (a0 : ByteArray) : Option (ByteArray) := (sprig_trim.f a0).bind fun t175 => (some t175)
set_option maxHeartbeats 8000000 in
set_option maxRecDepth 100000 in
theorem sprig_Trim.calls (a0 : ByteArray) (r : ByteArray) (w : World) (h : sprig_Trim.f a0 = some r) (HT0T : TabsT w) :
    Calls Tryd.prog 42 #[.string a0] w fun e w' => e = .returned (.string r) ∧ Below w.heap.size w w' := by
  have HTT := Aside0.mk HT0T
  clear HT0T
  have HB := Aside0.mk (Below.refl w.heap.size w)
  have H : ((sprig_trim.f a0).bind fun t175 => (some t175)) = some r := h
  clear h
  replace H := Option.bind_eq_some_iff.mp H
  obtain ⟨t175, A20, H⟩ := H
  replace H : (some t175) = some r := H
  have A2 := Aside0.mk A20
  clear A20
  obtain rfl := Option.some.inj H
  go_enter Tryd.func42, Tryd.ntmps42
  go_wp2_with (first | ((with_reducible refine gate_callee (f := 74) rfl ?_); refine goesL_ (some 4) rfl rfl Tryd.func74 (by kernel_rfl) rfl #[.string a0] rfl (by (try simp only [List.map_toArray, List.map_cons, List.map_nil]); first | done | rfl | (simp only [List.length_drop, List.length_take]; rfl)) ?_; (with_reducible refine (sprig_trim.calls a0 t175 _ A2.out (TabsT.below HTT.out (by repeat (first | (with_reducible first | exact HB.out | apply below_alloc | apply pw_below_drewN | apply below_drew1) | exact HB.out)))).mono ?_); rintro e w3 ⟨rfl, hb⟩; refine ⟨_, rfl, ?_⟩; have n0_ := Aside0.mk (below_step (by repeat (first | (with_reducible first | exact HB.out | apply below_alloc | apply pw_below_drewN | apply below_drew1) | exact HB.out)) hb); clear HB; have HB := n0_; clear n0_; (try clear hb); (try clear hb2); (try clear hk); (try clear hi)))
  go_ret
  exact ⟨by first | rfl | (simp [errW_none, errW_some] <;> rfl) | (simp [*, errW_none, errW_some] <;> rfl), by repeat (first | (with_reducible first | exact HB.out | apply below_alloc | apply pw_below_drewN | apply below_drew1) | exact HB.out)⟩

/-! ### impl_Trim: function 12 -/
def impl_Trim.f (a0 : ByteArray) : Option (ByteArray) := (sprig_Trim.f a0).bind fun t176 => (some t176)
set_option maxHeartbeats 8000000 in
set_option maxRecDepth 100000 in
theorem impl_Trim.calls (a0 : ByteArray) (r : ByteArray) (w : World) (h : impl_Trim.f a0 = some r) (HT0T : TabsT w) :
    Calls Tryd.prog 12 #[.string a0] w fun e w' => e = .returned (.string r) ∧ Below w.heap.size w w' := by
  have HTT := Aside0.mk HT0T
  clear HT0T
  have HB := Aside0.mk (Below.refl w.heap.size w)
  have H : ((sprig_Trim.f a0).bind fun t176 => (some t176)) = some r := h
  clear h
  replace H := Option.bind_eq_some_iff.mp H
  obtain ⟨t176, A20, H⟩ := H
  replace H : (some t176) = some r := H
  have A2 := Aside0.mk A20
  clear A20
  obtain rfl := Option.some.inj H
  go_enter Tryd.func12, Tryd.ntmps12
  go_wp2_with (first | ((with_reducible refine gate_callee (f := 42) rfl ?_); refine goesL_ (some 4) rfl rfl Tryd.func42 (by kernel_rfl) rfl #[.string a0] rfl (by (try simp only [List.map_toArray, List.map_cons, List.map_nil]); first | done | rfl | (simp only [List.length_drop, List.length_take]; rfl)) ?_; (with_reducible refine (sprig_Trim.calls a0 t176 _ A2.out (TabsT.below HTT.out (by repeat (first | (with_reducible first | exact HB.out | apply below_alloc | apply pw_below_drewN | apply below_drew1) | exact HB.out)))).mono ?_); rintro e w3 ⟨rfl, hb⟩; refine ⟨_, rfl, ?_⟩; have n0_ := Aside0.mk (below_step (by repeat (first | (with_reducible first | exact HB.out | apply below_alloc | apply pw_below_drewN | apply below_drew1) | exact HB.out)) hb); clear HB; have HB := n0_; clear n0_; (try clear hb); (try clear hb2); (try clear hk); (try clear hi)))
  go_ret
  exact ⟨by first | rfl | (simp [errW_none, errW_some] <;> rfl) | (simp [*, errW_none, errW_some] <;> rfl), by repeat (first | (with_reducible first | exact HB.out | apply below_alloc | apply pw_below_drewN | apply below_drew1) | exact HB.out)⟩

-- NOT PRINTED: function 43 (spec_cut)

/-! ### spec_IsSpace: function 44 -/
def spec_IsSpace.f (a0 : Int) : Option (Bool) := if a0 ≥ 9 then (if a0 ≤ 13 then (some true) else (if a0 = 32 then (some true) else (if a0 = 133 then (some true) else (if a0 = 160 then (some true) else (if a0 = 5760 then (some true) else (if a0 ≥ 8192 then (if a0 ≤ 8202 then (some true) else (if a0 = 8232 then (some true) else (if a0 = 8233 then (some true) else (if a0 = 8239 then (some true) else (if a0 = 8287 then (some true) else (some (a0 == 12288))))))) else (if a0 = 8232 then (some true) else (if a0 = 8233 then (some true) else (if a0 = 8239 then (some true) else (if a0 = 8287 then (some true) else (some (a0 == 12288)))))))))))) else (if a0 = 32 then (some true) else (if a0 = 133 then (some true) else (if a0 = 160 then (some true) else (if a0 = 5760 then (some true) else (if a0 ≥ 8192 then (if a0 ≤ 8202 then (some true) else (if a0 = 8232 then (some true) else (if a0 = 8233 then (some true) else (if a0 = 8239 then (some true) else (if a0 = 8287 then (some true) else (some (a0 == 12288))))))) else (if a0 = 8232 then (some true) else (if a0 = 8233 then (some true) else (if a0 = 8239 then (some true) else (if a0 = 8287 then (some true) else (some (a0 == 12288)))))))))))
set_option maxHeartbeats 8000000 in
set_option maxRecDepth 100000 in
theorem spec_IsSpace.calls (a0 : Int) (r : Bool) (w : World) (h : spec_IsSpace.f a0 = some r) :
    Calls Tryd.prog 44 #[.int .i32 a0] w fun e w' => e = .returned (.bool r) ∧ Drawn0 w w' := by
  have H : (if a0 ≥ 9 then (if a0 ≤ 13 then (some true) else (if a0 = 32 then (some true) else (if a0 = 133 then (some true) else (if a0 = 160 then (some true) else (if a0 = 5760 then (some true) else (if a0 ≥ 8192 then (if a0 ≤ 8202 then (some true) else (if a0 = 8232 then (some true) else (if a0 = 8233 then (some true) else (if a0 = 8239 then (some true) else (if a0 = 8287 then (some true) else (some (a0 == 12288))))))) else (if a0 = 8232 then (some true) else (if a0 = 8233 then (some true) else (if a0 = 8239 then (some true) else (if a0 = 8287 then (some true) else (some (a0 == 12288)))))))))))) else (if a0 = 32 then (some true) else (if a0 = 133 then (some true) else (if a0 = 160 then (some true) else (if a0 = 5760 then (some true) else (if a0 ≥ 8192 then (if a0 ≤ 8202 then (some true) else (if a0 = 8232 then (some true) else (if a0 = 8233 then (some true) else (if a0 = 8239 then (some true) else (if a0 = 8287 then (some true) else (some (a0 == 12288))))))) else (if a0 = 8232 then (some true) else (if a0 = 8233 then (some true) else (if a0 = 8239 then (some true) else (if a0 = 8287 then (some true) else (some (a0 == 12288)))))))))))) = some r := h
  clear h
  by_cases c2 : a0 ≥ 9
  · rw [if_pos c2] at H
    have c2b0 : decide (9 ≤ a0) = true := decide_eq_true c2
    clear c2
    by_cases c3 : a0 ≤ 13
    · rw [if_pos c3] at H
      have c3b0 : decide (a0 ≤ 13) = true := decide_eq_true c3
      clear c3
      obtain rfl := Option.some.inj H
      go_enter Tryd.func44, Tryd.ntmps44
      go_wp2
      go_ret
      exact ⟨by first | rfl | (simp; done) | (simp [*]; done), by repeat (first | exact Drawn0.refl _ | apply Drawn0.step)⟩
    · rw [if_neg c3] at H
      have c3b0 : decide (a0 ≤ 13) = false := decide_eq_false c3
      clear c3
      by_cases c4 : a0 = 32
      · rw [if_pos c4] at H
        have c4b0 : (a0 == 32) = true := beq_iff_eq.mpr c4
        have c4b1 : (a0 != 32) = false := bne_eq_false_iff_eq.mpr c4
        clear c4
        obtain rfl := Option.some.inj H
        go_enter Tryd.func44, Tryd.ntmps44
        go_wp2
        go_ret
        exact ⟨by first | rfl | (simp; done) | (simp [*]; done), by repeat (first | exact Drawn0.refl _ | apply Drawn0.step)⟩
      · rw [if_neg c4] at H
        have c4b0 : (a0 == 32) = false := beq_eq_false_iff_ne.mpr c4
        have c4b1 : (a0 != 32) = true := bne_iff_ne.mpr c4
        by_cases c5 : a0 = 133
        · rw [if_pos c5] at H
          have c5b0 : (a0 == 133) = true := beq_iff_eq.mpr c5
          have c5b1 : (a0 != 133) = false := bne_eq_false_iff_eq.mpr c5
          clear c5
          obtain rfl := Option.some.inj H
          go_enter Tryd.func44, Tryd.ntmps44
          go_wp2
          go_ret
          exact ⟨by first | rfl | (simp; done) | (simp [*]; done), by repeat (first | exact Drawn0.refl _ | apply Drawn0.step)⟩
        · rw [if_neg c5] at H
          have c5b0 : (a0 == 133) = false := beq_eq_false_iff_ne.mpr c5
          have c5b1 : (a0 != 133) = true := bne_iff_ne.mpr c5
          by_cases c6 : a0 = 160
          · rw [if_pos c6] at H
            have c6b0 : (a0 == 160) = true := beq_iff_eq.mpr c6
            have c6b1 : (a0 != 160) = false := bne_eq_false_iff_eq.mpr c6
            clear c6
            obtain rfl := Option.some.inj H
            go_enter Tryd.func44, Tryd.ntmps44
            go_wp2
            go_ret
            exact ⟨by first | rfl | (simp; done) | (simp [*]; done), by repeat (first | exact Drawn0.refl _ | apply Drawn0.step)⟩
          · rw [if_neg c6] at H
            have c6b0 : (a0 == 160) = false := beq_eq_false_iff_ne.mpr c6
            have c6b1 : (a0 != 160) = true := bne_iff_ne.mpr c6
            by_cases c7 : a0 = 5760
            · rw [if_pos c7] at H
              have c7b0 : (a0 == 5760) = true := beq_iff_eq.mpr c7
              have c7b1 : (a0 != 5760) = false := bne_eq_false_iff_eq.mpr c7
              clear c7
              obtain rfl := Option.some.inj H
              go_enter Tryd.func44, Tryd.ntmps44
              go_wp2
              go_ret
              exact ⟨by first | rfl | (simp; done) | (simp [*]; done), by repeat (first | exact Drawn0.refl _ | apply Drawn0.step)⟩
            · rw [if_neg c7] at H
              have c7b0 : (a0 == 5760) = false := beq_eq_false_iff_ne.mpr c7
              have c7b1 : (a0 != 5760) = true := bne_iff_ne.mpr c7
              by_cases c8 : a0 ≥ 8192
              · rw [if_pos c8] at H
                have c8b0 : decide (8192 ≤ a0) = true := decide_eq_true c8
                clear c8
                by_cases c9 : a0 ≤ 8202
                · rw [if_pos c9] at H
                  have c9b0 : decide (a0 ≤ 8202) = true := decide_eq_true c9
                  clear c9
                  obtain rfl := Option.some.inj H
                  go_enter Tryd.func44, Tryd.ntmps44
                  go_wp2
                  go_ret
                  exact ⟨by first | rfl | (simp; done) | (simp [*]; done), by repeat (first | exact Drawn0.refl _ | apply Drawn0.step)⟩
                · rw [if_neg c9] at H
                  have c9b0 : decide (a0 ≤ 8202) = false := decide_eq_false c9
                  clear c9
                  by_cases c10 : a0 = 8232
                  · rw [if_pos c10] at H
                    have c10b0 : (a0 == 8232) = true := beq_iff_eq.mpr c10
                    have c10b1 : (a0 != 8232) = false := bne_eq_false_iff_eq.mpr c10
                    clear c10
                    obtain rfl := Option.some.inj H
                    go_enter Tryd.func44, Tryd.ntmps44
                    go_wp2
                    go_ret
                    exact ⟨by first | rfl | (simp; done) | (simp [*]; done), by repeat (first | exact Drawn0.refl _ | apply Drawn0.step)⟩
                  · rw [if_neg c10] at H
                    have c10b0 : (a0 == 8232) = false := beq_eq_false_iff_ne.mpr c10
                    have c10b1 : (a0 != 8232) = true := bne_iff_ne.mpr c10
                    by_cases c11 : a0 = 8233
                    · rw [if_pos c11] at H
                      have c11b0 : (a0 == 8233) = true := beq_iff_eq.mpr c11
                      have c11b1 : (a0 != 8233) = false := bne_eq_false_iff_eq.mpr c11
                      clear c11
                      obtain rfl := Option.some.inj H
                      go_enter Tryd.func44, Tryd.ntmps44
                      go_wp2
                      go_ret
                      exact ⟨by first | rfl | (simp; done) | (simp [*]; done), by repeat (first | exact Drawn0.refl _ | apply Drawn0.step)⟩
                    · rw [if_neg c11] at H
                      have c11b0 : (a0 == 8233) = false := beq_eq_false_iff_ne.mpr c11
                      have c11b1 : (a0 != 8233) = true := bne_iff_ne.mpr c11
                      by_cases c12 : a0 = 8239
                      · rw [if_pos c12] at H
                        have c12b0 : (a0 == 8239) = true := beq_iff_eq.mpr c12
                        have c12b1 : (a0 != 8239) = false := bne_eq_false_iff_eq.mpr c12
                        clear c12
                        obtain rfl := Option.some.inj H
                        go_enter Tryd.func44, Tryd.ntmps44
                        go_wp2
                        go_ret
                        exact ⟨by first | rfl | (simp; done) | (simp [*]; done), by repeat (first | exact Drawn0.refl _ | apply Drawn0.step)⟩
                      · rw [if_neg c12] at H
                        have c12b0 : (a0 == 8239) = false := beq_eq_false_iff_ne.mpr c12
                        have c12b1 : (a0 != 8239) = true := bne_iff_ne.mpr c12
                        by_cases c13 : a0 = 8287
                        · rw [if_pos c13] at H
                          have c13b0 : (a0 == 8287) = true := beq_iff_eq.mpr c13
                          have c13b1 : (a0 != 8287) = false := bne_eq_false_iff_eq.mpr c13
                          clear c13
                          obtain rfl := Option.some.inj H
                          go_enter Tryd.func44, Tryd.ntmps44
                          go_wp2
                          go_ret
                          exact ⟨by first | rfl | (simp; done) | (simp [*]; done), by repeat (first | exact Drawn0.refl _ | apply Drawn0.step)⟩
                        · rw [if_neg c13] at H
                          have c13b0 : (a0 == 8287) = false := beq_eq_false_iff_ne.mpr c13
                          have c13b1 : (a0 != 8287) = true := bne_iff_ne.mpr c13
                          obtain rfl := Option.some.inj H
                          go_enter Tryd.func44, Tryd.ntmps44
                          go_wp2
                          go_ret
                          exact ⟨by first | rfl | (simp; done) | (simp [*]; done), by repeat (first | exact Drawn0.refl _ | apply Drawn0.step)⟩
              · rw [if_neg c8] at H
                have c8b0 : decide (8192 ≤ a0) = false := decide_eq_false c8
                clear c8
                by_cases c14 : a0 = 8232
                · rw [if_pos c14] at H
                  have c14b0 : (a0 == 8232) = true := beq_iff_eq.mpr c14
                  have c14b1 : (a0 != 8232) = false := bne_eq_false_iff_eq.mpr c14
                  clear c14
                  obtain rfl := Option.some.inj H
                  go_enter Tryd.func44, Tryd.ntmps44
                  go_wp2
                  go_ret
                  exact ⟨by first | rfl | (simp; done) | (simp [*]; done), by repeat (first | exact Drawn0.refl _ | apply Drawn0.step)⟩
                · rw [if_neg c14] at H
                  have c14b0 : (a0 == 8232) = false := beq_eq_false_iff_ne.mpr c14
                  have c14b1 : (a0 != 8232) = true := bne_iff_ne.mpr c14
                  by_cases c15 : a0 = 8233
                  · rw [if_pos c15] at H
                    have c15b0 : (a0 == 8233) = true := beq_iff_eq.mpr c15
                    have c15b1 : (a0 != 8233) = false := bne_eq_false_iff_eq.mpr c15
                    clear c15
                    obtain rfl := Option.some.inj H
                    go_enter Tryd.func44, Tryd.ntmps44
                    go_wp2
                    go_ret
                    exact ⟨by first | rfl | (simp; done) | (simp [*]; done), by repeat (first | exact Drawn0.refl _ | apply Drawn0.step)⟩
                  · rw [if_neg c15] at H
                    have c15b0 : (a0 == 8233) = false := beq_eq_false_iff_ne.mpr c15
                    have c15b1 : (a0 != 8233) = true := bne_iff_ne.mpr c15
                    by_cases c16 : a0 = 8239
                    · rw [if_pos c16] at H
                      have c16b0 : (a0 == 8239) = true := beq_iff_eq.mpr c16
                      have c16b1 : (a0 != 8239) = false := bne_eq_false_iff_eq.mpr c16
                      clear c16
                      obtain rfl := Option.some.inj H
                      go_enter Tryd.func44, Tryd.ntmps44
                      go_wp2
                      go_ret
                      exact ⟨by first | rfl | (simp; done) | (simp [*]; done), by repeat (first | exact Drawn0.refl _ | apply Drawn0.step)⟩
                    · rw [if_neg c16] at H
                      have c16b0 : (a0 == 8239) = false := beq_eq_false_iff_ne.mpr c16
                      have c16b1 : (a0 != 8239) = true := bne_iff_ne.mpr c16
                      by_cases c17 : a0 = 8287
                      · rw [if_pos c17] at H
                        have c17b0 : (a0 == 8287) = true := beq_iff_eq.mpr c17
                        have c17b1 : (a0 != 8287) = false := bne_eq_false_iff_eq.mpr c17
                        clear c17
                        obtain rfl := Option.some.inj H
                        go_enter Tryd.func44, Tryd.ntmps44
                        go_wp2
                        go_ret
                        exact ⟨by first | rfl | (simp; done) | (simp [*]; done), by repeat (first | exact Drawn0.refl _ | apply Drawn0.step)⟩
                      · rw [if_neg c17] at H
                        have c17b0 : (a0 == 8287) = false := beq_eq_false_iff_ne.mpr c17
                        have c17b1 : (a0 != 8287) = true := bne_iff_ne.mpr c17
                        obtain rfl := Option.some.inj H
                        go_enter Tryd.func44, Tryd.ntmps44
                        go_wp2
                        go_ret
                        exact ⟨by first | rfl | (simp; done) | (simp [*]; done), by repeat (first | exact Drawn0.refl _ | apply Drawn0.step)⟩
  · rw [if_neg c2] at H
    have c2b0 : decide (9 ≤ a0) = false := decide_eq_false c2
    clear c2
    by_cases c18 : a0 = 32
    · rw [if_pos c18] at H
      have c18b0 : (a0 == 32) = true := beq_iff_eq.mpr c18
      have c18b1 : (a0 != 32) = false := bne_eq_false_iff_eq.mpr c18
      clear c18
      obtain rfl := Option.some.inj H
      go_enter Tryd.func44, Tryd.ntmps44
      go_wp2
      go_ret
      exact ⟨by first | rfl | (simp; done) | (simp [*]; done), by repeat (first | exact Drawn0.refl _ | apply Drawn0.step)⟩
    · rw [if_neg c18] at H
      have c18b0 : (a0 == 32) = false := beq_eq_false_iff_ne.mpr c18
      have c18b1 : (a0 != 32) = true := bne_iff_ne.mpr c18
      by_cases c19 : a0 = 133
      · rw [if_pos c19] at H
        have c19b0 : (a0 == 133) = true := beq_iff_eq.mpr c19
        have c19b1 : (a0 != 133) = false := bne_eq_false_iff_eq.mpr c19
        clear c19
        obtain rfl := Option.some.inj H
        go_enter Tryd.func44, Tryd.ntmps44
        go_wp2
        go_ret
        exact ⟨by first | rfl | (simp; done) | (simp [*]; done), by repeat (first | exact Drawn0.refl _ | apply Drawn0.step)⟩
      · rw [if_neg c19] at H
        have c19b0 : (a0 == 133) = false := beq_eq_false_iff_ne.mpr c19
        have c19b1 : (a0 != 133) = true := bne_iff_ne.mpr c19
        by_cases c20 : a0 = 160
        · rw [if_pos c20] at H
          have c20b0 : (a0 == 160) = true := beq_iff_eq.mpr c20
          have c20b1 : (a0 != 160) = false := bne_eq_false_iff_eq.mpr c20
          clear c20
          obtain rfl := Option.some.inj H
          go_enter Tryd.func44, Tryd.ntmps44
          go_wp2
          go_ret
          exact ⟨by first | rfl | (simp; done) | (simp [*]; done), by repeat (first | exact Drawn0.refl _ | apply Drawn0.step)⟩
        · rw [if_neg c20] at H
          have c20b0 : (a0 == 160) = false := beq_eq_false_iff_ne.mpr c20
          have c20b1 : (a0 != 160) = true := bne_iff_ne.mpr c20
          by_cases c21 : a0 = 5760
          · rw [if_pos c21] at H
            have c21b0 : (a0 == 5760) = true := beq_iff_eq.mpr c21
            have c21b1 : (a0 != 5760) = false := bne_eq_false_iff_eq.mpr c21
            clear c21
            obtain rfl := Option.some.inj H
            go_enter Tryd.func44, Tryd.ntmps44
            go_wp2
            go_ret
            exact ⟨by first | rfl | (simp; done) | (simp [*]; done), by repeat (first | exact Drawn0.refl _ | apply Drawn0.step)⟩
          · rw [if_neg c21] at H
            have c21b0 : (a0 == 5760) = false := beq_eq_false_iff_ne.mpr c21
            have c21b1 : (a0 != 5760) = true := bne_iff_ne.mpr c21
            by_cases c22 : a0 ≥ 8192
            · rw [if_pos c22] at H
              have c22b0 : decide (8192 ≤ a0) = true := decide_eq_true c22
              clear c22
              by_cases c23 : a0 ≤ 8202
              · rw [if_pos c23] at H
                have c23b0 : decide (a0 ≤ 8202) = true := decide_eq_true c23
                clear c23
                obtain rfl := Option.some.inj H
                go_enter Tryd.func44, Tryd.ntmps44
                go_wp2
                go_ret
                exact ⟨by first | rfl | (simp; done) | (simp [*]; done), by repeat (first | exact Drawn0.refl _ | apply Drawn0.step)⟩
              · rw [if_neg c23] at H
                have c23b0 : decide (a0 ≤ 8202) = false := decide_eq_false c23
                clear c23
                by_cases c24 : a0 = 8232
                · rw [if_pos c24] at H
                  have c24b0 : (a0 == 8232) = true := beq_iff_eq.mpr c24
                  have c24b1 : (a0 != 8232) = false := bne_eq_false_iff_eq.mpr c24
                  clear c24
                  obtain rfl := Option.some.inj H
                  go_enter Tryd.func44, Tryd.ntmps44
                  go_wp2
                  go_ret
                  exact ⟨by first | rfl | (simp; done) | (simp [*]; done), by repeat (first | exact Drawn0.refl _ | apply Drawn0.step)⟩
                · rw [if_neg c24] at H
                  have c24b0 : (a0 == 8232) = false := beq_eq_false_iff_ne.mpr c24
                  have c24b1 : (a0 != 8232) = true := bne_iff_ne.mpr c24
                  by_cases c25 : a0 = 8233
                  · rw [if_pos c25] at H
                    have c25b0 : (a0 == 8233) = true := beq_iff_eq.mpr c25
                    have c25b1 : (a0 != 8233) = false := bne_eq_false_iff_eq.mpr c25
                    clear c25
                    obtain rfl := Option.some.inj H
                    go_enter Tryd.func44, Tryd.ntmps44
                    go_wp2
                    go_ret
                    exact ⟨by first | rfl | (simp; done) | (simp [*]; done), by repeat (first | exact Drawn0.refl _ | apply Drawn0.step)⟩
                  · rw [if_neg c25] at H
                    have c25b0 : (a0 == 8233) = false := beq_eq_false_iff_ne.mpr c25
                    have c25b1 : (a0 != 8233) = true := bne_iff_ne.mpr c25
                    by_cases c26 : a0 = 8239
                    · rw [if_pos c26] at H
                      have c26b0 : (a0 == 8239) = true := beq_iff_eq.mpr c26
                      have c26b1 : (a0 != 8239) = false := bne_eq_false_iff_eq.mpr c26
                      clear c26
                      obtain rfl := Option.some.inj H
                      go_enter Tryd.func44, Tryd.ntmps44
                      go_wp2
                      go_ret
                      exact ⟨by first | rfl | (simp; done) | (simp [*]; done), by repeat (first | exact Drawn0.refl _ | apply Drawn0.step)⟩
                    · rw [if_neg c26] at H
                      have c26b0 : (a0 == 8239) = false := beq_eq_false_iff_ne.mpr c26
                      have c26b1 : (a0 != 8239) = true := bne_iff_ne.mpr c26
                      by_cases c27 : a0 = 8287
                      · rw [if_pos c27] at H
                        have c27b0 : (a0 == 8287) = true := beq_iff_eq.mpr c27
                        have c27b1 : (a0 != 8287) = false := bne_eq_false_iff_eq.mpr c27
                        clear c27
                        obtain rfl := Option.some.inj H
                        go_enter Tryd.func44, Tryd.ntmps44
                        go_wp2
                        go_ret
                        exact ⟨by first | rfl | (simp; done) | (simp [*]; done), by repeat (first | exact Drawn0.refl _ | apply Drawn0.step)⟩
                      · rw [if_neg c27] at H
                        have c27b0 : (a0 == 8287) = false := beq_eq_false_iff_ne.mpr c27
                        have c27b1 : (a0 != 8287) = true := bne_iff_ne.mpr c27
                        obtain rfl := Option.some.inj H
                        go_enter Tryd.func44, Tryd.ntmps44
                        go_wp2
                        go_ret
                        exact ⟨by first | rfl | (simp; done) | (simp [*]; done), by repeat (first | exact Drawn0.refl _ | apply Drawn0.step)⟩
            · rw [if_neg c22] at H
              have c22b0 : decide (8192 ≤ a0) = false := decide_eq_false c22
              clear c22
              by_cases c28 : a0 = 8232
              · rw [if_pos c28] at H
                have c28b0 : (a0 == 8232) = true := beq_iff_eq.mpr c28
                have c28b1 : (a0 != 8232) = false := bne_eq_false_iff_eq.mpr c28
                clear c28
                obtain rfl := Option.some.inj H
                go_enter Tryd.func44, Tryd.ntmps44
                go_wp2
                go_ret
                exact ⟨by first | rfl | (simp; done) | (simp [*]; done), by repeat (first | exact Drawn0.refl _ | apply Drawn0.step)⟩
              · rw [if_neg c28] at H
                have c28b0 : (a0 == 8232) = false := beq_eq_false_iff_ne.mpr c28
                have c28b1 : (a0 != 8232) = true := bne_iff_ne.mpr c28
                by_cases c29 : a0 = 8233
                · rw [if_pos c29] at H
                  have c29b0 : (a0 == 8233) = true := beq_iff_eq.mpr c29
                  have c29b1 : (a0 != 8233) = false := bne_eq_false_iff_eq.mpr c29
                  clear c29
                  obtain rfl := Option.some.inj H
                  go_enter Tryd.func44, Tryd.ntmps44
                  go_wp2
                  go_ret
                  exact ⟨by first | rfl | (simp; done) | (simp [*]; done), by repeat (first | exact Drawn0.refl _ | apply Drawn0.step)⟩
                · rw [if_neg c29] at H
                  have c29b0 : (a0 == 8233) = false := beq_eq_false_iff_ne.mpr c29
                  have c29b1 : (a0 != 8233) = true := bne_iff_ne.mpr c29
                  by_cases c30 : a0 = 8239
                  · rw [if_pos c30] at H
                    have c30b0 : (a0 == 8239) = true := beq_iff_eq.mpr c30
                    have c30b1 : (a0 != 8239) = false := bne_eq_false_iff_eq.mpr c30
                    clear c30
                    obtain rfl := Option.some.inj H
                    go_enter Tryd.func44, Tryd.ntmps44
                    go_wp2
                    go_ret
                    exact ⟨by first | rfl | (simp; done) | (simp [*]; done), by repeat (first | exact Drawn0.refl _ | apply Drawn0.step)⟩
                  · rw [if_neg c30] at H
                    have c30b0 : (a0 == 8239) = false := beq_eq_false_iff_ne.mpr c30
                    have c30b1 : (a0 != 8239) = true := bne_iff_ne.mpr c30
                    by_cases c31 : a0 = 8287
                    · rw [if_pos c31] at H
                      have c31b0 : (a0 == 8287) = true := beq_iff_eq.mpr c31
                      have c31b1 : (a0 != 8287) = false := bne_eq_false_iff_eq.mpr c31
                      clear c31
                      obtain rfl := Option.some.inj H
                      go_enter Tryd.func44, Tryd.ntmps44
                      go_wp2
                      go_ret
                      exact ⟨by first | rfl | (simp; done) | (simp [*]; done), by repeat (first | exact Drawn0.refl _ | apply Drawn0.step)⟩
                    · rw [if_neg c31] at H
                      have c31b0 : (a0 == 8287) = false := beq_eq_false_iff_ne.mpr c31
                      have c31b1 : (a0 != 8287) = true := bne_iff_ne.mpr c31
                      obtain rfl := Option.some.inj H
                      go_enter Tryd.func44, Tryd.ntmps44
                      go_wp2
                      go_ret
                      exact ⟨by first | rfl | (simp; done) | (simp [*]; done), by repeat (first | exact Drawn0.refl _ | apply Drawn0.step)⟩

/-! ### spec_cut_IsSpace: function 43 -/
mutual
def spec_cut_IsSpace.j1 : Nat → List Int → Option (ByteArray)
  | 0, _ => none
  | k + 1, x5 => spec_cut_IsSpace.l1 k x5
def spec_cut_IsSpace.l1 : Nat → List Int → Option (ByteArray)
  | 0, _ => none
  | k + 1, x5 => if (x5.length : Int) > 0 then (if 0 ≤ (wrap64 ((x5.length : Int) - 1)) then (if (wrap64 ((x5.length : Int) - 1)) < (x5.length : Int) then ((spec_IsSpace.f (rd x5 (wrap64 ((x5.length : Int) - 1)))).bind fun t187 => (if t187 = true then (if (wrap64 ((x5.length : Int) - 1)) ≤ (x5.length : Int) then (spec_cut_IsSpace.l1 k (x5.take ((wrap64 ((x5.length : Int) - 1)) : Int).toNat)) else (none)) else (some (runesBytes x5)))) else (none)) else (none)) else (some (runesBytes x5))
def spec_cut_IsSpace.l0 : Nat → List Int → Option (ByteArray)
  | 0, _ => none
  | k + 1, x5 => if (x5.length : Int) > 0 then (if 0 < (x5.length : Int) then ((spec_IsSpace.f (rd x5 0)).bind fun t182 => (if t182 = true then (if 1 ≤ (x5.length : Int) then (spec_cut_IsSpace.l0 k (x5.drop (1 : Int).toNat)) else (none)) else (spec_cut_IsSpace.j1 k x5))) else (none)) else (spec_cut_IsSpace.j1 k x5)
end
def spec_cut_IsSpace.f (k : Nat) (a0 : ByteArray) : Option (ByteArray) := (spec_Points.f a0).bind fun bt177 => (spec_cut_IsSpace.l0 k bt177.1)
theorem spec_cut_IsSpace.mono_l : ∀ k, (∀ y0, LeO (spec_cut_IsSpace.j1 k y0) (spec_cut_IsSpace.j1 (k + 1) y0)) ∧ (∀ y0, LeO (spec_cut_IsSpace.l1 k y0) (spec_cut_IsSpace.l1 (k + 1) y0)) ∧ (∀ y0, LeO (spec_cut_IsSpace.l0 k y0) (spec_cut_IsSpace.l0 (k + 1) y0))
  | 0 => ⟨fun _ r h => by simp [spec_cut_IsSpace.j1] at h, fun _ r h => by simp [spec_cut_IsSpace.l1] at h, fun _ r h => by simp [spec_cut_IsSpace.l0] at h⟩
  | k + 1 => by
    obtain ⟨ih0, ih1, ih2⟩ := spec_cut_IsSpace.mono_l k
    refine ⟨?_, ?_, ?_⟩
    · intro y0
      unfold spec_cut_IsSpace.j1
      repeat' first
      | (with_reducible exact ih0 _)
      | (with_reducible exact ih1 _)
      | (with_reducible exact ih2 _)
      | (with_reducible exact LeO.refl _)
      | (with_reducible exact LeO.none _)
      | (with_reducible refine LeO.ite ?_ ?_)
      | (with_reducible refine LeO.bind ?_ (fun _ => ?_))
      | exact ih0 _
      | exact ih1 _
      | exact ih2 _
      | exact LeO.none _
      | refine LeO.ite ?_ ?_
      | refine LeO.bind ?_ (fun _ => ?_)
    · intro y0
      unfold spec_cut_IsSpace.l1
      repeat' first
      | (with_reducible exact ih0 _)
      | (with_reducible exact ih1 _)
      | (with_reducible exact ih2 _)
      | (with_reducible exact LeO.refl _)
      | (with_reducible exact LeO.none _)
      | (with_reducible refine LeO.ite ?_ ?_)
      | (with_reducible refine LeO.bind ?_ (fun _ => ?_))
      | exact ih0 _
      | exact ih1 _
      | exact ih2 _
      | exact LeO.none _
      | refine LeO.ite ?_ ?_
      | refine LeO.bind ?_ (fun _ => ?_)
    · intro y0
      unfold spec_cut_IsSpace.l0
      repeat' first
      | (with_reducible exact ih0 _)
      | (with_reducible exact ih1 _)
      | (with_reducible exact ih2 _)
      | (with_reducible exact LeO.refl _)
      | (with_reducible exact LeO.none _)
      | (with_reducible refine LeO.ite ?_ ?_)
      | (with_reducible refine LeO.bind ?_ (fun _ => ?_))
      | exact ih0 _
      | exact ih1 _
      | exact ih2 _
      | exact LeO.none _
      | refine LeO.ite ?_ ?_
      | refine LeO.bind ?_ (fun _ => ?_)
theorem spec_cut_IsSpace.mono : ∀ a0 k, LeO (spec_cut_IsSpace.f k a0) (spec_cut_IsSpace.f (k + 1) a0) := by
  intro a0 k
  obtain ⟨ih0, ih1, ih2⟩ := spec_cut_IsSpace.mono_l k
  unfold spec_cut_IsSpace.f
  repeat' first
      | (with_reducible exact ih0 _)
      | (with_reducible exact ih1 _)
      | (with_reducible exact ih2 _)
      | (with_reducible exact LeO.refl _)
      | (with_reducible exact LeO.none _)
      | (with_reducible refine LeO.ite ?_ ?_)
      | (with_reducible refine LeO.bind ?_ (fun _ => ?_))
      | exact ih0 _
      | exact ih1 _
      | exact ih2 _
      | exact LeO.none _
      | refine LeO.ite ?_ ?_
      | refine LeO.bind ?_ (fun _ => ?_)
set_option maxHeartbeats 8000000 in
set_option maxRecDepth 100000 in
theorem spec_cut_IsSpace.calls (k : Nat) (a0 : ByteArray) (r : ByteArray) (w : World) (h : spec_cut_IsSpace.f k a0 = some r) :
    Calls Tryd.prog 43 #[.string a0, .func (Fn.func 44) #[] #[]] w fun e w' => e = .returned (.string r) ∧ Below w.heap.size w w' := by
  have HB := Aside0.mk (Below.refl w.heap.size w)
  have H : ((spec_Points.f a0).bind fun bt177 => (spec_cut_IsSpace.l0 k bt177.1)) = some r := h
  clear h
  replace H := Option.bind_eq_some_iff.mp H
  obtain ⟨⟨t177, t178⟩, A20, H⟩ := H
  replace H : (spec_cut_IsSpace.l0 k t177) = some r := H
  have A2 := Aside0.mk A20
  clear A20
  have HC3 := Aside0.mk H
  clear H
  go_enter Tryd.func43, Tryd.ntmps43
  go_upto_block 0 with (first | ((with_reducible refine gate_callee (f := 59) rfl ?_); refine goesL_ (some 9) rfl rfl Tryd.func59 (by kernel_rfl) rfl #[.string a0] rfl (by (try simp only [List.map_toArray, List.map_cons, List.map_nil]); first | done | rfl | (simp only [List.length_drop, List.length_take]; rfl)) ?_; (with_reducible refine (spec_Points.calls a0 t177 t178 _ A2.out).mono ?_); rintro e w4 ⟨v179, rfl, ho0, hb⟩; refine ⟨_, rfl, ?_⟩; have n0_ := Aside0.mk (Kd.R_lower ho0 (below_size (by repeat (first | (with_reducible first | exact HB.out | apply below_alloc | apply pw_below_drewN | apply below_drew1) | exact HB.out)))); have n1_ := Aside0.mk (below_step (by repeat (first | (with_reducible first | exact HB.out | apply below_alloc | apply pw_below_drewN | apply below_drew1) | exact HB.out)) hb); clear HB; have HO180 := n0_; have HB := n1_; clear n0_ n1_; (try clear hb); (try clear hb2); (try clear hk); (try clear hi); (try clear ho0)))
  (try simp only [Act.put, List.setIfInBounds_toArray, List.set_cons_zero, List.set_cons_succ])
  go_cut [5] (fun v5 wc => ∃ (kq : Nat) (x5_2 : List Int), Aside0 (spec_cut_IsSpace.j1 kq x5_2 = some r) ∧ Aside0 (kq ≤ k) ∧ Aside0 (Kd.Q (Kd.int .i32) 21 wc w.heap.size (fun _ => True) v5 x5_2) ∧ Aside0 (Below w.heap.size w wc))
  case first =>
    have H := HC3.out
    clear HC3
    have H' := Aside0.mk H
    clear H
    go_wp2
    go_loopg [5] k (fun kq v5 w' => ∃ (x5_1 : List Int), Aside0 (spec_cut_IsSpace.l0 kq x5_1 = some r) ∧ Aside0 (kq ≤ k) ∧ Aside0 (Kd.Q (Kd.int .i32) 21 w' w.heap.size (fun _ => True) v5 x5_1) ∧ Aside0 (Below w.heap.size w w'))
    case atStart => exact ⟨(t177), H', ⟨Nat.le_refl _⟩, ⟨Kd.Q_of_R (by (with_reducible repeat (first | apply Kd.R_alloc | apply Kd.R_drewN | apply Kd.R_drew)); exact HO180.out)⟩, ⟨by repeat (first | (with_reducible first | exact HB.out | apply below_alloc | apply pw_below_drewN | apply below_drew1) | exact HB.out)⟩⟩
    case round =>
      clear H'
      try clear p2
      obtain ⟨x5_1, HA, HK1, HO_5, HB⟩ := hrel
      cases gk with
      | zero => exact absurd HA.out (by simp [spec_cut_IsSpace.l0])
      | succ k1 =>
        have H := HA.out
        clear HA
        simp only [spec_cut_IsSpace.l0] at H
        by_cases c5 : (x5_1.length : Int) > 0
        · rw [if_pos c5] at H
          have c5b0 : decide (0 < (x5_1.length : Int)) = true := decide_eq_true c5
          have c5b1 : decide (0 < x5_1.length) = true := decide_eq_true (by omega)
          clear c5
          (first | rw [c5b0] | (simp only [i64_w, i32_w]; rw [c5b0]) | skip)
          by_cases c6 : 0 < (x5_1.length : Int)
          · rw [if_pos c6] at H
            have c6b0 : decide (0 < (x5_1.length : Int)) = true := decide_eq_true c6
            have c6b1 : decide (0 < x5_1.length) = true := decide_eq_true (by omega)
            clear c6
            replace H := Option.bind_eq_some_iff.mp H
            obtain ⟨t182, A70, H⟩ := H
            replace H : (if t182 = true then (if 1 ≤ (x5_1.length : Int) then (spec_cut_IsSpace.l0 k1 (x5_1.drop (1 : Int).toNat)) else (none)) else (spec_cut_IsSpace.j1 k1 x5_1)) = some r := H
            have A7 := Aside0.mk A70
            clear A70
            by_cases c8 : t182 = true
            · subst c8
              have H1 : (if 1 ≤ (x5_1.length : Int) then (spec_cut_IsSpace.l0 k1 (x5_1.drop (1 : Int).toNat)) else (none)) = some r := by rw [if_pos rfl] at H; exact H
              clear H
              have H := H1
              clear H1
              by_cases c9 : 1 ≤ (x5_1.length : Int)
              · rw [if_pos c9] at H
                have c9b0 := eq_true c9
                have c9b1 : decide (1 ≤ (x5_1.length : Int)) = true := decide_eq_true c9
                clear c9
                obtain ⟨y183, hy183⟩ : ∃ y_ : List Int, y_ = (x5_1.drop (1 : Int).toNat) := ⟨_, rfl⟩
                replace H : (spec_cut_IsSpace.l0 k1 y183) = some r := by first | (rw [hy183]; with_reducible exact H) | (have H2_ := (Option.bind_some _ _).symm.trans H; rw [hy183]; with_reducible exact H2_) | (have H2_ := (Option.bind_some _ _).symm.trans H; with_reducible exact H2_) | with_reducible exact H | (rw [hy183]; exact H) | exact H
                have Ny183 := Aside0.mk hy183
                clear hy183
                have H' := Aside0.mk H
                clear H
                obtain ⟨Ao10, co10, eo10, _⟩ := Kd.Q_slice HO_5.out
                subst eo10
                have p181 : 0 ≤ (0 : Int) := (by omega)
                have q181 : 0 < (x5_1.length : Int) := of_decide_eq_true (by first | (with_reducible assumption) | assumption)
                obtain ⟨ad181, e181, hx181_0⟩ := Kd.at_int (Kd.Q_reads' HO_5.out).2.2 0 p181 q181
                cases e181
                have qi181 : (0 < x5_1.length) = True := eq_true (by omega)
                (try rw [show ((0 : Int)).toNat = 0 from rfl] at hx181_0)
                (try rw [Addr.add_zero'] at hx181_0)
                replace p181 := eq_true p181
                replace q181 := eq_true q181
                go_wp2_with (first | (go_at_call 44; (with_reducible refine (spec_IsSpace.calls (rd x5_1 0) true _ A7.out).mono ?_); rintro e w' ⟨rfl, ⟨nd, rfl⟩⟩; have q11 : (1 : Int) ≤ ((x5_1.length : Int) : Int) := of_decide_eq_true (by first | (with_reducible assumption) | assumption); obtain ⟨i011, hi011, _, hsz11, _⟩ := info_parts info21; have hcut11 := cut_from (P := Tryd.prog) 54 21 .i64 Tryd.underlying54 hi011 1 hsz11 (some ad181) x5_1.length co10 1 (by omega) q11; have hr11 := Kd.Q_drop (k := (1 : Int).toNat) HO_5.out (by omega); obtain ⟨A11, hA11⟩ : ∃ A1, A1 = (if co10 = (1 : Int).toNat then (some ad181) else ((some ad181) : Option Addr).map (·.add ((1 : Int).toNat * 1))) := ⟨_, rfl⟩; obtain ⟨c11, hc11⟩ : ∃ c1, c1 = co10 - (1 : Int).toNat := ⟨_, rfl⟩; have hy11 : y183.length = x5_1.length - (1 : Int).toNat := (by rw [Ny183.out, List.length_drop]); rw [← Ny183.out] at hr11; rw [← hy11, ← hA11, ← hc11] at hcut11; replace hr11 : Kd.Q (Kd.int .i32) 21 wr w.heap.size (fun _ => True) (.slice A11 y183.length c11) y183 := (by rw [hA11, hc11, hy11]; exact hr11); have HE11 : Aside0 ((Value.slice A11 y183.length c11).ownBlock = (.slice (some ad181) x5_1.length co10 : Value).ownBlock) := ⟨by rw [hA11]; split <;> (cases ((some ad181) : Option Addr) <;> rfl)⟩; clear hy11 hi011 hsz11 HO_5 hA11 hc11; have HO185 := Aside0.mk hr11; clear hr11; replace q11 := eq_true q11))
                go_roundg k1
                case measure => have := HK1.out; omega
                case rel => exact ⟨(y183), H', ⟨by have := HK1.out; omega⟩, ⟨by (with_reducible repeat (first | apply Kd.Q_alloc | apply Kd.Q_drewN | apply Kd.Q_drew)); exact HO185.out⟩, ⟨by repeat (first | (with_reducible first | exact HB.out | apply below_alloc | apply pw_below_drewN | apply below_drew1) | exact HB.out)⟩⟩
              · rw [if_neg c9] at H
                exact absurd H (by simp)
            · replace c8 := Bool.eq_false_iff.mpr c8
              subst c8
              have H1 : (spec_cut_IsSpace.j1 k1 x5_1) = some r := by rw [if_neg (show ¬ (false = true) by decide)] at H; exact H
              clear H
              have H := H1
              clear H1
              have H' := Aside0.mk H
              clear H
              obtain ⟨Ao12, co12, eo12, _⟩ := Kd.Q_slice HO_5.out
              subst eo12
              have p181 : 0 ≤ (0 : Int) := (by omega)
              have q181 : 0 < (x5_1.length : Int) := of_decide_eq_true (by first | (with_reducible assumption) | assumption)
              obtain ⟨ad181, e181, hx181_0⟩ := Kd.at_int (Kd.Q_reads' HO_5.out).2.2 0 p181 q181
              cases e181
              have qi181 : (0 < x5_1.length) = True := eq_true (by omega)
              (try rw [show ((0 : Int)).toNat = 0 from rfl] at hx181_0)
              (try rw [Addr.add_zero'] at hx181_0)
              replace p181 := eq_true p181
              replace q181 := eq_true q181
              go_wp2_with (first | (go_at_call 44; (with_reducible refine (spec_IsSpace.calls (rd x5_1 0) false _ A7.out).mono ?_); rintro e w' ⟨rfl, ⟨nd, rfl⟩⟩))
              go_meet
              case rel => exact ⟨_, (x5_1), H', ⟨by have := HK1.out; first | omega | exact Nat.le_refl _⟩, ⟨by (with_reducible repeat (first | apply Kd.Q_alloc | apply Kd.Q_drewN | apply Kd.Q_drew)); exact HO_5.out⟩, ⟨by repeat (first | (with_reducible first | exact HB.out | apply below_alloc | apply pw_below_drewN | apply below_drew1) | exact HB.out)⟩⟩
          · rw [if_neg c6] at H
            exact absurd H (by simp)
        · rw [if_neg c5] at H
          have c5b0 : decide (0 < (x5_1.length : Int)) = false := decide_eq_false c5
          have c5b1 : decide (0 < x5_1.length) = false := decide_eq_false (by omega)
          clear c5
          (first | rw [c5b0] | (simp only [i64_w, i32_w]; rw [c5b0]) | skip)
          have H' := Aside0.mk H
          clear H
          obtain ⟨Ao13, co13, eo13, _⟩ := Kd.Q_slice HO_5.out
          subst eo13
          go_wp2
          go_meet
          case rel => exact ⟨_, (x5_1), H', ⟨by have := HK1.out; first | omega | exact Nat.le_refl _⟩, ⟨by (with_reducible repeat (first | apply Kd.Q_alloc | apply Kd.Q_drewN | apply Kd.Q_drew)); exact HO_5.out⟩, ⟨by repeat (first | (with_reducible first | exact HB.out | apply below_alloc | apply pw_below_drewN | apply below_drew1) | exact HB.out)⟩⟩
  case rest =>
    clear HC3
    try clear c1
    try clear p1
    try clear q1
    try clear hx1
    try clear qi1
    try clear p2
    try clear c5
    try clear c5b0
    try clear c5b1
    try clear c6
    try clear c6b0
    try clear c6b1
    try clear c8
    try clear c9
    try clear c9b0
    try clear c9b1
    try clear c11
    try clear q11
    try clear hx181_0
    try clear p181
    try clear p2
    try clear q11
    try clear q181
    obtain ⟨kq, x5_2, HA, HJ2, HO_5, HB⟩ := hcut
    cases kq with
    | zero => exact absurd HA.out (by simp [spec_cut_IsSpace.j1])
    | succ kj2 =>
      have H := HA.out
      clear HA
      simp only [spec_cut_IsSpace.j1] at H
      have H' := Aside0.mk H
      clear H
      go_wp2
      go_loopg [5] kj2 (fun kq v5 w' => ∃ (x5_2 : List Int), Aside0 (spec_cut_IsSpace.l1 kq x5_2 = some r) ∧ Aside0 (kq ≤ kj2) ∧ Aside0 (Kd.Q (Kd.int .i32) 21 w' w.heap.size (fun _ => True) v5 x5_2) ∧ Aside0 (Below w.heap.size w w'))
      case atStart => exact ⟨(x5_2), H', ⟨Nat.le_refl _⟩, ⟨by (with_reducible repeat (first | apply Kd.Q_alloc | apply Kd.Q_drewN | apply Kd.Q_drew)); exact HO_5.out⟩, ⟨by repeat (first | (with_reducible first | exact HB.out | apply below_alloc | apply pw_below_drewN | apply below_drew1) | exact HB.out)⟩⟩
      case round =>
        clear H'
        try clear c1
        try clear p1
        try clear q1
        try clear hx1
        try clear qi1
        try clear p2
        try clear c5
        try clear c5b0
        try clear c5b1
        try clear c6
        try clear c6b0
        try clear c6b1
        try clear c8
        try clear c9
        try clear c9b0
        try clear c9b1
        try clear c11
        try clear q11
        try clear hx181_0
        try clear p1
        try clear p181
        try clear p2
        try clear q1
        try clear q11
        try clear q181
        obtain ⟨x5_2, HA, HK2, HO_5, HB⟩ := hrel
        cases gk with
        | zero => exact absurd HA.out (by simp [spec_cut_IsSpace.l1])
        | succ k2 =>
          have H := HA.out
          clear HA
          simp only [spec_cut_IsSpace.l1] at H
          by_cases c14 : (x5_2.length : Int) > 0
          · rw [if_pos c14] at H
            have c14b0 : decide (0 < (x5_2.length : Int)) = true := decide_eq_true c14
            have c14b1 : decide (0 < x5_2.length) = true := decide_eq_true (by omega)
            clear c14
            obtain ⟨ji15, hji15⟩ : ∃ j_ : Int, (wrap64 ((x5_2.length : Int) - 1)) = j_ := ⟨_, rfl⟩
            replace H : (if 0 ≤ (ji15) then (if (ji15) < (x5_2.length : Int) then ((spec_IsSpace.f (rd x5_2 (ji15))).bind fun t187 => (if t187 = true then (if (ji15) ≤ (x5_2.length : Int) then (spec_cut_IsSpace.l1 k2 (x5_2.take ((ji15) : Int).toNat)) else (none)) else (some (runesBytes x5_2)))) else (none)) else (none)) = some r := by first | (rw [hji15] at H; exact H) | (simp only [hji15] at H ⊢; exact H)
            have hji15w : (IntKind.i64.wrap ((x5_2.length : Int) - 1)) = ji15 := (i64_w _).trans hji15
            by_cases c16 : 0 ≤ (ji15)
            · rw [if_pos c16] at H
              have c16b0 : decide (0 ≤ (ji15)) = true := decide_eq_true c16
              clear c16
              by_cases c17 : (ji15) < (x5_2.length : Int)
              · rw [if_pos c17] at H
                have c17b0 : decide ((ji15) < (x5_2.length : Int)) = true := decide_eq_true c17
                clear c17
                replace H := Option.bind_eq_some_iff.mp H
                obtain ⟨t187, A180, H⟩ := H
                replace H : (if t187 = true then (if (ji15) ≤ (x5_2.length : Int) then (spec_cut_IsSpace.l1 k2 (x5_2.take ((ji15) : Int).toNat)) else (none)) else (some (runesBytes x5_2))) = some r := H
                have A18 := Aside0.mk A180
                clear A180
                by_cases c19 : t187 = true
                · subst c19
                  have H1 : (if (ji15) ≤ (x5_2.length : Int) then (spec_cut_IsSpace.l1 k2 (x5_2.take ((ji15) : Int).toNat)) else (none)) = some r := by rw [if_pos rfl] at H; exact H
                  clear H
                  have H := H1
                  clear H1
                  by_cases c20 : (ji15) ≤ (x5_2.length : Int)
                  · rw [if_pos c20] at H
                    have c20b0 := eq_true c20
                    have c20b1 : decide ((ji15) ≤ (x5_2.length : Int)) = true := decide_eq_true c20
                    clear c20
                    obtain ⟨y188, hy188⟩ : ∃ y_ : List Int, y_ = (x5_2.take ((ji15) : Int).toNat) := ⟨_, rfl⟩
                    replace H : (spec_cut_IsSpace.l1 k2 y188) = some r := by first | (rw [hy188]; with_reducible exact H) | (have H2_ := (Option.bind_some _ _).symm.trans H; rw [hy188]; with_reducible exact H2_) | (have H2_ := (Option.bind_some _ _).symm.trans H; with_reducible exact H2_) | with_reducible exact H | (rw [hy188]; exact H) | exact H
                    have Ny188 := Aside0.mk hy188
                    clear hy188
                    have H' := Aside0.mk H
                    clear H
                    obtain ⟨Ao21, co21, eo21, _⟩ := Kd.Q_slice HO_5.out
                    subst eo21
                    have p186 : 0 ≤ ((ji15) : Int) := of_decide_eq_true (by first | (with_reducible assumption) | assumption)
                    have q186 : (ji15) < (x5_2.length : Int) := of_decide_eq_true (by first | (with_reducible assumption) | assumption)
                    obtain ⟨ad186, e186, hx186_0⟩ := Kd.at_int (Kd.Q_reads' HO_5.out).2.2 (ji15) p186 q186
                    cases e186
                    replace p186 := eq_true p186
                    replace q186 := eq_true q186
                    go_wp2_with (first | (go_at_call 44; (with_reducible refine (spec_IsSpace.calls (rd x5_2 (ji15)) true _ A18.out).mono ?_); rintro e w' ⟨rfl, ⟨nd, rfl⟩⟩; have q22 : ((ji15) : Int) ≤ ((x5_2.length : Int) : Int) := of_decide_eq_true (by first | (with_reducible assumption) | assumption); obtain ⟨i022, hi022, _, hsz22, _⟩ := info_parts info21; have hcut22 := cut_to (P := Tryd.prog) 54 21 .i64 Tryd.underlying54 hi022 (some ad186) x5_2.length co21 (ji15) (of_decide_eq_true (by first | (with_reducible assumption) | assumption)) q22 (Kd.Q_reads' HO_5.out).2.1; have hr22 := Kd.Q_take (m := ((ji15) : Int).toNat) HO_5.out (by omega); have hy22 : y188.length = ((ji15) : Int).toNat := (by rw [Ny188.out, List.length_take]; omega); rw [← Ny188.out] at hr22; rw [← hy22] at hr22 hcut22; clear hy22 hi022 hsz22 HO_5; have HO190 := Aside0.mk hr22; clear hr22; replace q22 := eq_true q22))
                    go_roundg k2
                    case measure => have := HJ2.out; have := HK2.out; omega
                    case rel => exact ⟨(y188), H', ⟨by have := HJ2.out; have := HK2.out; omega⟩, ⟨by (with_reducible repeat (first | apply Kd.Q_alloc | apply Kd.Q_drewN | apply Kd.Q_drew)); exact HO190.out⟩, ⟨by repeat (first | (with_reducible first | exact HB.out | apply below_alloc | apply pw_below_drewN | apply below_drew1) | exact HB.out)⟩⟩
                  · rw [if_neg c20] at H
                    exact absurd H (by simp)
                · replace c19 := Bool.eq_false_iff.mpr c19
                  subst c19
                  have H1 : (some (runesBytes x5_2)) = some r := by rw [if_neg (show ¬ (false = true) by decide)] at H; exact H
                  clear H
                  have H := H1
                  clear H1
                  obtain rfl := Option.some.inj H
                  obtain ⟨Ao23, co23, eo23, _⟩ := Kd.Q_slice HO_5.out
                  subst eo23
                  have p186 : 0 ≤ ((ji15) : Int) := of_decide_eq_true (by first | (with_reducible assumption) | assumption)
                  have q186 : (ji15) < (x5_2.length : Int) := of_decide_eq_true (by first | (with_reducible assumption) | assumption)
                  obtain ⟨ad186, e186, hx186_0⟩ := Kd.at_int (Kd.Q_reads' HO_5.out).2.2 (ji15) p186 q186
                  cases e186
                  replace p186 := eq_true p186
                  replace q186 := eq_true q186
                  go_wp2_with (first | (go_at_call 44; (with_reducible refine (spec_IsSpace.calls (rd x5_2 (ji15)) false _ A18.out).mono ?_); rintro e w' ⟨rfl, ⟨nd, rfl⟩⟩; have hcv24 := Q_runestring (P := Tryd.prog) Tryd.underlying54 Tryd.underlying21 Tryd.underlying9 (HO_5.out); have hcv24d := Q_runestring_d (P := Tryd.prog) Tryd.underlying54 Tryd.underlying21 Tryd.underlying9 (HO_5.out)))
                  go_ret
                  exact ⟨by first | rfl | (simp [errW_none, errW_some] <;> rfl) | (simp only [← hji15]; first | rfl | (simp [errW_none, errW_some] <;> rfl)) | (simp [*, errW_none, errW_some] <;> rfl), by repeat (first | (with_reducible first | exact HB.out | apply below_alloc | apply pw_below_drewN | apply below_drew1) | exact HB.out)⟩
              · rw [if_neg c17] at H
                exact absurd H (by simp)
            · rw [if_neg c16] at H
              exact absurd H (by simp)
          · rw [if_neg c14] at H
            have c14b0 : decide (0 < (x5_2.length : Int)) = false := decide_eq_false c14
            have c14b1 : decide (0 < x5_2.length) = false := decide_eq_false (by omega)
            clear c14
            obtain rfl := Option.some.inj H
            obtain ⟨Ao25, co25, eo25, _⟩ := Kd.Q_slice HO_5.out
            subst eo25
            have hcv26 := Q_runestring (P := Tryd.prog) Tryd.underlying54 Tryd.underlying21 Tryd.underlying9 (HO_5.out)
            have hcv26d := Q_runestring_d (P := Tryd.prog) Tryd.underlying54 Tryd.underlying21 Tryd.underlying9 (HO_5.out)
            go_wp2
            go_ret
            exact ⟨by first | rfl | (simp [errW_none, errW_some] <;> rfl) | (simp [*, errW_none, errW_some] <;> rfl), by repeat (first | (with_reducible first | exact HB.out | apply below_alloc | apply pw_below_drewN | apply below_drew1) | exact HB.out)⟩

/-! ### spec_Trim: function 13 -/
def spec_Trim.f (k : Nat) (a0 : ByteArray) : Option (ByteArray) := (spec_cut_IsSpace.f k a0).bind fun t191 => (some t191)
theorem spec_Trim.mono : ∀ a0 k, LeO (spec_Trim.f k a0) (spec_Trim.f (k + 1) a0) := by
  intro a0 k
  unfold spec_Trim.f
  repeat' first
      | (with_reducible exact spec_cut_IsSpace.mono _ _)
      | (with_reducible exact LeO.refl _)
      | (with_reducible exact LeO.none _)
      | (with_reducible refine LeO.ite ?_ ?_)
      | (with_reducible refine LeO.bind ?_ (fun _ => ?_))
      | exact spec_cut_IsSpace.mono _ _
      | exact LeO.none _
      | refine LeO.ite ?_ ?_
      | refine LeO.bind ?_ (fun _ => ?_)
set_option maxHeartbeats 8000000 in
set_option maxRecDepth 100000 in
theorem spec_Trim.calls (k : Nat) (a0 : ByteArray) (r : ByteArray) (w : World) (h : spec_Trim.f k a0 = some r) :
    Calls Tryd.prog 13 #[.string a0] w fun e w' => e = .returned (.string r) ∧ Below w.heap.size w w' := by
  have HB := Aside0.mk (Below.refl w.heap.size w)
  have H : ((spec_cut_IsSpace.f k a0).bind fun t191 => (some t191)) = some r := h
  clear h
  replace H := Option.bind_eq_some_iff.mp H
  obtain ⟨t191, A20, H⟩ := H
  replace H : (some t191) = some r := H
  have A2 := Aside0.mk A20
  clear A20
  obtain rfl := Option.some.inj H
  go_enter Tryd.func13, Tryd.ntmps13
  go_wp2_with (first | ((with_reducible refine gate_callee (f := 43) rfl ?_); refine goesL_ (some 4) rfl rfl Tryd.func43 (by kernel_rfl) rfl #[.string a0, .func (Fn.func 44) #[] #[]] rfl (by (try simp only [List.map_toArray, List.map_cons, List.map_nil]); first | done | rfl | (simp only [List.length_drop, List.length_take]; rfl)) ?_; (with_reducible refine (spec_cut_IsSpace.calls k a0 t191 _ A2.out).mono ?_); rintro e w3 ⟨rfl, hb⟩; refine ⟨_, rfl, ?_⟩; have n0_ := Aside0.mk (below_step (by repeat (first | (with_reducible first | exact HB.out | apply below_alloc | apply pw_below_drewN | apply below_drew1) | exact HB.out)) hb); clear HB; have HB := n0_; clear n0_; (try clear hb); (try clear hb2); (try clear hk); (try clear hi)))
  go_ret
  exact ⟨by first | rfl | (simp [errW_none, errW_some] <;> rfl) | (simp [*, errW_none, errW_some] <;> rfl), by repeat (first | (with_reducible first | exact HB.out | apply below_alloc | apply pw_below_drewN | apply below_drew1) | exact HB.out)⟩

end Go.Proofs.YtagafmfmmnegfaaDoor.P
