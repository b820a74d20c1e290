-- WRITTEN by xprint.py (a program of this session, over the kit's print) out of the translation. Not trusted: Lean checks it.
import Derived.Test.YtbcccmoddbmffaaDoorPx0
import Derived.Test.YtbcccmoddbmffaaDoorPx2
import Derived.Test.YtbcccmoddbmffaaDoorPx3
import Derived.Test.YtbcccmoddbmffaaDoorPx23
namespace Go.Proofs.YtbcccmoddbmffaaDoor.P
open Go.RowKit Go.Proofs.YtbcccmoddbmffaaDoorW.PrintWords Go.Proofs.YtbcccmoddbmffaaDoorW.PrintLast Go.Proofs.YtbcccmoddbmffaaDoorW.PrintMore
attribute [local go_sem] max2_int min2_int max_two min_two max_three min_three max_four min_four   -- for this text's walks alone
set_option linter.unusedVariables false
set_option linter.unusedSimpArgs false

/-! ### impl_LeftJustify: function 18 -/
def impl_LeftJustify.f (a0 : ByteArray) (a1 : Int) (a2 : ByteArray) : Option (ByteArray) := (xstrings_LeftJustify.f a0 a1 a2).bind fun t176 => (some t176)
set_option maxHeartbeats 8000000 in
set_option maxRecDepth 100000 in
theorem impl_LeftJustify.calls (a0 : ByteArray) (a1 : Int) (a2 : ByteArray) (r : ByteArray) (w : World) (h : impl_LeftJustify.f a0 a1 a2 = some r) (HT0U : TabsU w) :
    Calls Tryd.prog 18 #[.string a0, .int .i64 a1, .string a2] w fun e w' => e = .returned (.string r) ∧ Below w.heap.size w w' := by
  have HTU := Aside0.mk HT0U
  clear HT0U
  have HB := Aside0.mk (Below.refl w.heap.size w)
  have H : ((xstrings_LeftJustify.f a0 a1 a2).bind fun t176 => (some t176)) = some r := h
  clear h
  replace H := Option.bind_eq_some_iff.mp H
  obtain ⟨t176, A40, H⟩ := H
  replace H : (some t176) = some r := H
  have A4 := Aside0.mk A40
  clear A40
  obtain rfl := Option.some.inj H
  go_enter Tryd.func18, Tryd.ntmps18
  go_wp2_with (first | ((with_reducible refine gate_callee (f := 49) rfl ?_); refine goesL_ (some 10) rfl rfl Tryd.func49 (by kernel_rfl) rfl #[.string a0, .int .i64 a1, .string a2] rfl (by (try simp only [List.map_toArray, List.map_cons, List.map_nil]); first | done | rfl | (simp only [List.length_drop, List.length_take]; rfl)) ?_; (with_reducible refine (xstrings_LeftJustify.calls a0 a1 a2 t176 _ A4.out (TabsU.below HTU.out (by repeat (first | (with_reducible first | exact HB.out | apply below_alloc | apply pw_below_drewN | apply below_drew1) | exact HB.out)))).mono ?_); rintro e w5 ⟨rfl, hb⟩; refine ⟨_, rfl, ?_⟩; have n0_ := Aside0.mk (below_step (by repeat (first | (with_reducible first | exact HB.out | apply below_alloc | apply pw_below_drewN | apply below_drew1) | exact HB.out)) hb); clear HB; have HB := n0_; clear n0_; (try clear hb); (try clear hb2); (try clear hk); (try clear hi)))
  go_ret
  exact ⟨by first | rfl | (simp [errW_none, errW_some] <;> rfl) | (simp [*, errW_none, errW_some] <;> rfl), by repeat (first | (with_reducible first | exact HB.out | apply below_alloc | apply pw_below_drewN | apply below_drew1) | exact HB.out)⟩

/-! ### spec_Padded: function 50 -/
def spec_Padded.l0 : Nat → List Int → List Int → Int → Int → Option (ByteArray)
  | 0, _, _, _, _ => none
  | k + 1, x5, x7, x14, x15 => if x15 < x14 then (if (x5.length : Int) = 0 then (none) else (if 0 ≤ (Int.tmod x15 (x5.length : Int)) then (if (Int.tmod x15 (x5.length : Int)) < (x5.length : Int) then (if x7.length < 35184372088832 then (spec_Padded.l0 k x5 (x7 ++ [rd x5 (Int.tmod x15 (x5.length : Int))]) x14 (wrap64 (x15 + 1))) else (none)) else (none)) else (none))) else (some (runesBytes x7))
def spec_Padded.f (k : Nat) (a0 : ByteArray) (a1 : Int) : Option (ByteArray) := (spec_Points.f a0).bind fun bt177 => (spec_Padded.l0 k bt177.1 ([] : List Int) a1 0)
theorem spec_Padded.mono_l : ∀ k, (∀ y0 y1 y2 y3, LeO (spec_Padded.l0 k y0 y1 y2 y3) (spec_Padded.l0 (k + 1) y0 y1 y2 y3))
  | 0 => fun _ _ _ _ r h => by simp [spec_Padded.l0] at h
  | k + 1 => by
    have ih0 := spec_Padded.mono_l k
    · intro y0 y1 y2 y3
      unfold spec_Padded.l0
      repeat' first
      | (with_reducible exact ih0 _ _ _ _)
      | (with_reducible exact LeO.refl _)
      | (with_reducible exact LeO.none _)
      | (with_reducible refine LeO.ite ?_ ?_)
      | (with_reducible refine LeO.bind ?_ (fun _ => ?_))
      | exact ih0 _ _ _ _
      | exact LeO.none _
      | refine LeO.ite ?_ ?_
      | refine LeO.bind ?_ (fun _ => ?_)
theorem spec_Padded.mono : ∀ a0 a1 k, LeO (spec_Padded.f k a0 a1) (spec_Padded.f (k + 1) a0 a1) := by
  intro a0 a1 k
  have ih0 := spec_Padded.mono_l k
  unfold spec_Padded.f
  repeat' first
      | (with_reducible exact ih0 _ _ _ _)
      | (with_reducible exact LeO.refl _)
      | (with_reducible exact LeO.none _)
      | (with_reducible refine LeO.ite ?_ ?_)
      | (with_reducible refine LeO.bind ?_ (fun _ => ?_))
      | exact ih0 _ _ _ _
      | exact LeO.none _
      | refine LeO.ite ?_ ?_
      | refine LeO.bind ?_ (fun _ => ?_)
set_option maxHeartbeats 8000000 in
set_option maxRecDepth 100000 in
theorem spec_Padded.calls (k : Nat) (a0 : ByteArray) (a1 : Int) (r : ByteArray) (w : World) (h : spec_Padded.f k a0 a1 = some r) :
    Calls Tryd.prog 50 #[.string a0, .int .i64 a1] w fun e w' => e = .returned (.string r) ∧ Below w.heap.size w w' := by
  have HB := Aside0.mk (Below.refl w.heap.size w)
  have H : ((spec_Points.f a0).bind fun bt177 => (spec_Padded.l0 k bt177.1 ([] : List Int) a1 0)) = some r := h
  clear h
  replace H := Option.bind_eq_some_iff.mp H
  obtain ⟨⟨t177, t178⟩, A30, H⟩ := H
  replace H : (spec_Padded.l0 k t177 ([] : List Int) a1 0) = some r := H
  have A3 := Aside0.mk A30
  clear A30
  have H' := Aside0.mk H
  clear H
  go_enter Tryd.func50, Tryd.ntmps50
  go_wp2_with (first | ((with_reducible refine gate_callee (f := 42) rfl ?_); refine goesL_ (some 11) rfl rfl Tryd.func42 (by kernel_rfl) rfl #[.string a0] rfl (by (try simp only [List.map_toArray, List.map_cons, List.map_nil]); first | done | rfl | (simp only [List.length_drop, List.length_take]; rfl)) ?_; (with_reducible refine (spec_Points.calls a0 t177 t178 _ A3.out).mono ?_); rintro e w4 ⟨v179, rfl, ho0, hb⟩; refine ⟨_, rfl, ?_⟩; have n0_ := Aside0.mk (Kd.R_lower ho0 (below_size (by repeat (first | (with_reducible first | exact HB.out | apply below_alloc | apply pw_below_drewN | apply below_drew1) | exact HB.out)))); have n1_ := Aside0.mk (below_step (by repeat (first | (with_reducible first | exact HB.out | apply below_alloc | apply pw_below_drewN | apply below_drew1) | exact HB.out)) hb); clear HB; have HO180 := n0_; have HB := n1_; clear n0_ n1_; (try clear hb); (try clear hb2); (try clear hk); (try clear hi); (try clear ho0)))
  go_loopg [7, 15] k (fun kq v7 v15 w' => ∃ (x7_1 : List Int) (x15_1 : Int), v15 = .int .i64 x15_1 ∧ Aside0 (spec_Padded.l0 kq t177 x7_1 a1 x15_1 = some r) ∧ Aside0 (kq ≤ k) ∧ Aside0 (Kd.R (Kd.int .i32) 21 w' w.heap.size (fun k_ => some k_ ≠ (v7 : Value).ownBlock) v179 t177) ∧ Aside0 (Kd.R (Kd.int .i32) 21 w' w.heap.size (fun k_ => some k_ ≠ (v179 : Value).ownBlock) v7 x7_1) ∧ Aside0 (Below w.heap.size w w'))
  case atStart => exact ⟨(([] : List Int)), (0), (by first | rfl | (simp; done) | (simp [*]; done)), H', ⟨Nat.le_refl _⟩, ⟨by (with_reducible repeat (first | apply Kd.R_alloc | apply Kd.R_drewN | apply Kd.R_drew)); exact Kd.R_mono HO180.out (fun _ hk => (by simp [Value.ownBlock]))⟩, ⟨by first | exact Kd.R_nil _ _ _ _ _ | exact Kd.N_nil _ _ _ _ _ | exact Kd.V_nil _ _ _ _ _ | exact Kd.Q_nil _ _ _ _ _ | exact Kd.S_nil _ _ _ _ _⟩, ⟨by repeat (first | (with_reducible first | exact HB.out | apply below_alloc | apply pw_below_drewN | apply below_drew1) | exact HB.out)⟩⟩
  case round =>
    clear H'
    try clear p2
    try clear c4
    obtain ⟨x7_1, x15_1, rfl, HA, HK1, HO_5, HO_7, HB⟩ := hrel
    cases gk with
    | zero => exact absurd HA.out (by simp [spec_Padded.l0])
    | succ k1 =>
      have H := HA.out
      clear HA
      simp only [spec_Padded.l0] at H
      by_cases c5 : x15_1 < a1
      · rw [if_pos c5] at H
        have c5b0 : decide (x15_1 < a1) = true := decide_eq_true c5
        clear c5
        by_cases c6 : (t177.length : Int) = 0
        · rw [if_pos c6] at H
          exact absurd H (by simp)
        · rw [if_neg c6] at H
          have c6b0 : ((t177.length : Int) == 0) = false := beq_eq_false_iff_ne.mpr c6
          have c6b1 : ((t177.length : Int) != 0) = true := bne_iff_ne.mpr c6
          have c6b2 : ¬ (t177 = []) := fun h_ => c6 (by rw [h_]; rfl)
          obtain ⟨ji7, hji7⟩ : ∃ j_ : Int, (Int.tmod x15_1 (t177.length : Int)) = j_ := ⟨_, rfl⟩
          replace H : (if 0 ≤ (ji7) then (if (ji7) < (t177.length : Int) then (if x7_1.length < 35184372088832 then (spec_Padded.l0 k1 t177 (x7_1 ++ [rd t177 (ji7)]) a1 (wrap64 (x15_1 + 1))) else (none)) else (none)) else (none)) = some r := by first | (rw [hji7] at H; exact H) | (simp only [hji7] at H ⊢; exact H)
          by_cases c8 : 0 ≤ (ji7)
          · rw [if_pos c8] at H
            have c8b0 : decide (0 ≤ (ji7)) = true := decide_eq_true c8
            clear c8
            by_cases c9 : (ji7) < (t177.length : Int)
            · rw [if_pos c9] at H
              have c9b0 : decide ((ji7) < (t177.length : Int)) = true := decide_eq_true c9
              clear c9
              by_cases c10 : x7_1.length < 35184372088832
              · rw [if_pos c10] at H
                have LMc10 := Aside0.mk c10
                clear c10
                obtain ⟨y182, hy182⟩ : ∃ y_ : List Int, y_ = (x7_1 ++ [rd t177 (ji7)]) := ⟨_, rfl⟩
                replace H : (spec_Padded.l0 k1 t177 y182 a1 (wrap64 (x15_1 + 1))) = some r := by first | (rw [hy182]; with_reducible exact H) | (have H2_ := (Option.bind_some _ _).symm.trans H; rw [hy182]; with_reducible exact H2_) | (have H2_ := (Option.bind_some _ _).symm.trans H; with_reducible exact H2_) | with_reducible exact H | (rw [hy182]; exact H) | exact H
                have Ny182 := Aside0.mk hy182
                clear hy182
                have H' := Aside0.mk H
                clear H
                obtain ⟨Ao11, co11, eo11⟩ := Kd.R_slice HO_5.out
                subst eo11
                have p181 : 0 ≤ ((ji7) : Int) := of_decide_eq_true (by first | (with_reducible assumption) | assumption)
                have q181 : (ji7) < (t177.length : Int) := of_decide_eq_true (by first | (with_reducible assumption) | assumption)
                obtain ⟨ad181, e181, hx181_0⟩ := Kd.at_int (Kd.R_reads' HO_5.out).2.2 (ji7) p181 q181
                cases e181
                replace p181 := eq_true p181
                replace q181 := eq_true q181
                go_wp2_with (first | ((with_reducible refine gate_builtin (b := .append) (xs := #[.tmp 18, .tmp 26]) rfl ?_); at_builtin; refine Kd.R_append (Kd.int .i32) (w0 := w) w.heap.size rfl (.tmp 18) (.tmp 26) 25 21 (.int .i32 0) 4 rfl Tryd.underlying25 info21 rfl (by decide) (by omega) u7 x7_1 (rd t177 (ji7)) [.int .i32 (rd t177 (ji7))] (fun k_ => some k_ ≠ (.slice (some ad181) t177.length co11 : Value).ownBlock) (fun _ => False) rfl rfl ?aP (fun _ hk => hk.elim) ?aF ?aO ?aB ?aS ?aL ?_; (case aP => exact rfl); (case aB => exact (by repeat (first | (with_reducible first | exact HB.out | apply below_alloc | apply pw_below_drewN | apply below_drew1) | exact HB.out))); (case aF => exact (fun k_ hk => Kd.fresh' (Kd.R_lt (by (with_reducible repeat (first | apply Kd.R_alloc | apply Kd.R_drewN | apply Kd.R_drew)); exact HO_5.out)) k_ hk)); (case aO => exact (by (with_reducible repeat (first | apply Kd.R_alloc | apply Kd.R_drewN | apply Kd.R_drew)); exact HO_7.out)); (case aS => exact (below_size (by repeat (first | (with_reducible first | exact HB.out | apply below_alloc | apply pw_below_drewN | apply below_drew1) | exact HB.out)))); (case aL => have := LMc10.out; omega); intro v183 w12 ho hb hg hat; rw [← Ny182.out] at ho; have n0_ := Aside0.mk (Kd.R_after (ok := (fun _ => True)) (by (with_reducible repeat (first | apply Kd.R_alloc | apply Kd.R_drewN | apply Kd.R_drew)); exact Kd.R_mono HO_5.out (fun _ hk => ⟨trivial, hk⟩)) hg hat); have n1_ := Aside0.mk (hb); have n2_ := Aside0.mk (ho); clear HO_5; clear HB; clear HO_7; have HO_5 := n0_; have HB := n1_; have HO184 := n2_; clear n0_ n1_ n2_; clear ho hb hg hat))
                go_roundg k1
                case measure => have := HK1.out; omega
                case rel => exact ⟨(y182), (wrap64 (x15_1 + 1)), (by first | rfl | (simp; done) | (simp [*]; done)), H', ⟨by have := HK1.out; omega⟩, ⟨by (with_reducible repeat (first | apply Kd.R_alloc | apply Kd.R_drewN | apply Kd.R_drew)); exact Kd.R_mono HO_5.out (fun _ hk => hk.2)⟩, ⟨by (with_reducible repeat (first | apply Kd.R_alloc | apply Kd.R_drewN | apply Kd.R_drew)); exact HO184.out⟩, ⟨by repeat (first | (with_reducible first | exact HB.out | apply below_alloc | apply pw_below_drewN | apply below_drew1) | exact HB.out)⟩⟩
              · rw [if_neg c10] at H
                exact absurd H (by simp)
            · rw [if_neg c9] at H
              exact absurd H (by simp)
          · rw [if_neg c8] at H
            exact absurd H (by simp)
      · rw [if_neg c5] at H
        have c5b0 : decide (x15_1 < a1) = false := decide_eq_false c5
        clear c5
        obtain rfl := Option.some.inj H
        have hcv13 := own_runestring (P := Tryd.prog) Tryd.underlying25 Tryd.underlying21 Tryd.underlying9 (Kd.own_of_R HO_7.out)
        have hcv13d := own_runestring_d (P := Tryd.prog) Tryd.underlying25 Tryd.underlying21 Tryd.underlying9 (Kd.own_of_R HO_7.out)
        go_wp2
        go_ret
        exact ⟨by first | rfl | (simp [errW_none, errW_some] <;> rfl) | (simp [*, errW_none, errW_some] <;> rfl), by repeat (first | (with_reducible first | exact HB.out | apply below_alloc | apply pw_below_drewN | apply below_drew1) | exact HB.out)⟩

/-! ### spec_missing: function 51 -/
def spec_missing.f (a0 : ByteArray) (a1 : Int) (a2 : ByteArray) : Option (Int) := (spec_Points.f a0).bind fun bt185 => (if a2.toList = ([] : List UInt8) then (some 0) else (if a1 ≤ (bt185.1.length : Int) then (some 0) else (some (wrap64 (a1 - (bt185.1.length : Int))))))
set_option maxHeartbeats 8000000 in
set_option maxRecDepth 100000 in
theorem spec_missing.calls (a0 : ByteArray) (a1 : Int) (a2 : ByteArray) (r : Int) (w : World) (h : spec_missing.f a0 a1 a2 = some r) :
    Calls Tryd.prog 51 #[.string a0, .int .i64 a1, .string a2] w fun e w' => e = .returned (.int .i64 r) ∧ Below w.heap.size w w' := by
  have HB := Aside0.mk (Below.refl w.heap.size w)
  have H : ((spec_Points.f a0).bind fun bt185 => (if a2.toList = ([] : List UInt8) then (some 0) else (if a1 ≤ (bt185.1.length : Int) then (some 0) else (some (wrap64 (a1 - (bt185.1.length : Int))))))) = some r := h
  clear h
  replace H := Option.bind_eq_some_iff.mp H
  obtain ⟨⟨t185, t186⟩, A40, H⟩ := H
  replace H : (if a2.toList = ([] : List UInt8) then (some 0) else (if a1 ≤ (t185.length : Int) then (some 0) else (some (wrap64 (a1 - (t185.length : Int)))))) = some r := H
  have A4 := Aside0.mk A40
  clear A40
  by_cases c5 : a2.toList = ([] : List UInt8)
  · rw [if_pos c5] at H
    have c5b0 : (a2.toList == ([] : List UInt8)) = true := beq_iff_eq.mpr c5
    have c5b1 : (a2.toList != ([] : List UInt8)) = false := bne_eq_false_iff_eq.mpr c5
    clear c5
    obtain rfl := Option.some.inj H
    go_enter Tryd.func51, Tryd.ntmps51
    go_wp2_with (first | ((with_reducible refine gate_callee (f := 42) rfl ?_); refine goesL_ (some 11) rfl rfl Tryd.func42 (by kernel_rfl) rfl #[.string a0] rfl (by (try simp only [List.map_toArray, List.map_cons, List.map_nil]); first | done | rfl | (simp only [List.length_drop, List.length_take]; rfl)) ?_; (with_reducible refine (spec_Points.calls a0 t185 t186 _ A4.out).mono ?_); rintro e w6 ⟨v187, rfl, ho0, hb⟩; refine ⟨_, rfl, ?_⟩; have n0_ := Aside0.mk (Kd.R_lower ho0 (below_size (by repeat (first | (with_reducible first | exact HB.out | apply below_alloc | apply pw_below_drewN | apply below_drew1) | exact HB.out)))); have n1_ := Aside0.mk (below_step (by repeat (first | (with_reducible first | exact HB.out | apply below_alloc | apply pw_below_drewN | apply below_drew1) | exact HB.out)) hb); clear HB; have HO188 := n0_; have HB := n1_; clear n0_ n1_; (try clear hb); (try clear hb2); (try clear hk); (try clear hi); (try clear ho0)))
    go_ret
    exact ⟨by first | rfl | (simp [errW_none, errW_some] <;> rfl) | (simp [*, errW_none, errW_some] <;> rfl), by repeat (first | (with_reducible first | exact HB.out | apply below_alloc | apply pw_below_drewN | apply below_drew1) | exact HB.out)⟩
  · rw [if_neg c5] at H
    have c5b0 : (a2.toList == ([] : List UInt8)) = false := beq_eq_false_iff_ne.mpr c5
    have c5b1 : (a2.toList != ([] : List UInt8)) = true := bne_iff_ne.mpr c5
    by_cases c7 : a1 ≤ (t185.length : Int)
    · rw [if_pos c7] at H
      have c7b0 : decide (a1 ≤ (t185.length : Int)) = true := decide_eq_true c7
      clear c7
      obtain rfl := Option.some.inj H
      go_enter Tryd.func51, Tryd.ntmps51
      go_wp2_with (first | ((with_reducible refine gate_callee (f := 42) rfl ?_); refine goesL_ (some 11) rfl rfl Tryd.func42 (by kernel_rfl) rfl #[.string a0] rfl (by (try simp only [List.map_toArray, List.map_cons, List.map_nil]); first | done | rfl | (simp only [List.length_drop, List.length_take]; rfl)) ?_; (with_reducible refine (spec_Points.calls a0 t185 t186 _ A4.out).mono ?_); rintro e w8 ⟨v187, rfl, ho0, hb⟩; refine ⟨_, rfl, ?_⟩; have n0_ := Aside0.mk (Kd.R_lower ho0 (below_size (by repeat (first | (with_reducible first | exact HB.out | apply below_alloc | apply pw_below_drewN | apply below_drew1) | exact HB.out)))); have n1_ := Aside0.mk (below_step (by repeat (first | (with_reducible first | exact HB.out | apply below_alloc | apply pw_below_drewN | apply below_drew1) | exact HB.out)) hb); clear HB; have HO188 := n0_; have HB := n1_; clear n0_ n1_; (try clear hb); (try clear hb2); (try clear hk); (try clear hi); (try clear ho0); obtain ⟨Ao9, co9, eo9⟩ := Kd.R_slice HO188.out; subst eo9))
      go_ret
      exact ⟨by first | rfl | (simp [errW_none, errW_some] <;> rfl) | (simp [*, errW_none, errW_some] <;> rfl), by repeat (first | (with_reducible first | exact HB.out | apply below_alloc | apply pw_below_drewN | apply below_drew1) | exact HB.out)⟩
    · rw [if_neg c7] at H
      have c7b0 : decide (a1 ≤ (t185.length : Int)) = false := decide_eq_false c7
      clear c7
      obtain rfl := Option.some.inj H
      go_enter Tryd.func51, Tryd.ntmps51
      go_wp2_with (first | ((with_reducible refine gate_callee (f := 42) rfl ?_); refine goesL_ (some 11) rfl rfl Tryd.func42 (by kernel_rfl) rfl #[.string a0] rfl (by (try simp only [List.map_toArray, List.map_cons, List.map_nil]); first | done | rfl | (simp only [List.length_drop, List.length_take]; rfl)) ?_; (with_reducible refine (spec_Points.calls a0 t185 t186 _ A4.out).mono ?_); rintro e w10 ⟨v187, rfl, ho0, hb⟩; refine ⟨_, rfl, ?_⟩; have n0_ := Aside0.mk (Kd.R_lower ho0 (below_size (by repeat (first | (with_reducible first | exact HB.out | apply below_alloc | apply pw_below_drewN | apply below_drew1) | exact HB.out)))); have n1_ := Aside0.mk (below_step (by repeat (first | (with_reducible first | exact HB.out | apply below_alloc | apply pw_below_drewN | apply below_drew1) | exact HB.out)) hb); clear HB; have HO188 := n0_; have HB := n1_; clear n0_ n1_; (try clear hb); (try clear hb2); (try clear hk); (try clear hi); (try clear ho0); obtain ⟨Ao11, co11, eo11⟩ := Kd.R_slice HO188.out; subst eo11))
      go_ret
      exact ⟨by first | rfl | (simp [errW_none, errW_some] <;> rfl) | (simp [*, errW_none, errW_some] <;> rfl), by repeat (first | (with_reducible first | exact HB.out | apply below_alloc | apply pw_below_drewN | apply below_drew1) | exact HB.out)⟩

/-! ### spec_LeftJustify: function 19 -/
def spec_LeftJustify.f (k : Nat) (a0 : ByteArray) (a1 : Int) (a2 : ByteArray) : Option (ByteArray) := (spec_missing.f a0 a1 a2).bind fun t189 => ((spec_Padded.f k a2 t189).bind fun t190 => (if a0.size + t190.size ≤ 9223372036854775807 then (some (a0 ++ t190)) else (none)))
theorem spec_LeftJustify.mono : ∀ a0 a1 a2 k, LeO (spec_LeftJustify.f k a0 a1 a2) (spec_LeftJustify.f (k + 1) a0 a1 a2) := by
  intro a0 a1 a2 k
  unfold spec_LeftJustify.f
  repeat' first
      | (with_reducible exact spec_Padded.mono _ _ _)
      | (with_reducible exact LeO.refl _)
      | (with_reducible exact LeO.none _)
      | (with_reducible refine LeO.ite ?_ ?_)
      | (with_reducible refine LeO.bind ?_ (fun _ => ?_))
      | exact spec_Padded.mono _ _ _
      | exact LeO.none _
      | refine LeO.ite ?_ ?_
      | refine LeO.bind ?_ (fun _ => ?_)
set_option maxHeartbeats 8000000 in
set_option maxRecDepth 100000 in
theorem spec_LeftJustify.calls (k : Nat) (a0 : ByteArray) (a1 : Int) (a2 : ByteArray) (r : ByteArray) (w : World) (h : spec_LeftJustify.f k a0 a1 a2 = some r) :
    Calls Tryd.prog 19 #[.string a0, .int .i64 a1, .string a2] w fun e w' => e = .returned (.string r) ∧ Below w.heap.size w w' := by
  have HB := Aside0.mk (Below.refl w.heap.size w)
  have H : ((spec_missing.f a0 a1 a2).bind fun t189 => ((spec_Padded.f k a2 t189).bind fun t190 => (if a0.size + t190.size ≤ 9223372036854775807 then (some (a0 ++ t190)) else (none)))) = some r := h
  clear h
  replace H := Option.bind_eq_some_iff.mp H
  obtain ⟨t189, A40, H⟩ := H
  replace H : ((spec_Padded.f k a2 t189).bind fun t190 => (if a0.size + t190.size ≤ 9223372036854775807 then (some (a0 ++ t190)) else (none))) = some r := H
  have A4 := Aside0.mk A40
  clear A40
  replace H := Option.bind_eq_some_iff.mp H
  obtain ⟨t190, A50, H⟩ := H
  replace H : (if a0.size + t190.size ≤ 9223372036854775807 then (some (a0 ++ t190)) else (none)) = some r := H
  have A5 := Aside0.mk A50
  clear A50
  by_cases c6 : a0.size + t190.size ≤ 9223372036854775807
  · rw [if_pos c6] at H
    have c6b0 := eq_true c6
    have c6b1 : decide (a0.size + t190.size ≤ 9223372036854775807) = true := decide_eq_true c6
    try have c6b2 : (9223372036854775807 < a0.size + t190.size) = False := eq_false (Nat.not_lt.2 c6)
    obtain rfl := Option.some.inj H
    go_enter Tryd.func19, Tryd.ntmps19
    go_wp2_with (first | ((with_reducible refine gate_callee (f := 51) rfl ?_); refine goesL_ (some 12) rfl rfl Tryd.func51 (by kernel_rfl) rfl #[.string a0, .int .i64 a1, .string a2] rfl (by (try simp only [List.map_toArray, List.map_cons, List.map_nil]); first | done | rfl | (simp only [List.length_drop, List.length_take]; rfl)) ?_; (with_reducible refine (spec_missing.calls a0 a1 a2 t189 _ A4.out).mono ?_); rintro e w7 ⟨rfl, hb⟩; refine ⟨_, rfl, ?_⟩; have n0_ := Aside0.mk (below_step (by repeat (first | (with_reducible first | exact HB.out | apply below_alloc | apply pw_below_drewN | apply below_drew1) | exact HB.out)) hb); clear HB; have HB := n0_; clear n0_; (try clear hb); (try clear hb2); (try clear hk); (try clear hi)) | ((with_reducible refine gate_callee (f := 50) rfl ?_); refine goesL_ (some 13) rfl rfl Tryd.func50 (by kernel_rfl) rfl #[.string a2, .int .i64 t189] rfl (by (try simp only [List.map_toArray, List.map_cons, List.map_nil]); first | done | rfl | (simp only [List.length_drop, List.length_take]; rfl)) ?_; (with_reducible refine (spec_Padded.calls k a2 t189 t190 _ A5.out).mono ?_); rintro e w8 ⟨rfl, hb⟩; refine ⟨_, rfl, ?_⟩; have n0_ := Aside0.mk (below_step (by repeat (first | (with_reducible first | exact HB.out | apply below_alloc | apply pw_below_drewN | apply below_drew1) | exact HB.out)) hb); clear HB; have HB := n0_; clear n0_; (try clear hb); (try clear hb2); (try clear hk); (try clear hi)))
    go_ret
    exact ⟨by first | rfl | (simp [errW_none, errW_some] <;> rfl) | (simp [*, errW_none, errW_some] <;> rfl), by repeat (first | (with_reducible first | exact HB.out | apply below_alloc | apply pw_below_drewN | apply below_drew1) | exact HB.out)⟩
  · rw [if_neg c6] at H
    exact absurd H (by simp)

end Go.Proofs.YtbcccmoddbmffaaDoor.P
