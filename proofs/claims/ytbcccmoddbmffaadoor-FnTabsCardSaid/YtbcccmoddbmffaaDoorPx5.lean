-- WRITTEN by xprint.py (a program of this session, over the kit's print) out of the translation. Not trusted: Lean checks it.
import Derived.Test.YtbcccmoddbmffaaDoorPx0
import Derived.Test.YtbcccmoddbmffaaDoorPx2
import Derived.Test.YtbcccmoddbmffaaDoorPx3
import Derived.Test.YtbcccmoddbmffaaDoorPx4
namespace Go.Proofs.YtbcccmoddbmffaaDoor.P
open Go.RowKit Go.Proofs.YtbcccmoddbmffaaDoorW.PrintWords Go.Proofs.YtbcccmoddbmffaaDoorW.PrintLast Go.Proofs.YtbcccmoddbmffaaDoorW.PrintMore
attribute [local go_sem] max2_int min2_int max_two min_two max_three min_three max_four min_four   -- for this text's walks alone
set_option linter.unusedVariables false
set_option linter.unusedSimpArgs false

/-! ### impl_ReverseText: function 12 -/
def impl_ReverseText.f (a0 : ByteArray) : Option (ByteArray) := (xstrings_Reverse.f a0).bind fun t112 => (some t112)
set_option maxHeartbeats 8000000 in
set_option maxRecDepth 100000 in
theorem impl_ReverseText.calls (a0 : ByteArray) (r : ByteArray) (w : World) (h : impl_ReverseText.f a0 = some r) (HT0U : TabsU w) :
    Calls Tryd.prog 12 #[.string a0] w fun e w' => e = .returned (.string r) ∧ Below w.heap.size w w' := by
  have HTU := Aside0.mk HT0U
  clear HT0U
  have HB := Aside0.mk (Below.refl w.heap.size w)
  have H : ((xstrings_Reverse.f a0).bind fun t112 => (some t112)) = some r := h
  clear h
  replace H := Option.bind_eq_some_iff.mp H
  obtain ⟨t112, A20, H⟩ := H
  replace H : (some t112) = some r := H
  have A2 := Aside0.mk A20
  clear A20
  obtain rfl := Option.some.inj H
  go_enter Tryd.func12, Tryd.ntmps12
  go_wp2_with (first | ((with_reducible refine gate_callee (f := 41) rfl ?_); refine goesL_ (some 4) rfl rfl Tryd.func41 (by kernel_rfl) rfl #[.string a0] rfl (by (try simp only [List.map_toArray, List.map_cons, List.map_nil]); first | done | rfl | (simp only [List.length_drop, List.length_take]; rfl)) ?_; (with_reducible refine (xstrings_Reverse.calls a0 t112 _ A2.out (TabsU.below HTU.out (by repeat (first | (with_reducible first | exact HB.out | apply below_alloc | apply pw_below_drewN | apply below_drew1) | exact HB.out)))).mono ?_); rintro e w3 ⟨rfl, hb⟩; refine ⟨_, rfl, ?_⟩; have n0_ := Aside0.mk (below_step (by repeat (first | (with_reducible first | exact HB.out | apply below_alloc | apply pw_below_drewN | apply below_drew1) | exact HB.out)) hb); clear HB; have HB := n0_; clear n0_; (try clear hb); (try clear hb2); (try clear hk); (try clear hi)))
  go_ret
  exact ⟨by first | rfl | (simp [errW_none, errW_some] <;> rfl) | (simp [*, errW_none, errW_some] <;> rfl), by repeat (first | (with_reducible first | exact HB.out | apply below_alloc | apply pw_below_drewN | apply below_drew1) | exact HB.out)⟩

/-! ### spec_Reversed: function 13 -/
def spec_Reversed.l0 : Nat → List Int → List Int → Int → Option (ByteArray)
  | 0, _, _, _ => none
  | k + 1, x3, x5, x6 => if x6 ≥ 0 then (if 0 ≤ x6 then (if x6 < (x3.length : Int) then (if x5.length < 35184372088832 then (spec_Reversed.l0 k x3 (x5 ++ [rd x3 x6]) (wrap64 (x6 - 1))) else (none)) else (none)) else (none)) else (some (runesBytes x5))
def spec_Reversed.f (k : Nat) (a0 : ByteArray) : Option (ByteArray) := (spec_Points.f a0).bind fun bt113 => (spec_Reversed.l0 k bt113.1 ([] : List Int) (wrap64 ((bt113.1.length : Int) - 1)))
theorem spec_Reversed.mono_l : ∀ k, (∀ y0 y1 y2, LeO (spec_Reversed.l0 k y0 y1 y2) (spec_Reversed.l0 (k + 1) y0 y1 y2))
  | 0 => fun _ _ _ r h => by simp [spec_Reversed.l0] at h
  | k + 1 => by
    have ih0 := spec_Reversed.mono_l k
    · intro y0 y1 y2
      unfold spec_Reversed.l0
      repeat' first
      | (with_reducible exact ih0 _ _ _)
      | (with_reducible exact LeO.refl _)
      | (with_reducible exact LeO.none _)
      | (with_reducible refine LeO.ite ?_ ?_)
      | (with_reducible refine LeO.bind ?_ (fun _ => ?_))
      | exact ih0 _ _ _
      | exact LeO.none _
      | refine LeO.ite ?_ ?_
      | refine LeO.bind ?_ (fun _ => ?_)
theorem spec_Reversed.mono : ∀ a0 k, LeO (spec_Reversed.f k a0) (spec_Reversed.f (k + 1) a0) := by
  intro a0 k
  have ih0 := spec_Reversed.mono_l k
  unfold spec_Reversed.f
  repeat' first
      | (with_reducible exact ih0 _ _ _)
      | (with_reducible exact LeO.refl _)
      | (with_reducible exact LeO.none _)
      | (with_reducible refine LeO.ite ?_ ?_)
      | (with_reducible refine LeO.bind ?_ (fun _ => ?_))
      | exact ih0 _ _ _
      | exact LeO.none _
      | refine LeO.ite ?_ ?_
      | refine LeO.bind ?_ (fun _ => ?_)
set_option maxHeartbeats 8000000 in
set_option maxRecDepth 100000 in
theorem spec_Reversed.calls (k : Nat) (a0 : ByteArray) (r : ByteArray) (w : World) (h : spec_Reversed.f k a0 = some r) :
    Calls Tryd.prog 13 #[.string a0] w fun e w' => e = .returned (.string r) ∧ Below w.heap.size w w' := by
  have HB := Aside0.mk (Below.refl w.heap.size w)
  have H : ((spec_Points.f a0).bind fun bt113 => (spec_Reversed.l0 k bt113.1 ([] : List Int) (wrap64 ((bt113.1.length : Int) - 1)))) = some r := h
  clear h
  replace H := Option.bind_eq_some_iff.mp H
  obtain ⟨⟨t113, t114⟩, A20, H⟩ := H
  replace H : (spec_Reversed.l0 k t113 ([] : List Int) (wrap64 ((t113.length : Int) - 1))) = some r := H
  have A2 := Aside0.mk A20
  clear A20
  have H' := Aside0.mk H
  clear H
  go_enter Tryd.func13, Tryd.ntmps13
  go_wp2_with (first | ((with_reducible refine gate_callee (f := 42) rfl ?_); refine goesL_ (some 9) rfl rfl Tryd.func42 (by kernel_rfl) rfl #[.string a0] rfl (by (try simp only [List.map_toArray, List.map_cons, List.map_nil]); first | done | rfl | (simp only [List.length_drop, List.length_take]; rfl)) ?_; (with_reducible refine (spec_Points.calls a0 t113 t114 _ A2.out).mono ?_); rintro e w3 ⟨v115, rfl, ho0, hb⟩; refine ⟨_, rfl, ?_⟩; have n0_ := Aside0.mk (Kd.R_lower ho0 (below_size (by repeat (first | (with_reducible first | exact HB.out | apply below_alloc | apply pw_below_drewN | apply below_drew1) | exact HB.out)))); have n1_ := Aside0.mk (below_step (by repeat (first | (with_reducible first | exact HB.out | apply below_alloc | apply pw_below_drewN | apply below_drew1) | exact HB.out)) hb); clear HB; have HO116 := n0_; have HB := n1_; clear n0_ n1_; (try clear hb); (try clear hb2); (try clear hk); (try clear hi); (try clear ho0); obtain ⟨Ao4, co4, eo4⟩ := Kd.R_slice HO116.out; subst eo4))
  go_loopg [5, 6] k (fun kq v5 v6 w' => ∃ (x5_1 : List Int) (x6_1 : Int), v6 = .int .i64 x6_1 ∧ Aside0 (spec_Reversed.l0 kq t113 x5_1 x6_1 = some r) ∧ Aside0 (kq ≤ k) ∧ Aside0 (Kd.R (Kd.int .i32) 21 w' w.heap.size (fun k_ => some k_ ≠ (v5 : Value).ownBlock) (.slice Ao4 t113.length co4) t113) ∧ Aside0 (Kd.R (Kd.int .i32) 21 w' w.heap.size (fun k_ => some k_ ≠ ((.slice Ao4 t113.length co4) : Value).ownBlock) v5 x5_1) ∧ Aside0 (Below w.heap.size w w'))
  case atStart => exact ⟨(([] : List Int)), (wrap64 ((t113.length : Int) - 1)), (by first | rfl | (simp; done) | (simp [*]; done)), H', ⟨Nat.le_refl _⟩, ⟨by (with_reducible repeat (first | apply Kd.R_alloc | apply Kd.R_drewN | apply Kd.R_drew)); exact Kd.R_mono HO116.out (fun _ hk => (by simp [Value.ownBlock]))⟩, ⟨by first | exact Kd.R_nil _ _ _ _ _ | exact Kd.N_nil _ _ _ _ _ | exact Kd.V_nil _ _ _ _ _ | exact Kd.Q_nil _ _ _ _ _ | exact Kd.S_nil _ _ _ _ _⟩, ⟨by repeat (first | (with_reducible first | exact HB.out | apply below_alloc | apply pw_below_drewN | apply below_drew1) | exact HB.out)⟩⟩
  case round =>
    clear H'
    try clear c1
    try clear p2
    try clear c4
    obtain ⟨x5_1, x6_1, rfl, HA, HK1, HO_3, HO_5, HB⟩ := hrel
    cases gk with
    | zero => exact absurd HA.out (by simp [spec_Reversed.l0])
    | succ k1 =>
      have H := HA.out
      clear HA
      simp only [spec_Reversed.l0] at H
      by_cases c5 : x6_1 ≥ 0
      · rw [if_pos c5] at H
        have c5b0 : decide (0 ≤ x6_1) = true := decide_eq_true c5
        clear c5
        by_cases c6 : 0 ≤ x6_1
        · rw [if_pos c6] at H
          have c6b0 : decide (0 ≤ x6_1) = true := decide_eq_true c6
          clear c6
          by_cases c7 : x6_1 < (t113.length : Int)
          · rw [if_pos c7] at H
            have c7b0 : decide (x6_1 < (t113.length : Int)) = true := decide_eq_true c7
            clear c7
            by_cases c8 : x5_1.length < 35184372088832
            · rw [if_pos c8] at H
              have LMc8 := Aside0.mk c8
              clear c8
              obtain ⟨y118, hy118⟩ : ∃ y_ : List Int, y_ = (x5_1 ++ [rd t113 x6_1]) := ⟨_, rfl⟩
              replace H : (spec_Reversed.l0 k1 t113 y118 (wrap64 (x6_1 - 1))) = some r := by first | (rw [hy118]; with_reducible exact H) | (have H2_ := (Option.bind_some _ _).symm.trans H; rw [hy118]; with_reducible exact H2_) | (have H2_ := (Option.bind_some _ _).symm.trans H; with_reducible exact H2_) | with_reducible exact H | (rw [hy118]; exact H) | exact H
              have Ny118 := Aside0.mk hy118
              clear hy118
              have H' := Aside0.mk H
              clear H
              have p117 : 0 ≤ (x6_1 : Int) := of_decide_eq_true (by first | (with_reducible assumption) | assumption)
              have q117 : x6_1 < (t113.length : Int) := of_decide_eq_true (by first | (with_reducible assumption) | assumption)
              obtain ⟨ad117, e117, hx117_0⟩ := Kd.at_int (Kd.R_reads' HO_3.out).2.2 x6_1 p117 q117
              cases e117
              replace p117 := eq_true p117
              replace q117 := eq_true q117
              go_wp2_with (first | ((with_reducible refine gate_builtin (b := .append) (xs := #[.tmp 19, .tmp 24]) rfl ?_); at_builtin; refine Kd.R_append (Kd.int .i32) (w0 := w) w.heap.size rfl (.tmp 19) (.tmp 24) 25 21 (.int .i32 0) 4 rfl Tryd.underlying25 info21 rfl (by decide) (by omega) u5 x5_1 (rd t113 x6_1) [.int .i32 (rd t113 x6_1)] (fun k_ => some k_ ≠ (.slice (some ad117) t113.length co4 : Value).ownBlock) (fun _ => False) rfl rfl ?aP (fun _ hk => hk.elim) ?aF ?aO ?aB ?aS ?aL ?_; (case aP => exact rfl); (case aB => exact (by repeat (first | (with_reducible first | exact HB.out | apply below_alloc | apply pw_below_drewN | apply below_drew1) | exact HB.out))); (case aF => exact (fun k_ hk => Kd.fresh' (Kd.R_lt (by (with_reducible repeat (first | apply Kd.R_alloc | apply Kd.R_drewN | apply Kd.R_drew)); exact HO_3.out)) k_ hk)); (case aO => exact (by (with_reducible repeat (first | apply Kd.R_alloc | apply Kd.R_drewN | apply Kd.R_drew)); exact HO_5.out)); (case aS => exact (below_size (by repeat (first | (with_reducible first | exact HB.out | apply below_alloc | apply pw_below_drewN | apply below_drew1) | exact HB.out)))); (case aL => have := LMc8.out; omega); intro v119 w9 ho hb hg hat; rw [← Ny118.out] at ho; have n0_ := Aside0.mk (Kd.R_after (ok := (fun _ => True)) (by (with_reducible repeat (first | apply Kd.R_alloc | apply Kd.R_drewN | apply Kd.R_drew)); exact Kd.R_mono HO_3.out (fun _ hk => ⟨trivial, hk⟩)) hg hat); have n1_ := Aside0.mk (hb); have n2_ := Aside0.mk (ho); clear HO_3; clear HB; clear HO_5; have HO_3 := n0_; have HB := n1_; have HO120 := n2_; clear n0_ n1_ n2_; clear ho hb hg hat))
              go_roundg k1
              case measure => have := HK1.out; omega
              case rel => exact ⟨(y118), (wrap64 (x6_1 - 1)), (by first | rfl | (simp; done) | (simp [*]; done)), H', ⟨by have := HK1.out; omega⟩, ⟨by (with_reducible repeat (first | apply Kd.R_alloc | apply Kd.R_drewN | apply Kd.R_drew)); exact Kd.R_mono HO_3.out (fun _ hk => hk.2)⟩, ⟨by (with_reducible repeat (first | apply Kd.R_alloc | apply Kd.R_drewN | apply Kd.R_drew)); exact HO120.out⟩, ⟨by repeat (first | (with_reducible first | exact HB.out | apply below_alloc | apply pw_below_drewN | apply below_drew1) | exact HB.out)⟩⟩
            · rw [if_neg c8] at H
              exact absurd H (by simp)
          · rw [if_neg c7] at H
            exact absurd H (by simp)
        · rw [if_neg c6] at H
          exact absurd H (by simp)
      · rw [if_neg c5] at H
        have c5b0 : decide (0 ≤ x6_1) = false := decide_eq_false c5
        clear c5
        obtain rfl := Option.some.inj H
        have hcv10 := own_runestring (P := Tryd.prog) Tryd.underlying25 Tryd.underlying21 Tryd.underlying9 (Kd.own_of_R HO_5.out)
        have hcv10d := own_runestring_d (P := Tryd.prog) Tryd.underlying25 Tryd.underlying21 Tryd.underlying9 (Kd.own_of_R HO_5.out)
        go_wp2
        go_ret
        exact ⟨by first | rfl | (simp [errW_none, errW_some] <;> rfl) | (simp [*, errW_none, errW_some] <;> rfl), by repeat (first | (with_reducible first | exact HB.out | apply below_alloc | apply pw_below_drewN | apply below_drew1) | exact HB.out)⟩

end Go.Proofs.YtbcccmoddbmffaaDoor.P
